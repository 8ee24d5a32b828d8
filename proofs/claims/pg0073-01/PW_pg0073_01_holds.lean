import PyProof.Rows.All
import Wide.All
import OpenK.AllK
import Wide.FinOn
import PyProof.EnumMake
import Flt.Sum
import Flt.RightMore
import PyProof.FactsAll.str_7
import PyProof.StrLawsTight
import KE.KLam
import PySem.Challenge.RW_pg0073_01
set_option Elab.async false

section
open PySem PySem.W PyProof.Rows
namespace Mine

theorem runs_size {M : Model} {Γ : PySem.Ctx} {p : Pos} {t : Sem Fin} {fs : List PySem.Frame} {s s' : Shared} {e : End} (h : Runs M Γ p t fs s e s') : s.heap.objs.size ≤ s'.heap.objs.size := by
  induction h <;> (try simp only [Shared.setGen, Heap.size_push, Heap.size_after_update] at *) <;> omega

theorem wakes_size {M : Model} {Γ : PySem.Ctx} {p : Pos} {g : Nat} {r : Resume} {s s' : Shared} {res : GenResult} (h : Wakes M Γ p g r s res s') : s.heap.objs.size ≤ s'.heap.objs.size := by
  unfold Wakes at h
  split at h
  · exact h.elim
  · split at h
    · obtain ⟨e₁, s₁, hr, _, _, rfl⟩ := h; exact (runs_size hr : (s.setGen g .running).heap.objs.size ≤ s₁.heap.objs.size)
    · rw [h.2]; exact Nat.le_refl _
    · rw [h.2]; exact Nat.le_refl _
  · obtain ⟨e₁, s₁, hr, _, _, rfl⟩ := h; exact (runs_size hr : (s.setGen g .running).heap.objs.size ≤ s₁.heap.objs.size)
  · rw [h.2]; exact Nat.le_refl _
  · rw [h.2]; exact Nat.le_refl _

theorem wp_size {α : Type} (M : Model) (Γ : PySem.Ctx) (n : Nat) (t : Sem α) : ∀ (Q : α → Pos → Shared → Prop) (E : Value → Pos → Shared → Prop) (p : Pos) (s : Shared), n ≤ s.heap.objs.size → Sem.wp M Γ t Q E p s →
    Sem.wp M Γ t (fun a p' s' => n ≤ s'.heap.objs.size ∧ Q a p' s') (fun e p' s' => n ≤ s'.heap.objs.size ∧ E e p' s') p s := by
  induction t with
  | pure a => intro Q E p s hn h; exact ⟨hn, h⟩
  | raise e => intro Q E p s hn h; exact ⟨hn, h⟩
  | unsupported _ => intro Q E p s _ h; exact h
  | finish _ => intro Q E p s _ h; exact h
  | rule _ k ih => intro Q E p s hn h; exact ih () Q E p s hn h
  | «at» p' k ih => intro Q E p s hn h; exact ih () Q E p' s hn h
  | load a _ k ih => intro Q E p s hn h; obtain ⟨o, ho, h⟩ := h; exact ⟨o, ho, ih o Q E p s hn h⟩
  | update a _ f k ih => intro Q E p s hn h; exact ⟨h.1, ih () Q E p _ (by simpa using hn) h.2⟩
  | loadIfAlive a k ih => intro Q E p s hn h; exact ih _ Q E p s hn h
  | point _ k ih => intro Q E p s hn h; exact ih () Q E p s hn h
  | register _ _ => intro Q E p s _ h; exact h
  | alloc o k ih => intro Q E p s hn h; exact ih _ Q E p _ (by rw [Heap.size_push]; omega) h
  | fresh k ih => intro Q E p s hn h; exact ih _ Q E p _ hn h
  | ask k ih => intro Q E p s hn h; exact ih _ Q E p s hn h
  | choose src m k ih => intro Q E p s hn h; exact ⟨h.1, ih _ Q E p _ hn h.2⟩
  | os q _ k ih => intro Q E p s hn h; exact ih _ Q E p _ hn h
  | call c hd _ _ k ih => intro Q E p s hn h; obtain ⟨r, s', hr, h⟩ := h; exact ⟨r, s', hr, ih r Q E p s' (Nat.le_trans hn (runs_size hr)) h⟩
  | handled own k ih => intro Q E p s hn h; exact ih _ Q E p s hn h
  | genState g k ih => intro Q E p s hn h; obtain ⟨st, hs, h⟩ := h; exact ⟨st, hs, ih _ Q E p s hn h⟩
  | newGen c k ih => intro Q E p s hn h; exact ih _ Q E p _ hn h
  | resume g r _ k ih => intro Q E p s hn h; obtain ⟨res, s', hw, h⟩ := h; exact ⟨res, s', hw, ih res Q E p s' (Nat.le_trans hn (wakes_size hw)) h⟩
  | yield _ _ _ _ => intro Q E p s _ h; exact h
  | stack k ih => intro Q E p s hn h; exact ih _ Q E p s hn h
  | fork _ _ => intro Q E p s _ h; exact h
  | thread k ih => intro Q E p s hn h; exact ih _ Q E p s hn h
  | await _ _ _ _ _ => intro Q E p s _ h; exact h

/-- the state only grows: tokens and the heap's size -/
noncomputable def Grows (s s' : Shared) : Prop := s.toks ≤ s'.toks ∧ s.heap.objs.size ≤ s'.heap.objs.size
theorem Grows.trans {a b c : Shared} (x : Grows a b) (y : Grows b c) : Grows a c := ⟨Nat.le_trans x.1 y.1, Nat.le_trans x.2 y.2⟩
theorem Grows.refl (a : Shared) : Grows a a := ⟨Nat.le_refl _, Nat.le_refl _⟩

section
variable {α : Type} {M : Model} {A : Around} {s s₀ : Shared}
theorem wpAny_grows {t : Sem α} {Q : α → Shared → Prop} {E : Value → Shared → Prop} (hn : Grows s₀ s)
    (h : wpAny M A t (fun a s' => Grows s₀ s' → Q a s') (fun e s' => Grows s₀ s' → E e s') s) : wpAny M A t Q E s := by
  refine wpAny_with_toks hn.1 ?_
  intro Γ p hΓ
  refine Sem.wp_mono M Γ t ?_ ?_ p s (wp_size M Γ s₀.heap.objs.size t _ _ p s hn.2 (h Γ p hΓ))
  · intro a p' s' h1 h2; exact h1.2 ⟨h2, h1.1⟩
  · intro a p' s' h1 h2; exact h1.2 ⟨h2, h1.1⟩
theorem codeAny_grows {c : Code} {R : Result → Shared → Prop} (hn : Grows s₀ s) (h : codeAny M A c (fun r s' => Grows s₀ s' → R r s') s) : codeAny M A c R s :=
  fun Γ p hc hΓ => by obtain ⟨r, s', hr, hR⟩ := h Γ p hc hΓ; exact ⟨r, s', hr, hR ⟨Nat.le_trans hn.1 hr.toks_le, Nat.le_trans hn.2 (runs_size hr)⟩⟩
end
end Mine
end

section
open PySem PySem.W PyProof.Rows
namespace Mine

inductive D where
  | none
  | bool (b : Bool)
  | int (i : Int)
  | flt (b : UInt64)
  | str (s : Str)
  | tup (l : List D)
  | lst (l : List D)
  | fn (o : Obj)

noncomputable def isVal : Data → Bool
  | .seq _ _ => true
  | .func _ => true
  | _ => false

mutual
inductive Rp (X : List Addr) (h : Heap) : Value → D → Prop
  | none : Rp X h .none .none
  | bool (b : Bool) : Rp X h (.bool b) (.bool b)
  | int (i : Int) (t : Tok) : Rp X h (.int i t) (.int i)
  | flt (b : UInt64) (t : Tok) (ht : t ≠ 0) : Rp X h (.float b t) (.flt b)
  | str (s : Str) (t : Tok) : Rp X h (.str s t) (.str s)
  | tup {a : Addr} {n : Nat} {vs : List Value} {ds : List D} : a ∉ X → h.get? a = some { cls := .type "tuple", data := .seq vs.toArray n } → vs.length ≤ sizeLine → RpAll X h vs ds → Rp X h (.ref a) (.tup ds)
  | lst {a : Addr} {n : Nat} {vs : List Value} {ds : List D} : a ∉ X → h.get? a = some { cls := .type "list", data := .seq vs.toArray n } → vs.length ≤ sizeLine → RpAll X h vs ds → Rp X h (.ref a) (.lst ds)
  | fn {a : Addr} {o : Obj} {fd : FuncData} : a ∉ X → h.get? a = some o → o.data = .func fd → Rp X h (.ref a) (.fn o)
inductive RpAll (X : List Addr) (h : Heap) : List Value → List D → Prop
  | nil : RpAll X h [] []
  | cons {v : Value} {d : D} {vs : List Value} {ds : List D} : Rp X h v d → RpAll X h vs ds → RpAll X h (v :: vs) (d :: ds)
end

/-- every object that is a sequence and not hidden is kept -/
noncomputable def SeqKeep (X : List Addr) (h h' : Heap) : Prop := ∀ (b : Addr) (o : Obj) (_ _ : Unit), b ∉ X → h.get? b = some o → isVal o.data = true → h'.get? b = some o
noncomputable def HKeep (h h' : Heap) : Prop := ∀ b o, h.get? b = some o → h'.get? b = some o

theorem HKeep.refl (h : Heap) : HKeep h h := fun _ _ e => e
theorem HKeep.trans {a b c : Heap} (x : HKeep a b) (y : HKeep b c) : HKeep a c := fun p o e => y p o (x p o e)
theorem HKeep.push (h : Heap) (o : Obj) : HKeep h (h.push o) := fun _ _ e => Heap.get?_push_of_some o e
theorem HKeep.seq {X : List Addr} {h h' : Heap} (x : HKeep h h') : SeqKeep X h h' := fun b o _ _ _ e _ => x b o e
theorem SeqKeep.trans {X : List Addr} {a b c : Heap} (x : SeqKeep X a b) (y : SeqKeep X b c) : SeqKeep X a c := fun p o xs n hp e hd => y p o xs n hp (x p o xs n hp e hd) hd

theorem RpAll.seq {X : List Addr} {h h' : Heap} (k : SeqKeep X h h') {vs : List Value} {ds : List D} (r : RpAll X h vs ds) : RpAll X h' vs ds :=
  RpAll.rec (motive_1 := fun v d _ => Rp X h' v d) (motive_2 := fun vs ds _ => RpAll X h' vs ds) .none .bool .int .flt .str (fun hx ht hs _ ha => .tup hx (k _ _ () () hx ht rfl) hs ha) (fun hx ht hs _ ha => .lst hx (k _ _ () () hx ht rfl) hs ha)
    (fun hx ht hd => .fn hx (k _ _ () () hx ht (by rw [hd]; rfl)) hd) .nil (fun _ _ a b => .cons a b) r
theorem Rp.seq {X : List Addr} {h h' : Heap} (k : SeqKeep X h h') {v : Value} {d : D} (r : Rp X h v d) : Rp X h' v d := by
  cases RpAll.seq k (.cons r .nil) with | cons a _ => exact a
/-- the hidden addresses may be exchanged for others that the heap does not hold, or for fewer -/
theorem RpAll.hide {X Y : List Addr} {h : Heap} (k : ∀ b ∈ Y, b ∈ X ∨ h.get? b = none) {vs : List Value} {ds : List D} (r : RpAll X h vs ds) : RpAll Y h vs ds := by
  have q : ∀ {a o}, a ∉ X → h.get? a = some o → a ∉ Y := fun hx ht hy => (k _ hy).elim hx (fun e => by rw [ht] at e; cases e)
  exact RpAll.rec (motive_1 := fun v d _ => Rp Y h v d) (motive_2 := fun vs ds _ => RpAll Y h vs ds) .none .bool .int .flt .str (fun hx ht hs _ ha => .tup (q hx ht) ht hs ha) (fun hx ht hs _ ha => .lst (q hx ht) ht hs ha)
    (fun hx ht hd => .fn (q hx ht) ht hd) .nil (fun _ _ a b => .cons a b) r
theorem Rp.hide {X Y : List Addr} {h : Heap} (k : ∀ b ∈ Y, b ∈ X ∨ h.get? b = Option.none) {v : Value} {d : D} (r : Rp X h v d) : Rp Y h v d := by
  cases RpAll.hide k (.cons r .nil) with | cons a _ => exact a
theorem Rp.keeps {X : List Addr} {h h' : Heap} (k : HKeep h h') {v : Value} {d : D} (r : Rp X h v d) : Rp X h' v d := r.seq k.seq
theorem RpAll.keeps {X : List Addr} {h h' : Heap} (k : HKeep h h') {vs : List Value} {ds : List D} (r : RpAll X h vs ds) : RpAll X h' vs ds := r.seq k.seq

theorem RpAll.length {X : List Addr} {h : Heap} {vs : List Value} {ds : List D} (r : RpAll X h vs ds) : vs.length = ds.length :=
  RpAll.rec (motive_1 := fun _ _ _ => True) (motive_2 := fun vs ds _ => vs.length = ds.length) trivial (fun _ => trivial) (fun _ _ => trivial) (fun _ _ _ => trivial) (fun _ _ => trivial) (fun _ _ _ _ _ => trivial) (fun _ _ _ _ _ => trivial) (fun _ _ _ => trivial) rfl (fun _ _ _ b => congrArg (· + 1) b) r
theorem RpAll.get {X : List Addr} {h : Heap} : ∀ {vs : List Value} {ds : List D} {i : Nat} {d : D}, RpAll X h vs ds → ds[i]? = some d → ∃ v, vs[i]? = some v ∧ Rp X h v d := by
  intro vs
  induction vs with
  | nil => intro ds i d r e; cases r; cases e
  | cons v vs ih =>
    intro ds i d r e
    cases r with
    | cons a t =>
      cases i with
      | zero => cases e; exact ⟨_, rfl, a⟩
      | succ i => exact ih t e
theorem RpAll.snoc {X : List Addr} {h : Heap} {v : Value} {d : D} (r : Rp X h v d) : ∀ {vs : List Value} {ds : List D}, RpAll X h vs ds → RpAll X h (vs ++ [v]) (ds ++ [d]) := by
  intro vs
  induction vs with
  | nil => intro ds t; cases t; exact .cons r .nil
  | cons _ _ ih => intro ds t; cases t with | cons a t => exact .cons a (ih t)
theorem RpAll.app {X : List Addr} {h : Heap} {vs' : List Value} {ds' : List D} (r : RpAll X h vs' ds') : ∀ {vs : List Value} {ds : List D}, RpAll X h vs ds → RpAll X h (vs ++ vs') (ds ++ ds') := by
  intro vs
  induction vs with
  | nil => intro ds t; cases t; exact r
  | cons _ _ ih => intro ds t; cases t with | cons a t => exact .cons a (ih t)

theorem Keeps.refl (s : Shared) : Keeps s s := ⟨s.heap, s.toks, rfl, fun _ _ e => e⟩
theorem Keeps.trans {a b c : Shared} (x : Keeps a b) (y : Keeps b c) : Keeps a c := by
  obtain ⟨h1, t1, rfl, k1⟩ := x
  obtain ⟨h2, t2, rfl, k2⟩ := y
  exact ⟨h2, t2, rfl, fun b o e => k2 b o (k1 b o e)⟩
theorem Keeps.heap {a b : Shared} (x : Keeps a b) : HKeep a.heap b.heap := by
  obtain ⟨h1, t1, rfl, k1⟩ := x
  exact k1
theorem Keeps.tok (s : Shared) (t : Nat) : Keeps s { s with toks := t } := ⟨s.heap, t, rfl, fun _ _ e => e⟩
theorem Keeps.of_push (s : Shared) (o : Obj) : Keeps s { s with heap := s.heap.push o } := ⟨_, s.toks, rfl, HKeep.push _ _⟩
theorem Keeps.mk' {s : Shared} {h : Heap} {t : Nat} (k : HKeep s.heap h) : Keeps s { s with heap := h, toks := t } := ⟨h, t, rfl, k⟩

/-- what the result of an expression is -/
noncomputable def Out (X : List Addr) (s : Shared) (d : D) (v : Value) (s' : Shared) : Prop := Keeps s s' ∧ Rp X s'.heap v d

structure EnvWf (env : Env) : Prop where
  kind : env.scope.kind = .function
  glob : env.globals = mainGlobals
  blt : env.builtins = builtinsNs

noncomputable def VarAt (h : Heap) (env : Env) (x : Str) (v : Value) : Prop :=
  (env.kindOf x = some .local ∧ ∃ m, h.Ns env.locals m ∧ m x = some v) ∨
  ((env.kindOf x = some .cell ∨ env.kindOf x = some .free) ∧ ∃ c, env.cells.lookup x = some c ∧ h.IsCell c (some v))

theorem VarAt.keeps {h h' : Heap} {env : Env} {x : Str} {v : Value} (k : HKeep h h') (a : VarAt h env x v) : VarAt h' env x v := by
  rcases a with ⟨hk, m, hn, hv⟩ | ⟨hk, c, hc, hv⟩
  · exact .inl ⟨hk, m, hn.keeps k, hv⟩
  · exact .inr ⟨hk, c, hc, hv.keeps k⟩

noncomputable abbrev Rho := List (Str × D)
noncomputable def Vars (X : List Addr) (h : Heap) (env : Env) (ρ : Rho) : Prop := ∀ x d, ρ.lookup x = some d → ∃ v, VarAt h env x v ∧ Rp X h v d
theorem Vars.keeps {X : List Addr} {h h' : Heap} {env : Env} {ρ : Rho} (k : HKeep h h') (a : Vars X h env ρ) : Vars X h' env ρ := fun x d e =>
  let ⟨v, h1, h2⟩ := a x d e; ⟨v, h1.keeps k, h2.keeps k⟩

noncomputable def okName (x : Str) : Bool := !(x == ("__debug__" : Str)) && !(x == ("__classdict__" : Str))

section
variable {M : Model} {A : Around} {E : Value → Shared → Prop} {s : Shared} {env : Env}

theorem ev_var {X : List Addr} {ρ : Rho} {x : Str} {d : D} {pos : Pos} {Q : Value → Shared → Prop} (W : EnvWf env) (V : Vars X s.heap env ρ) (hx : ρ.lookup x = some d) (hn : okName x = true)
    (h : ∀ v s', Out X s d v s' → Q v s') : wpAny M A (eval (.Name x pos) env) Q E s := by
  unfold okName at hn
  simp only [Bool.and_eq_true, Bool.not_eq_true'] at hn
  obtain ⟨v, hv, r⟩ := V x d hx
  refine wpAny_Name ?_ hn.1
  rcases hv with ⟨hk, m, hns, hm⟩ | ⟨hk | hk, c, hc, hv⟩
  · exact wpAny_loadName_local W.kind hk hns hm (h v s ⟨Keeps.refl s, r⟩)
  · exact wpAny_loadName_cell W.kind hk hc hv (h v s ⟨Keeps.refl s, r⟩)
  · exact wpAny_loadName_free W.kind hk hc hv (h v s ⟨Keeps.refl s, r⟩) hn.2
end
end Mine
end

section
open PySem PySem.W PyProof.Rows PySem.SeqAt
namespace Mine

mutual
noncomputable def deq : Nat → D → D → Option Bool
  | 0, _, _ => none
  | k + 1, a, b => match a, b with
    | .none, .none => some true
    | .none, .lst _ => some false
    | .lst _, .none => some false
    | .bool x, .bool y => some (x == y)
    | .int x, .int y => some (x == y)
    | .flt x, .flt y => if Float64.cmp x y == some .eq then some true else none
    | .str x, .str y => some (x == y)
    | .tup x, .tup y => deqs k x y
    | .lst x, .lst y => deqs k x y
    | _, _ => none
noncomputable def deqs : Nat → List D → List D → Option Bool
  | 0, _, _ => none
  | k + 1, a, b => match a, b with
    | [], [] => some true
    | x :: xs, y :: ys => match deq k x y, deqs k xs ys with
      | some p, some q => some (p && q)
      | _, _ => none
    | [], _ :: _ => some false
    | _ :: _, [] => some false
end

theorem rc_flt {A : Around} {s : Shared} (a : UInt64) (t : Tok) (b : UInt64) (u : Tok) : RcAt A s (.float a t) (.float b u) (Float64.cmp a b == some .eq) :=
  fun _ _ _ _ h => AutoFloatOps.eq_0 h

theorem wpAny_isSame_flt {M : Model} {A : Around} {E : Value → Shared → Prop} {s : Shared} {y z : UInt64} {u v : Tok} {Q : Bool → Shared → Prop}
    (h0 : u ≠ 0) (h1 : v ≠ 0) (hb : NoneBooked s.heap) (hq : ∀ b, Q b s) : wpAny M A (isSame (.float y u) (.float z v)) Q E s := by
  show wpAny M A (isSame.created (y == z && !Float64.isNaN y) u v) Q E s
  unfold isSame.created
  refine wpAny_ite ?_
  split
  · rename_i h; simp [h0, h1] at h
  refine wpAny_ite ?_
  split
  · exact wpAny_pure (hq _)
  refine wpAny_ite ?_
  split
  · exact wpAny_pure (hq _)
  refine wpAny_bind (wpAny_sharingNotTold_none hb ?_)
  rw [if_neg Bool.false_ne_true]
  refine wpAny_bind (wpAny_sharingNotTold_none hb ?_)
  rw [if_neg Bool.false_ne_true]
  exact wpAny_bind (wpAny_rule (wpAny_bind (wpAny_askSetting (wpAny_pure (hq _)))))

theorem eqAt_flt {A : Around} {s : Shared} {a : UInt64} {t : Tok} {b : UInt64} {u : Tok} (hb : NoneBooked s.heap) (ht : t ≠ 0) (hu : u ≠ 0) (h : (Float64.cmp a b == some .eq) = true) :
    EqAt A s (.float a t) (.float b u) true := fun prog w E Q hq => by
  unfold eqBool
  refine wpAny_holding ?_
  refine wpAny_ite_split (fun _ => wpAny_bind (wpAny_rule (wpAny_pure hq))) (fun _ => ?_)
  have fin : wpAny (model prog w) A (do truthOfDropped (← richCompare .Eq (.float a t) (.float b u))) Q E s := by
    refine wpAny_bind (rc_flt a t b u prog w E _ ?_)
    rw [h]
    exact wpAny_truthy_bool hq
  refine wpAny_bind (wpAny_isSame_flt ht hu hb fun k => ?_)
  cases k with
  | true => exact wpAny_pure hq
  | false => exact fin

theorem rp_isTuple {h : Heap} {a : Addr} {n : Nat} {vs : List Value} (e : h.get? a = some { cls := .type "tuple", data := .seq vs.toArray n }) : h.IsTuple a vs.toArray := ⟨_, e, rfl, n, rfl⟩
theorem rp_isList {h : Heap} {a : Addr} {n : Nat} {vs : List Value} (e : h.get? a = some { cls := .type "list", data := .seq vs.toArray n }) : h.IsList a vs.toArray := ⟨_, e, rfl, n, rfl⟩

noncomputable def PairEq (A : Around) (s : Shared) (vs ws : List Value) (e : Nat → Bool) : Prop := ∀ j (h1 : j < vs.length) (h2 : j < ws.length), EqAt A s vs[j] ws[j] (e j)

theorem range_all_succ (n : Nat) (e : Nat → Bool) : (List.range (n + 1)).all e = (e 0 && (List.range n).all fun j => e (j + 1)) := by
  rw [List.range_succ_eq_map]
  simp [List.all_map, Function.comp_def]

theorem unitsIn1 (A : Around) : A.in1.units = A.units + 1 := rfl

theorem deqs_self {X : List Addr} : ∀ (k : Nat), (∀ j, j < k → ∀ (h : Heap) (v : Value) (d dw : D) (p : Bool), deq j d dw = some p → Rp X h v d → Rp X h v dw → p = true) →
    ∀ (h : Heap) (vs : List Value) (ds dws : List D) (p : Bool), deqs k ds dws = some p → RpAll X h vs ds → RpAll X h vs dws → p = true
  | 0, _, _, _, _, _, _, e, _, _ => by cases e
  | k + 1, ih, h, vs, ds, dws, p, e, ra, rb => by
    cases ra with
    | nil => cases rb; cases e; rfl
    | cons r rs =>
      cases rb with
      | cons r' rs' =>
        simp only [deqs] at e
        split at e
        · rename_i p1 q1 h1 h2
          cases e
          rw [ih k (Nat.lt_succ_self _) h _ _ _ _ h1 r r', deqs_self k (fun j hj => ih j (Nat.lt_succ_of_lt hj)) h _ _ _ _ h2 rs rs']; rfl
        · cases e
theorem deq_self {X : List Addr} : ∀ (k : Nat) (h : Heap) (v : Value) (d dw : D) (p : Bool), deq k d dw = some p → Rp X h v d → Rp X h v dw → p = true := by
  intro k
  induction k using Nat.strongRecOn with
  | ind k ih =>
    intro h v d dw p e ra rb
    cases k with
    | zero => cases e
    | succ k =>
      cases ra with
      | none => cases rb; cases e; first | rfl | exact beq_self_eq_true _
      | bool x => cases rb; cases e; first | rfl | exact beq_self_eq_true _
      | int x t => cases rb; cases e; first | rfl | exact beq_self_eq_true _
      | flt x t ht =>
        cases rb
        change ite _ _ _ = _ at e
        split at e
        · cases e; rfl
        · cases e
      | str x t => cases rb; cases e; first | rfl | exact beq_self_eq_true _
      | @tup a n vs ds hx h1 h2 h3 =>
        cases rb with
        | @tup _ n' vs' ds' gx g1 g2 g3 =>
          have e' : deqs k ds ds' = some p := e
          have : vs = vs' := by have := h1.symm.trans g1; simpa using (show vs.toArray = vs'.toArray by injection this with q; injection q with _ _ q; injection q)
          subst this
          exact deqs_self k (fun j hj => ih j (Nat.lt_succ_of_lt hj)) h _ _ _ _ e' h3 g3
        | lst _ g1 _ _ =>
          have := h1.symm.trans g1
          injection this with q
          injection q with q
          exact absurd q (by decide)
        | fn _ _ _ => cases e
      | @lst a n vs ds hx h1 h2 h3 =>
        cases rb with
        | @lst _ n' vs' ds' gx g1 g2 g3 =>
          have e' : deqs k ds ds' = some p := e
          have : vs = vs' := by have := h1.symm.trans g1; simpa using (show vs.toArray = vs'.toArray by injection this with q; injection q with _ _ q; injection q)
          subst this
          exact deqs_self k (fun j hj => ih j (Nat.lt_succ_of_lt hj)) h _ _ _ _ e' h3 g3
        | tup _ g1 _ _ =>
          have := h1.symm.trans g1
          injection this with q
          injection q with q
          exact absurd q (by decide)
        | fn _ _ _ => cases e
      | fn gx g1 g2 => cases rb <;> cases e

mutual
theorem deq_rc {X : List Addr} : ∀ (k : Nat) (da db : D) (b : Bool) (A : Around) (s : Shared) (va vb : Value), deq k da db = some b → NoneBooked s.heap → A.units + k < cLine → Rp X s.heap va da → Rp X s.heap vb db → RcAt A s va vb b
  | 0, _, _, _, _, _, _, _, e, _, _, _, _ => by cases e
  | k + 1, da, db, b, A, s, va, vb, e, nb, hu, ra, rb => by
    cases ra with
    | none =>
      cases rb with
      | none => cases e; exact RcAt.none_none
      | lst hx h1 h2 h3 => cases e; exact RcAt.none_list (rp_isList h1) (by omega)
      | _ => cases e
    | bool x =>
      cases rb with
      | bool y => cases e; exact RcAt.bool_bool x y
      | _ => cases e
    | int x t =>
      cases rb with
      | int y u => cases e; exact RcAt.int_int x t y u
      | _ => cases e
    | flt x t ht =>
      cases rb with
      | flt y u hu' =>
        change ite _ _ _ = _ at e
        split at e
        · rename_i hc
          cases e
          have := rc_flt (A := A) (s := s) x t y u
          rwa [hc] at this
        · cases e
      | _ => cases e
    | str x t =>
      cases rb with
      | str y u => cases e; exact RcAt.str_str x t y u
      | _ => cases e
    | @tup a n vs ds hx h1 h2 h3 =>
      cases rb with
      | @tup a' n' vs' ds' gx g1 g2 g3 =>
        have e' : deqs k ds ds' = some b := e
        obtain ⟨f, hf, hb⟩ := deqs_eq k ds ds' b A.in1 s vs vs' e' nb (by rw [unitsIn1]; omega) h3 g3
        have := RcAt.tuples (A := A) (s := s) (e := f) (rp_isTuple h1) (rp_isTuple g1) (by omega) (fun j j1 j2 => by simpa using hf j (by simpa using j1) (by simpa using j2))
        simp only [List.size_toArray] at this
        rwa [hb] at this
      | _ => cases e
    | @lst a n vs ds hx h1 h2 h3 =>
      cases rb with
      | @lst a' n' vs' ds' gx g1 g2 g3 =>
        have e' : deqs k ds ds' = some b := e
        obtain ⟨f, hf, hb⟩ := deqs_eq k ds ds' b A.in1 s vs vs' e' nb (by rw [unitsIn1]; omega) h3 g3
        by_cases hsz : vs.length = vs'.length
        · have := RcAt.lists (A := A) (s := s) (e := f) (rp_isList h1) (rp_isList g1) (by simpa using hsz) (by omega) (fun j j1 j2 => by simpa using hf j (by simpa using j1) (by simpa using j2))
          simp only [List.size_toArray] at this
          rw [hsz] at hb
          simp only [Nat.min_self, beq_self_eq_true, Bool.and_true] at hb
          rw [hsz] at this
          rwa [hb] at this
        · have h0 : (vs.length == vs'.length) = false := by simpa using hsz
          rw [h0, Bool.and_false] at hb
          subst hb
          exact RcAt.lists_lengths (rp_isList h1) (rp_isList g1) (by simpa using hsz) (by omega)
      | none => cases e; exact RcAt.list_none (rp_isList h1) (by omega)
      | _ => cases e
    | fn gx g1 g2 => cases rb <;> cases e
theorem deq_at {X : List Addr} : ∀ (k : Nat) (da db : D) (b : Bool) (A : Around) (s : Shared) (va vb : Value), deq k da db = some b → NoneBooked s.heap → A.units + k < cLine → Rp X s.heap va da → Rp X s.heap vb db → EqAt A s va vb b
  | 0, _, _, _, _, _, _, _, e, _, _, _, _ => by cases e
  | k + 1, da, db, b, A, s, va, vb, e, nb, hu, ra, rb => by
    cases ra with
    | none =>
      cases rb with
      | none => cases e; exact EqAt.same _
      | lst hx h1 h2 h3 => cases e; exact EqAt.none_list (rp_isList h1) (by omega)
      | _ => cases e
    | bool x =>
      cases rb with
      | bool y => cases e; exact EqAt.bool_bool x y
      | _ => cases e
    | int x t =>
      cases rb with
      | int y u => cases e; exact EqAt.int_int x t y u
      | _ => cases e
    | flt x t ht =>
      cases rb with
      | flt y u hu' =>
        change ite _ _ _ = _ at e
        split at e
        · rename_i hc
          cases e
          exact eqAt_flt nb ht hu' hc
        · cases e
      | _ => cases e
    | str x t =>
      cases rb with
      | str y u => cases e; exact EqAt.str_str x t y u
      | _ => cases e
    | @tup a n vs ds hx h1 h2 h3 =>
      cases rb with
      | @tup a' n' vs' ds' gx g1 g2 g3 =>
        have e' : deqs k ds ds' = some b := e
        by_cases haa : a = a'
        · subst haa
          have : b = true := deq_self (k + 1) s.heap (.ref a) _ _ b e (.tup hx h1 h2 h3) (.tup gx g1 g2 g3)
          subst this
          exact EqAt.same _
        · obtain ⟨f, hf, hb⟩ := deqs_eq k ds ds' b A.in1 s vs vs' e' nb (by rw [unitsIn1]; omega) h3 g3
          have := RcAt.tuples (A := A) (s := s) (e := f) (rp_isTuple h1) (rp_isTuple g1) (by omega) (fun j j1 j2 => by simpa using hf j (by simpa using j1) (by simpa using j2))
          simp only [List.size_toArray] at this
          rw [hb] at this
          exact EqAt.of_refs haa this
      | _ => cases e
    | @lst a n vs ds hx h1 h2 h3 =>
      cases rb with
      | @lst a' n' vs' ds' gx g1 g2 g3 =>
        have e' : deqs k ds ds' = some b := e
        by_cases haa : a = a'
        · subst haa
          have : b = true := deq_self (k + 1) s.heap (.ref a) _ _ b e (.lst hx h1 h2 h3) (.lst gx g1 g2 g3)
          subst this
          exact EqAt.same _
        · refine EqAt.of_refs haa ?_
          obtain ⟨f, hf, hb⟩ := deqs_eq k ds ds' b A.in1 s vs vs' e' nb (by rw [unitsIn1]; omega) h3 g3
          by_cases hsz : vs.length = vs'.length
          · have := RcAt.lists (A := A) (s := s) (e := f) (rp_isList h1) (rp_isList g1) (by simpa using hsz) (by omega) (fun j j1 j2 => by simpa using hf j (by simpa using j1) (by simpa using j2))
            simp only [List.size_toArray] at this
            rw [hsz] at hb
            simp only [Nat.min_self, beq_self_eq_true, Bool.and_true] at hb
            rw [hsz] at this
            rwa [hb] at this
          · have h0 : (vs.length == vs'.length) = false := by simpa using hsz
            rw [h0, Bool.and_false] at hb
            subst hb
            exact RcAt.lists_lengths (rp_isList h1) (rp_isList g1) (by simpa using hsz) (by omega)
      | none => cases e; exact EqAt.list_none (rp_isList h1) (by omega)
      | _ => cases e
    | fn gx g1 g2 => cases rb <;> cases e
theorem deqs_eq {X : List Addr} : ∀ (k : Nat) (xs ys : List D) (b : Bool) (A : Around) (s : Shared) (vs ws : List Value), deqs k xs ys = some b → NoneBooked s.heap → A.units + k < cLine → RpAll X s.heap vs xs → RpAll X s.heap ws ys →
    ∃ f : Nat → Bool, PairEq A s vs ws f ∧ ((List.range (min vs.length ws.length)).all f && vs.length == ws.length) = b
  | 0, _, _, _, _, _, _, _, e, _, _, _, _ => by cases e
  | k + 1, xs, ys, b, A, s, vs, ws, e, nb, hu, ra, rb => by
    cases ra with
    | nil =>
      cases rb with
      | nil => cases e; exact ⟨fun _ => true, fun j h1 _ => absurd h1 (Nat.not_lt_zero _), by simp⟩
      | cons _ _ => cases e; exact ⟨fun _ => true, fun j h1 _ => absurd h1 (Nat.not_lt_zero _), by simp⟩
    | @cons v d vs' ds' r rs =>
      cases rb with
      | nil => cases e; exact ⟨fun _ => true, fun j _ h2 => absurd h2 (Nat.not_lt_zero _), by simp⟩
      | @cons w dw ws' dws' r' rs' =>
        simp only [deqs] at e
        cases hp : deq k d dw with
        | none => rw [hp] at e; cases e
        | some p =>
          cases hq : deqs k ds' dws' with
          | none => rw [hp, hq] at e; cases e
          | some q =>
            rw [hp, hq] at e
            cases e
            obtain ⟨f, hf, hb⟩ := deqs_eq k ds' dws' q A s vs' ws' hq nb (by omega) rs rs'
            refine ⟨fun j => match j with | 0 => p | j + 1 => f j, fun j h1 h2 => ?_, ?_⟩
            · cases j with
              | zero => exact deq_at k d dw p A s v w hp nb (by omega) r r'
              | succ j => exact hf j (Nat.lt_of_succ_lt_succ h1) (Nat.lt_of_succ_lt_succ h2)
            · have : min (vs'.length + 1) (ws'.length + 1) = min vs'.length ws'.length + 1 := by omega
              simp only [List.length_cons, this, range_all_succ]
              rw [← hb]
              cases p <;> simp
end
end Mine
end

section
open PySem PySem.W PyProof.Rows PySem.SeqAt
namespace Mine

noncomputable def sm (i : Int) : Bool := decide (-(2 ^ 63) < i) && decide (i < 2 ^ 63)

noncomputable def binP (op : Operator) (a b : D) : Option D := match op with
  | .Add => (match a, b with
    | .int x, .int y => some (.int (x + y))
    | .flt x, .flt y => some (.flt (Float64.add x y))
    | .str x, .str y => if x.length + y.length ≤ sizeLine then some (.str (x ++ y)) else none
    | .lst x, .lst y => if x.length + y.length ≤ sizeLine then some (.lst (x ++ y)) else none
    | _, _ => none)
  | .Sub => (match a, b with
    | .int x, .int y => some (.int (x - y))
    | .flt x, .flt y => some (.flt (Float64.sub x y))
    | .flt x, .int y => if Float64.isInf (Float64.ofInt y) then none else some (.flt (Float64.sub x (Float64.ofInt y)))
    | _, _ => none)
  | .Mult => (match a, b with
    | .int x, .int y => if sm x then some (.int (x * y)) else none
    | .flt x, .flt y => some (.flt (Float64.mul x y))
    | .int x, .flt y => if Float64.isInf (Float64.ofInt x) then none else some (.flt (Float64.mul (Float64.ofInt x) y))
    | .flt x, .int y => if Float64.isInf (Float64.ofInt y) then none else some (.flt (Float64.mul x (Float64.ofInt y)))
    | _, _ => none)
  | .Div => (match a, b with
    | .int x, .int y => if y == 0 then none else if Float64.isInf (Float64.ofFrac (decide (x < 0) != decide (y < 0)) x.natAbs y.natAbs) then none else
        some (.flt (Float64.ofFrac (decide (x < 0) != decide (y < 0)) x.natAbs y.natAbs))
    | .flt x, .flt y => if Float64.isZero y then none else some (.flt (Float64.div x y))
    | .flt x, .int y => if Float64.isInf (Float64.ofInt y) then none else if Float64.isZero (Float64.ofInt y) then none else some (.flt (Float64.div x (Float64.ofInt y)))
    | _, _ => none)
  | .FloorDiv => (match a, b with
    | .int x, .int y => if y = 0 then none else if y.natAbs < 1073741824 then some (.int (x.fdiv y)) else none
    | _, _ => none)
  | .Mod => (match a, b with
    | .int x, .int y => if y = 0 then none else some (.int (x.fmod y))
    | .flt x, .flt y => if Float64.isZero y then none else some (.flt (Float64.divmod x y).snd)
    | _, _ => none)
  | _ => none

section
variable {prog : Program} {w : World} {A : Around} {E : Value → Shared → Prop} {s : Shared}

theorem out_int (X : List Addr) (s : Shared) (i : Int) : Out X s (.int i) (.int i s.toks) { s with toks := s.toks + 1 } := ⟨Keeps.tok _ _, .int _ _⟩
theorem out_flt (X : List Addr) (hs : 0 < s.toks) (b : UInt64) : Out X s (.flt b) (.float b s.toks) { s with toks := s.toks + 1 } := ⟨Keeps.tok _ _, .flt _ _ (Nat.ne_of_gt hs)⟩
theorem out_str (X : List Addr) (s : Shared) (x : Str) (t tk : Nat) : Out X s (.str x) (.str x t) { s with toks := tk } := ⟨Keeps.tok _ _, .str _ _⟩
theorem out_bool (X : List Addr) (s : Shared) (b : Bool) : Out X s (.bool b) (.bool b) s := ⟨Keeps.refl _, .bool _⟩
noncomputable def Low (X : List Addr) (h : Heap) : Prop := ∀ b ∈ X, b < h.objs.size
theorem Low.new {X : List Addr} {h : Heap} (L : Low X h) : h.objs.size ∉ X := fun hm => Nat.lt_irrefl _ (L _ hm)
theorem out_list {X : List Addr} {vs : List Value} {ds : List D} (L : Low X s.heap) (r : RpAll X s.heap vs ds) (hl : vs.length ≤ sizeLine) :
    Out X s (.lst ds) (.ref s.heap.objs.size) { s with heap := s.heap.push { cls := .type "list", data := .seq vs.toArray } } :=
  ⟨Keeps.of_push _ _, .lst L.new (Heap.get?_push_size _ rfl) hl (r.keeps (HKeep.push _ _))⟩
theorem out_tuple {X : List Addr} {vs : List Value} {ds : List D} (L : Low X s.heap) (r : RpAll X s.heap vs ds) (hl : vs.length ≤ sizeLine) :
    Out X s (.tup ds) (.ref s.heap.objs.size) { s with heap := s.heap.push { cls := .type "tuple", data := .seq vs.toArray } } :=
  ⟨Keeps.of_push _ _, .tup L.new (Heap.get?_push_size _ rfl) hl (r.keeps (HKeep.push _ _))⟩

theorem bin_ok {X : List Addr} {op : Operator} {da db d : D} {va vb : Value} {Q : Value → Shared → Prop} (e : binP op da db = some d) (hs : 0 < s.toks) (L : Low X s.heap) (ra : Rp X s.heap va da) (rb : Rp X s.heap vb db)
    (h : ∀ v s', Out X s d v s' → Q v s') : wpAny (model prog w) A (binaryOp op va vb) Q E s := by
  unfold binP at e
  split at e
  · split at e
    · cases ra; cases rb; cases e; exact PyProof.Rows.add_int (h _ _ (out_int X s _))
    · cases ra; cases rb; cases e; exact PyProof.Rows.add_float (h _ _ (out_flt X hs _))
    · cases ra; cases rb
      split at e
      · rename_i hl; cases e; exact PyProof.Rows.add_str (fun t' tk => h _ _ (out_str X s _ t' tk)) hl
      · cases e
    · cases ra with
      | lst hx h1 h2 h3 =>
        cases rb with
        | lst gx g1 g2 g3 =>
          split at e
          · rename_i hl
            cases e
            have hl' := h3.length
            have gl' := g3.length
            refine P.add_list h1 g1 ?_ (by simp; omega)
            have := out_list (s := s) L (RpAll.app g3 h3) (by rw [List.length_append]; omega)
            rw [show (_ : List Value).toArray ++ (_ : List Value).toArray = (_ ++ _ : List Value).toArray from List.append_toArray _ _]
            exact h _ _ this
          · cases e
    · cases e
  · split at e
    · cases ra; cases rb; cases e; exact PyProof.Rows.sub_int (h _ _ (out_int X s _))
    · cases ra; cases rb; cases e; exact PyProof.Rows.sub_float (h _ _ (out_flt X hs _))
    · cases ra; cases rb
      split at e
      · cases e
      · rename_i hi; cases e; exact AutoFloatOps.sub_fi_1 hi (h _ _ (out_flt X hs _))
    · cases e
  · split at e
    · cases ra; cases rb
      split at e
      · rename_i hi
        cases e
        simp only [sm, Bool.and_eq_true, decide_eq_true_eq] at hi
        exact PyProof.Rows.mul_int (h _ _ (out_int X s _)) (.of_left (intBits_le_64 (by omega) (by omega)))
      · cases e
    · cases ra; cases rb; cases e; exact PyProof.Rows.mul_float (h _ _ (out_flt X hs _))
    · cases ra; cases rb
      split at e
      · cases e
      · rename_i hi; cases e; exact AutoFloatOps.mul_if_1 hi (h _ _ (out_flt X hs _))
    · cases ra; cases rb
      split at e
      · cases e
      · rename_i hi; cases e; exact AutoFloatOps.mul_fi_1 hi (h _ _ (out_flt X hs _))
    · cases e
  · split at e
    · cases ra; cases rb
      split at e
      · cases e
      · rename_i h0
        split at e
        · cases e
        · rename_i hi; cases e; exact AutoIntOps.truediv_2 h0 hi (h _ _ (out_flt X hs _))
    · cases ra; cases rb
      split at e
      · cases e
      · rename_i hi; cases e; exact AutoFloatOps.truediv_1 hi (h _ _ (out_flt X hs _))
    · cases ra; cases rb
      split at e
      · cases e
      · rename_i h0
        split at e
        · cases e
        · rename_i hi; cases e; exact AutoFloatOps.truediv_fi_2 h0 hi (h _ _ (out_flt X hs _))
    · cases e
  · split at e
    · cases ra; cases rb
      split at e
      · cases e
      · rename_i hi
        split at e
        · rename_i hp; cases e; exact PyProof.Rows.floordiv_int hi (h _ _ (out_int X s _)) (.inl (PyProof.noPylong_small hp))
        · cases e
    · cases e
  · split at e
    · cases ra; cases rb
      split at e
      · cases e
      · rename_i hi; cases e; exact PyProof.Rows.mod_int' hi (h _ _ (out_int X s _))
    · cases ra; cases rb
      split at e
      · cases e
      · rename_i hi; cases e; exact AutoFloatOps.mod_1 hi (h _ _ (out_flt X hs _))
    · cases e
  · cases e
end
end Mine
end

section
open PySem PySem.W PyProof.Rows PySem.SeqAt
namespace Mine

theorem RpAll.func {X : List Addr} {h : Heap} {vs : List Value} {ds : List D} (r : RpAll X h vs ds) : ∀ ds' : List D, RpAll X h vs ds' → ds = ds' := by
  have q : ∀ {a : Addr} {o o' : Obj}, h.get? a = some o → h.get? a = some o' → o = o' := fun e e' => Option.some.inj (e.symm.trans e')
  have qa : ∀ {a : Addr} {n n' : Nat} {c c' : Value} {vs vs' : List Value}, h.get? a = some { cls := c, data := .seq vs.toArray n } → h.get? a = some { cls := c', data := .seq vs'.toArray n' } → c = c' ∧ vs = vs' := fun e e' => by
    have := q e e'
    injection this with p1 _ p2
    exact ⟨p1, by injection p2 with p3; injection p3⟩
  have qf : ∀ {a : Addr} {n : Nat} {c : Value} {vs : List Value} {o : Obj} {fd : FuncData}, h.get? a = some { cls := c, data := .seq vs.toArray n } → h.get? a = some o → o.data = .func fd → False := fun e e' e2 => by
    rw [← q e e'] at e2; cases e2
  refine RpAll.rec (motive_1 := fun v d _ => ∀ d', Rp X h v d' → d = d') (motive_2 := fun vs ds _ => ∀ ds', RpAll X h vs ds' → ds = ds') ?_ ?_ ?_ ?_ ?_ ?_ ?_ ?_ ?_ ?_ r
  · intro _ r; cases r; rfl
  · intro _ _ r; cases r; rfl
  · intro _ _ _ r; cases r; rfl
  · intro _ _ _ _ r; cases r; rfl
  · intro _ _ _ r; cases r; rfl
  · intro a n vs ds hx h1 h2 h3 ih _ r
    cases r with
    | tup gx g1 g2 g3 => obtain ⟨_, rfl⟩ := qa h1 g1; rw [ih _ g3]
    | lst _ g1 _ _ => exact absurd (qa h1 g1).1 (fun e => by injection e with e; exact absurd e (by decide))
    | fn _ g1 g2 => exact (qf h1 g1 g2).elim
  · intro a n vs ds hx h1 h2 h3 ih _ r
    cases r with
    | lst gx g1 g2 g3 => obtain ⟨_, rfl⟩ := qa h1 g1; rw [ih _ g3]
    | tup _ g1 _ _ => exact absurd (qa h1 g1).1 (fun e => by injection e with e; exact absurd e (by decide))
    | fn _ g1 g2 => exact (qf h1 g1 g2).elim
  · intro a o fd gx g1 g2 _ r
    cases r with
    | tup _ h1 _ _ => exact (qf h1 g1 g2).elim
    | lst _ h1 _ _ => exact (qf h1 g1 g2).elim
    | fn _ h1 _ => rw [q g1 h1]
  · intro _ r; cases r; rfl
  · intro _ _ _ _ _ _ ia ib _ r
    cases r with
    | cons a' b' => rw [ia _ a', ib _ b']
theorem Rp.func {X : List Addr} {h : Heap} {v : Value} {d d' : D} (r : Rp X h v d) (r' : Rp X h v d') : d = d' := (List.cons.inj (RpAll.func (.cons r .nil) _ (.cons r' .nil))).1

noncomputable def eqFuel : Nat := 100

/-- x in bs -/
noncomputable def inP (x : D) : List D → Option Bool
  | [] => some false
  | b :: bs => match deq eqFuel b x, inP x bs with
    | some p, some q => some (p || q)
    | _, _ => none

noncomputable def cmpP (op : CmpOp) (a b : D) : Option Bool := match op with
  | .Eq => match a, b with
    | .flt x, .flt y => some (Float64.cmp x y == some .eq)
    | .flt x, .int y => some (Float64.cmpInt x y == some .eq)
    | _, _ => deq eqFuel a b
  | .NotEq => match a, b with
    | .str x, .str y => some (!(x == y))
    | .lst x, .lst y => (deqs eqFuel x y).map (!·)
    | _, _ => none
  | .Lt => match a, b with
    | .int x, .int y => some (decide (x < y))
    | _, _ => none
  | .Gt => match a, b with
    | .flt x, .int y => some (Float64.cmpInt x y == some .gt)
    | _, _ => none
  | .NotIn => match b with
    | .lst y => (inP a y).map (!·)
    | _ => none
  | .Is => match a, b with
    | .none, .none => some true
    | .lst _, .none => some false
    | _, _ => none
  | _ => none

open Classical in
theorem inP_any {X : List Addr} {h : Heap} {x : D} : ∀ {ys : List Value} {bs : List D} {b : Bool}, inP x bs = some b → RpAll X h ys bs →
    (ys.any fun y => decide (∃ d, Rp X h y d ∧ deq eqFuel d x = some true)) = b ∧ ∀ y ∈ ys, ∃ d p, Rp X h y d ∧ deq eqFuel d x = some p ∧ p = decide (∃ d, Rp X h y d ∧ deq eqFuel d x = some true) := by
  intro ys
  induction ys with
  | nil => intro bs b e r; cases r; cases e; exact ⟨rfl, fun _ h => nomatch h⟩
  | cons v ys ih =>
    intro bs b e r
    cases r with
    | @cons _ d _ _ r rs =>
      conv at e => lhs; whnf
      split at e
      · rename_i p q h1 h2
        cases e
        obtain ⟨i1, i2⟩ := ih h2 rs
        have hp : p = decide (∃ d, Rp X h v d ∧ deq eqFuel d x = some true) := by
          cases p with
          | true => exact (decide_eq_true ⟨d, r, h1⟩).symm
          | false =>
            refine (decide_eq_false ?_).symm
            rintro ⟨d', r', e'⟩
            rw [Rp.func r' r, h1] at e'
            cases e'
        refine ⟨?_, ?_⟩
        · rw [List.any_cons, i1, ← hp]
        · intro y hy
          rcases List.mem_cons.mp hy with rfl | hy
          · exact ⟨d, p, r, h1, hp⟩
          · exact i2 y hy
      · cases e

section
variable {prog : Program} {w : World} {A : Around} {E : Value → Shared → Prop} {s : Shared}

theorem cmp_ok {X : List Addr} {op : CmpOp} {da db : D} {b : Bool} {va vb : Value} {Q : Value → Shared → Prop} (e : cmpP op da db = some b) (nb : NoneBooked s.heap) (hu : A.units + 200 < cLine) (ra : Rp X s.heap va da) (rb : Rp X s.heap vb db)
    (h : Q (.bool b) s) : wpAny (model prog w) A (compareOp op va vb) Q E s := by
  unfold cmpP at e
  have hu' : A.units + eqFuel < cLine := by unfold eqFuel; omega
  split at e
  · split at e
    · cases ra; cases rb; cases e; exact AutoFloatOps.eq_0 h
    · cases ra; cases rb; cases e; exact eq_fi h
    · exact deq_rc _ _ _ _ _ _ _ _ e nb hu' ra rb prog w E Q h
  · split at e
    · cases ra; cases rb; cases e; exact RcNeAt.str_str _ _ _ _ prog w E Q h
    · cases ra with
      | @lst a n vs ds hx h1 h2 h3 =>
        cases rb with
        | @lst a' n' vs' ds' gx g1 g2 g3 =>
          obtain ⟨b', e', rfl⟩ := Option.map_eq_some_iff.mp e
          obtain ⟨f, hf, hb⟩ := deqs_eq eqFuel _ _ b' A.in1 s vs vs' e' nb (by rw [unitsIn1]; unfold eqFuel; omega) h3 g3
          by_cases hsz : vs.length = vs'.length
          · have := RcNeAt.lists (A := A) (s := s) (e := f) (rp_isList h1) (rp_isList g1) (by simpa using hsz) (by omega) (fun j j1 j2 => by simpa using hf j (by simpa using j1) (by simpa using j2))
            simp only [List.size_toArray] at this
            rw [hsz] at hb
            simp only [Nat.min_self, beq_self_eq_true, Bool.and_true] at hb
            rw [hsz, hb] at this
            exact this prog w E Q h
          · have h0 : (vs.length == vs'.length) = false := by simpa using hsz
            rw [h0, Bool.and_false] at hb
            subst hb
            exact RcNeAt.lists_lengths (rp_isList h1) (rp_isList g1) (by simpa using hsz) (by omega) prog w E Q h
    · cases e
  · split at e
    · cases ra; cases rb; cases e; exact PyProof.Rows.lt_int h
    · cases e
  · split at e
    · cases ra; cases rb; cases e; exact gt_fi h
    · cases e
  · split at e
    · cases rb with
      | @lst a' n' vs' ds' gx g1 g2 g3 =>
        obtain ⟨b', e', rfl⟩ := Option.map_eq_some_iff.mp e
        classical
        obtain ⟨i1, i2⟩ := inP_any e' g3
        refine notIn_listAt (fun y => decide (∃ d, Rp X s.heap y d ∧ deq eqFuel d da = some true)) (rp_isList g1) (fun y hy => ?_) ?_
        · obtain ⟨d, p, r, hd, hp⟩ := i2 y (by simpa using hy)
          have := deq_at eqFuel d da p A.in1 s y va hd nb (by rw [unitsIn1]; unfold eqFuel; omega) r ra
          rw [hp] at this
          exact this
        · rw [List.any_toArray, i1]; exact h
    · cases e
  · split at e
    · cases ra; cases rb; cases e; exact is_none h
    · cases rb
      cases ra
      cases e; exact is_none h
    · cases e
  · cases e
end
end Mine
end

section
open PySem PySem.W PyProof.Rows PySem.SeqAt
namespace Mine

noncomputable def SlotOk (h : Heap) (env : Env) (x : Str) : Prop :=
  (env.kindOf x = some .local ∧ ∃ m, h.Ns env.locals m) ∨ (env.kindOf x = some .cell ∧ ∃ c v, env.cells.lookup x = some c ∧ h.IsCell c v)
noncomputable def slotOf (env : Env) (x : Str) : Option Addr := if env.kindOf x = some .local then some env.locals else env.cells.lookup x
noncomputable def CellsInj (env : Env) : Prop := ∀ x y c, env.cells.lookup x = some c → env.cells.lookup y = some c → x = y

theorem SlotOk.keeps {h h' : Heap} {env : Env} {x : Str} (k : HKeep h h') (a : SlotOk h env x) : SlotOk h' env x := by
  rcases a with ⟨hk, m, hn⟩ | ⟨hk, c, v, hc, hv⟩
  · exact .inl ⟨hk, m, hn.keeps k⟩
  · exact .inr ⟨hk, c, v, hc, hv.keeps k⟩
theorem SlotOk.of_var {h : Heap} {env : Env} {x : Str} {v : Value} (a : VarAt h env x v) (hk : env.kindOf x ≠ some .free) : SlotOk h env x := by
  rcases a with ⟨hk, m, hn, _⟩ | ⟨hk' | hk', c, hc, hv⟩
  · exact .inl ⟨hk, m, hn⟩
  · exact .inr ⟨hk', c, _, hc, hv⟩
  · exact absurd hk' hk

theorem ns_ne_cell {h : Heap} {a c : Addr} {m : Str → Option Value} {v : Option Value} (hn : h.Ns a m) (hc : h.IsCell c v) : c ≠ a := by
  rintro rfl
  obtain ⟨o, es, ep, ho, hd, _⟩ := hn
  obtain ⟨o', ho', hd'⟩ := hc
  rw [ho] at ho'; cases ho'
  rw [hd] at hd'; cases hd'
theorem seqKeep_ns {X : List Addr} {h h' : Heap} {a : Addr} {m : Str → Option Value} (hn : h.Ns a m) (hs : Heap.SameBut a h h') : SeqKeep X h h' := fun b o xs n _ e hd => by
  refine (hs.2 b ?_).trans e
  rintro rfl
  obtain ⟨o', es, ep, ho, hd', _⟩ := hn
  rw [ho] at e; cases e
  rw [hd'] at hd; cases hd
theorem seqKeep_cell {X : List Addr} {h h' : Heap} {a : Addr} {v : Option Value} (hn : h.IsCell a v) (hs : Heap.SameBut a h h') : SeqKeep X h h' := fun b o xs n _ e hd => by
  refine (hs.2 b ?_).trans e
  rintro rfl
  obtain ⟨o', ho, hd'⟩ := hn
  rw [ho] at e; cases e
  rw [hd'] at hd; cases hd

structure EnvOk (h : Heap) (env : Env) : Prop extends EnvWf env where
  inj : CellsInj env
  full : ∀ x, env.kindOf x = some .cell → ∃ c, env.cells.lookup x = some c
  live : ∀ x c, env.cells.lookup x = some c → ∃ v, h.IsCell c v
  ns : ∃ m, h.Ns env.locals m
theorem EnvOk.slot {h : Heap} {env : Env} (W : EnvOk h env) {x : Str} (hx : env.kindOf x = some .local ∨ env.kindOf x = some .cell) : SlotOk h env x := by
  rcases hx with hx | hx
  · exact .inl ⟨hx, W.ns⟩
  · obtain ⟨c, hc⟩ := W.full x hx
    obtain ⟨v, hv⟩ := W.live x c hc
    exact .inr ⟨hx, c, v, hc, hv⟩
theorem EnvOk.keeps {h h' : Heap} {env : Env} (k : HKeep h h') (W : EnvOk h env) : EnvOk h' env :=
  ⟨W.toEnvWf, W.inj, W.full, fun x c hc => let ⟨v, hv⟩ := W.live x c hc; ⟨v, hv.keeps k⟩, let ⟨m, hm⟩ := W.ns; ⟨m, hm.keeps k⟩⟩

/-- what a store into x does -/
structure Stored (env : Env) (x : Str) (v : Value) (h h' : Heap) : Prop where
  var : VarAt h' env x v
  other : ∀ y u, y ≠ x → VarAt h env y u → VarAt h' env y u
  slots : ∀ y, SlotOk h env y → SlotOk h' env y
  keep : ∀ b o, some b ≠ slotOf env x → h.get? b = some o → h'.get? b = some o
  seq : ∀ X, SeqKeep X h h'
  size : h'.objs.size = h.objs.size
  live : ∀ c, (∃ v, h.IsCell c v) → ∃ v, h'.IsCell c v
  ns : (∃ m, h.Ns env.locals m) → ∃ m, h'.Ns env.locals m

theorem EnvOk.stored {h h' : Heap} {env : Env} {x : Str} {v : Value} (S : Stored env x v h h') (W : EnvOk h env) : EnvOk h' env :=
  ⟨W.toEnvWf, W.inj, W.full, fun y c hc => S.live c (W.live y c hc), S.ns W.ns⟩

section
variable {M : Model} {A : Around} {E : Value → Shared → Prop} {s : Shared} {env : Env}

theorem store_ok {x : Str} {v : Value} {Q : Unit → Shared → Prop} (W : EnvWf env) (hinj : CellsInj env) (hs : SlotOk s.heap env x)
    (h : ∀ h' tk, Stored env x v s.heap h' → s.toks ≤ tk → Q () { s with heap := h', toks := tk }) : wpAny M A (storeName env x v) Q E s := by
  rcases hs with ⟨hk, m, hn⟩ | ⟨hk, c, v₀, hc, hv⟩
  · refine wpAny_storeName_local hk hn (fun h' hn' hs' => h h' _ ⟨.inl ⟨hk, _, hn', by simp⟩, ?_, ?_, ?_, fun X => seqKeep_ns hn hs', hs'.1, fun c ⟨v', hv'⟩ => ⟨v', hv'.sameBut hs' (ns_ne_cell hn hv')⟩, fun _ => ⟨_, hn'⟩⟩ (Nat.le_succ _)) (by rw [W.kind]; rfl)
    · intro y u hyx hy
      rcases hy with ⟨hk', m', hn'', hm'⟩ | ⟨hk', c', hc', hv'⟩
      · refine .inl ⟨hk', _, hn', ?_⟩
        obtain ⟨o, es, ep, ho, hd, _, hm⟩ := hn
        obtain ⟨o2, es2, ep2, ho2, hd2, _, hm2⟩ := hn''
        rw [ho] at ho2; cases ho2
        rw [hd] at hd2; cases hd2
        show (if y = x then some v else m y) = some u
        rw [if_neg hyx, ← hm y, hm2 y]; exact hm'
      · exact .inr ⟨hk', c', hc', hv'.sameBut hs' (ns_ne_cell hn hv')⟩
    · intro y hy
      rcases hy with ⟨hk', m', hn''⟩ | ⟨hk', c', v', hc', hv'⟩
      · exact .inl ⟨hk', _, hn'⟩
      · exact .inr ⟨hk', c', v', hc', hv'.sameBut hs' (ns_ne_cell hn hv')⟩
    · intro b o hb e
      exact hs'.extBut b o (fun e' => hb (by simp [slotOf, hk, e'])) e
  · refine wpAny_storeName_cell W.kind hk hc hv (fun h' hc'' hs' => h h' _ ⟨.inr ⟨.inl hk, c, hc, hc''⟩, ?_, ?_, ?_, fun X => seqKeep_cell hv hs', hs'.1, fun c' ⟨v', hv'⟩ => ?_, fun ⟨m, hm⟩ => ⟨m, hm.sameBut hs' (Ne.symm (ns_ne_cell hm hv))⟩⟩ (Nat.le_refl _))
    · intro y u hyx hy
      rcases hy with ⟨hk', m', hn'', hm'⟩ | ⟨hk', c', hc', hv'⟩
      · exact .inl ⟨hk', m', hn''.sameBut hs' (Ne.symm (ns_ne_cell hn'' hv)), hm'⟩
      · exact .inr ⟨hk', c', hc', hv'.sameBut hs' (fun e => hyx (hinj y x c (e ▸ hc') hc))⟩
    · intro y hy
      rcases hy with ⟨hk', m', hn''⟩ | ⟨hk', c', v', hc', hv'⟩
      · exact .inl ⟨hk', m', hn''.sameBut hs' (Ne.symm (ns_ne_cell hn'' hv))⟩
      · by_cases hcc : c' = c
        · subst hcc; exact .inr ⟨hk', c', _, hc', hc''⟩
        · exact .inr ⟨hk', c', v', hc', hv'.sameBut hs' hcc⟩
    · intro b o hb e
      refine hs'.extBut b o (fun e' => hb ?_) e
      subst e'
      have : ¬ env.kindOf x = some .local := by rw [hk]; decide
      simp [slotOf, this, hc]
    · by_cases hcc : c' = c
      · subst hcc; exact ⟨_, hc''⟩
      · exact ⟨v', hv'.sameBut hs' hcc⟩
end
end Mine
end

section
open PySem PySem.W PyProof.Rows PySem.SeqAt
namespace Mine

inductive Target where
  | one (x : Str)
  | two (x y : Str)
noncomputable def Target.names : Target → List Str
  | .one x => [x]
  | .two x y => [x, y]
noncomputable def targetOf : Expr → Option Target
  | .Name x _ => some (.one x)
  | .Tuple [.Name x _, .Name y _] _ _ => if x = y then none else some (.two x y)
  | _ => none
noncomputable def bindT : Target → D → Rho → Option Rho
  | .one x, d, ρ => some ((x, d) :: ρ)
  | .two x y, .tup [a, b], ρ => some ((y, b) :: (x, a) :: ρ)
  | _, _, _ => none

/-- the values that a target has taken, read in the heap h₁ -/
noncomputable def Took (X : List Addr) (h₁ : Heap) (env : Env) : Target → D → Heap → Prop
  | .one x, d, h' => ∃ v, VarAt h' env x v ∧ Rp X h₁ v d
  | .two x y, d, h' => ∃ a b va vb, d = .tup [a, b] ∧ VarAt h' env x va ∧ Rp X h₁ va a ∧ VarAt h' env y vb ∧ Rp X h₁ vb b

structure Bound (X : List Addr) (h₁ : Heap) (env : Env) (wr : List Addr) (t : Target) (d : D) (h h' : Heap) : Prop where
  took : Took X h₁ env t d h'
  other : ∀ y u, y ∉ t.names → VarAt h env y u → VarAt h' env y u
  slots : ∀ y, SlotOk h env y → SlotOk h' env y
  keep : ∀ b o, b ∉ wr → (∀ x ∈ t.names, some b ≠ slotOf env x) → h.get? b = some o → h'.get? b = some o
  seq : ∀ Y, (∀ b ∈ wr, b ∈ Y) → SeqKeep Y h h'
  live : ∀ c, c ∉ wr → (∃ v, h.IsCell c v) → ∃ v, h'.IsCell c v
  ns : env.locals ∉ wr → (∃ m, h.Ns env.locals m) → ∃ m, h'.Ns env.locals m

structure Feed (prog : Program) (w : World) (A : Around) (X : List Addr) (h₁ : Heap) (it : Addr) (fp wr : List Addr) (St : Nat → Heap → Prop) (target : Expr) (t : Target) (ds : List D) : Prop where
  sub : ∀ b ∈ wr, b ∈ fp
  new : ∀ b ∈ wr, h₁.get? b = none
  frame : ∀ i h h', St i h → (∀ b ∈ fp, ∀ o, h.get? b = some o → h'.get? b = some o) → St i h'
  self : ∀ i (s : Shared) (Q : Value → Shared → Prop) (E : Value → Shared → Prop), St i s.heap → Q (.ref it) s → wpAny (model prog w) A (pyIter (.ref it)) Q E s
  done : ∀ (s : Shared) (Q : Option Value → Shared → Prop) (E : Value → Shared → Prop), St ds.length s.heap →
    (∀ h' tk, (∀ b o, b ∉ wr → s.heap.get? b = some o → h'.get? b = some o) → Q none { s with heap := h', toks := tk }) → wpAny (model prog w) A (pyNext (.ref it)) Q E s
  turn : ∀ i d (env : Env) (s : Shared) (G : Shared → Prop) (N : Shared → Prop) (E E' E'' : Value → Shared → Prop), ds[i]? = some d → St i s.heap → EnvWf env → CellsInj env → (∀ x ∈ t.names, SlotOk s.heap env x) →
    (∀ x ∈ t.names, ∀ a, slotOf env x = some a → a ∉ fp) → (∀ y a, slotOf env y = some a → a ∉ wr) →
    (∀ h' tk, Bound X h₁ env wr t d s.heap h' → St (i + 1) h' → G { s with heap := h', toks := tk }) →
    wpAny (model prog w) A (pyNext (.ref it)) (fun r s₁ => match r with
      | none => N s₁
      | some v => wpAny (model prog w) A (letOwnedTupleGo target (.ref it) v) (fun _ s₂ => wpAny (model prog w) A (assign target env v) (fun _ s₃ => G s₃) E'' s₂) E' s₁) E s

section
variable {prog : Program} {w : World} {A : Around} {X : List Addr} {h₁ : Heap} {it : Addr} {fp wr : List Addr} {n : Nat} {P : Nat → Value → Prop} {St : Nat → Heap → Prop} {ds : List D}

theorem slot_ns {h : Heap} {env : Env} {x : Str} (s : SlotOk h env x) : ∃ a, slotOf env x = some a ∧ ∃ o, h.get? a = some o := by
  rcases s with ⟨hk, m, o, es, ep, ho, _⟩ | ⟨hk, c, v, hc, o, ho, _⟩
  · exact ⟨env.locals, by simp [slotOf, hk], o, ho⟩
  · have : ¬ env.kindOf x = some .local := by rw [hk]; decide
    exact ⟨c, by simp [slotOf, this, hc], o, ho⟩

theorem varAt_but {h h' : Heap} {env : Env} {y : Str} {u : Value} (hk : ∀ b o, b ∉ wr → h.get? b = some o → h'.get? b = some o) (hoff : ∀ y a, slotOf env y = some a → a ∉ wr) (v : VarAt h env y u) : VarAt h' env y u := by
  rcases v with ⟨hl, m, hn, hm⟩ | ⟨hl, c, hc, o, ho, hd⟩
  · exact .inl ⟨hl, m, hn.at' fun o e => hk _ o (hoff y _ (by simp [slotOf, hl])) e, hm⟩
  · have hnl : ¬ env.kindOf y = some .local := by rcases hl with hl | hl <;> (rw [hl]; decide)
    exact .inr ⟨hl, c, hc, o, hk _ _ (hoff y c (by simp [slotOf, hnl, hc])) ho, hd⟩
theorem slotOk_but {h h' : Heap} {env : Env} {y : Str} (hk : ∀ b o, b ∉ wr → h.get? b = some o → h'.get? b = some o) (hoff : ∀ y a, slotOf env y = some a → a ∉ wr) (v : SlotOk h env y) : SlotOk h' env y := by
  rcases v with ⟨hl, m, hn⟩ | ⟨hl, c, v', hc, o, ho, hd⟩
  · exact .inl ⟨hl, m, hn.at' fun o e => hk _ o (hoff y _ (by simp [slotOf, hl])) e⟩
  · have hnl : ¬ env.kindOf y = some .local := by rw [hl]; decide
    exact .inr ⟨hl, c, v', hc, o, hk _ _ (hoff y c (by simp [slotOf, hnl, hc])) ho, hd⟩

theorem Feed.ofWalks {x : Str} {px : Pos} (W : Walks prog w A it fp wr ds.length P St) (hnew : ∀ b ∈ wr, h₁.get? b = none) (hP : ∀ i v d, P i v → ds[i]? = some d → Rp X h₁ v d) :
    Feed prog w A X h₁ it fp wr St (.Name x px) (.one x) ds where
  sub := W.sub
  new := hnew
  frame := W.frame
  self := W.self
  done := W.done
  turn := fun i d env s G N E E' E'' hd hst We hinj hsl hfp hoff hG => by
    have hi : i < ds.length := (List.getElem?_eq_some_iff.mp hd).1
    refine W.item i s _ _ hi hst fun v h' tk hv hst' hk => ?_
    refine wpAny_pure ?_
    have hx : x ∈ (Target.one x).names := List.mem_singleton.mpr rfl
    have hsl' : SlotOk h' env x := slotOk_but hk hoff (hsl x hx)
    refine wpAny_assign_Name (store_ok We hinj (s := { s with heap := h', toks := tk }) hsl' fun h'' tk' S _ => hG h'' tk' ⟨⟨v, S.var, hP i v d hv hd⟩, ?_, ?_, ?_, ?_, fun c hc ⟨u, o, ho, hd⟩ => S.live c ⟨u, o, hk c o hc ho, hd⟩, fun hL ⟨m, hm⟩ => S.ns ⟨m, hm.at' fun o e => hk _ o hL e⟩⟩ ?_)
    · exact fun y u hy hv => S.other y u (fun e => hy (e ▸ hx)) (varAt_but hk hoff hv)
    · exact fun y hy => S.slots y (slotOk_but hk hoff hy)
    · exact fun b o hb hbs e => S.keep b o (hbs x hx) (hk b o hb e)
    · exact fun Y hY => SeqKeep.trans (fun b o xs n hb e _ => hk b o (fun hm => hb (hY b hm)) e) (S.seq Y)
    · refine W.frame _ _ _ hst' fun b hb o e => S.keep b o (fun e' => ?_) e
      exact hfp x hx b e'.symm hb

theorem Feed.ofWalksU {x y : Str} {px py pt : Pos} {k : Nat} {Pt : Nat → Array Value → Prop} {Mid : Nat → Addr → Heap → Prop} (hxy : x ≠ y) (hA : A.handled = none) (W : WalksU prog w A it fp wr ds.length Pt St Mid) (hnew : ∀ b ∈ wr, h₁.get? b = none)
    (hP : ∀ i vals d, Pt i vals → ds[i]? = some d → ∃ a b va vb, d = .tup [a, b] ∧ vals = #[va, vb] ∧ Rp X h₁ va a ∧ Rp X h₁ vb b) :
    Feed prog w A X h₁ it fp wr St (.Tuple [.Name x px, .Name y py] k pt) (.two x y) ds where
  sub := W.sub
  new := hnew
  frame := W.frame
  self := W.self
  done := W.done
  turn := fun i d env s G N E E' E'' hd hst We hinj hsl hfp hoff hG => by
    have hi : i < ds.length := (List.getElem?_eq_some_iff.mp hd).1
    refine W.item i s _ _ hi hst fun T vals h' tk hv hT hm hk => ?_
    obtain ⟨a, b, va, vb, rfl, rfl, ra, rb⟩ := hP i vals d hv hd
    refine W.go _ _ _ i T _ _ _ hm fun h₂ hst₂ hk₂ => ?_
    have hT₂ : h₂.IsTuple T #[va, vb] := Heap.IsTuple.at hT fun o e => hk₂ T o (W.apart _ _ _ hm) e
    have hx : x ∈ (Target.two x y).names := List.mem_cons_self
    have hy : y ∈ (Target.two x y).names := List.mem_cons_of_mem _ (List.mem_singleton.mpr rfl)
    have hk3 : ∀ b o, b ∉ wr → s.heap.get? b = some o → h₂.get? b = some o := fun b o hb e => hk₂ b o hb (hk b o hb e)
    refine wpAny_assign_Tuple hA (s := { s with heap := h₂, toks := tk }) hT₂ rfl rfl fun h₃ hx₃ => ?_
    have hk4 : ∀ b o, h₂.get? b = some o → h₃.get? b = some o := fun b o e => hx₃ b o (Nat.ne_of_lt (Heap.lt_size e)) e
    have hk5 : ∀ b o, b ∉ wr → s.heap.get? b = some o → h₃.get? b = some o := fun b o hb e => hk4 b o (hk3 b o hb e)
    show wpAny _ _ (assignInOrder [assign (.Name x px) env, assign (.Name y py) env] [va, vb]) _ _ _
    refine wpAny_bind (wpAny_holding (wpAny_assign_Name (store_ok We hinj (s := { s with heap := h₃, toks := tk }) (slotOk_but hk5 hoff (hsl x hx)) fun h₄ tk₄ S₁ _ => ?_)))
    refine wpAny_bind (wpAny_holding (wpAny_assign_Name (store_ok We hinj (s := { s with heap := h₄, toks := tk₄ }) (S₁.slots _ (slotOk_but hk5 hoff (hsl y hy))) fun h₅ tk₅ S₂ _ => ?_)))
    refine wpAny_pure (hG h₅ tk₅ ⟨⟨a, b, va, vb, rfl, S₂.other x va hxy S₁.var, ra, S₂.var, rb⟩, ?_, ?_, ?_, ?_, fun c hc ⟨u, o, ho, hd⟩ => S₂.live c (S₁.live c ⟨u, o, hk5 c o hc ho, hd⟩), fun hL ⟨m, hm⟩ => S₂.ns (S₁.ns ⟨m, hm.at' fun o e => hk5 _ o hL e⟩)⟩ ?_)
    · exact fun z u hz hv => S₂.other z u (fun e => hz (e ▸ hy)) (S₁.other z u (fun e => hz (e ▸ hx)) (varAt_but hk5 hoff hv))
    · exact fun z hz => S₂.slots z (S₁.slots z (slotOk_but hk5 hoff hz))
    · exact fun b o hb hbs e => S₂.keep b o (hbs y hy) (S₁.keep b o (hbs x hx) (hk5 b o hb e))
    · exact fun Y hY => SeqKeep.trans (fun b o xs n hb e _ => hk5 b o (fun hm => hb (hY b hm)) e) ((S₁.seq Y).trans (S₂.seq Y))
    · refine W.frame _ _ _ hst₂ fun b hb o e => S₂.keep b o (fun e' => hfp y hy b e'.symm hb) (S₁.keep b o (fun e' => hfp x hx b e'.symm hb) (hk4 b o e))
end
end Mine
end

section
open PySem PySem.W PyProof.Rows PySem.SeqAt
namespace Mine

section
variable {prog : Program} {w : World} {A : Around} {R : Result → Shared → Prop} {s : Shared}

/-- the tests of one turn and its element -/
noncomputable def TurnEnd (prog : Program) (w : World) (A : Around) (ifs : List Expr) (elt : Expr) (acc : Value) (env : Env) (NE : Value → Shared → Prop) (J : Shared → Prop) (s₂ : Shared) : Prop :=
  wpAny (model prog w) A (forIn ifs true fun c r => if r = true then do let ok ← isTrue c env (eval c env); pure (ForInStep.yield ok) else pure (ForInStep.yield r)) (fun ok s₃ =>
    if ok = true then wpAny (model prog w) A (eval elt env) (fun x s₄ => wpAny (model prog w) A (call (.builtin "list.append") [acc, x]) (fun _ s₅ => J s₅) NE s₄) NE s₃ else J s₃) NE s₂

theorem compLoop_rule {elt target iter : Expr} {ifs : List Expr} {scope : Scope} {pos : Pos} {it acc : Value} {env : Env} (I : Nat → Shared → Prop)
    (turn : ∀ n s, I n s → wpAny (model prog w) A (pyNext it) (fun r s₁ => match r with
      | none => R (.ok .next) s₁
      | some v => wpAny (model prog w) A (letOwnedTupleGo target it v) (fun _ s₂ => wpAny (model prog w) A (assign target env v)
          (fun _ s₃ => TurnEnd prog w A ifs elt acc env (notedBy (model prog w) A env fun e s' => R (.error e) s') (fun s' => ∃ m, m < n ∧ I m s') s₃) (notedBy (model prog w) A env fun e s' => R (.error e) s') s₂)
          (notedBy (model prog w) A env fun e s' => R (.error e) s') s₁) (notedBy (model prog w) A env fun e s' => R (.error e) s') s)
    (n : Nat) (h : I n s) :
    codeAny (model prog w) A (.compLoop (.ListComp elt [⟨target, iter, ifs, 0⟩] scope pos) 0 it acc env) R s := by
  refine codeAny_loop rfl I (fun n s hI => ?_) n h
  show wpAny _ A ((compTurn (.ListComp elt [⟨target, iter, ifs, 0⟩] scope pos) 0 it acc env).onRaise (fun x => do noteFrame x env; theTreesLotGoes x)) _ _ s
  refine wpAny_noted ?_
  rw [compTurn_list]
  refine wpAny_bind (wpAny_standAt (wpAny_bind (wpAny_mono (turn n s hI) (fun r s₁ h₁ => ?_) fun _ _ h' => h')))
  cases r with
  | none => exact wpAny_pure h₁
  | some v =>
    refine wpAny_bind (wpAny_mono h₁ (fun _ s₂ h₂ => wpAny_bind (wpAny_mono h₂ (fun _ s₃ h₃ => ?_) fun _ _ h' => h')) fun _ _ h' => h')
    refine wpAny_bind (wpAny_mono h₃ (fun ok s₄ h₄ => ?_) fun _ _ h' => h')
    cases ok with
    | false => exact wpAny_pure ⟨rfl, h₄⟩
    | true =>
      exact wpAny_bind (wpAny_bind (wpAny_mono h₄ (fun x s₅ h₅ => wpAny_bind (wpAny_mono h₅ (fun _ s₆ h₆ => wpAny_pure (wpAny_pure ⟨rfl, h₆⟩)) fun _ _ h' => h')) fun _ _ h' => h'))
end

noncomputable def compItems (tst : Rho → Option Bool) (el : Rho → Option D) (t : Target) (ρ : Rho) : List D → Option (List D)
  | [] => some []
  | d :: ds => match bindT t d ρ with
    | none => none
    | some ρ' => match tst ρ' with
      | none => none
      | some false => compItems tst el t ρ ds
      | some true => match el ρ', compItems tst el t ρ ds with
        | some e, some es => some (e :: es)
        | _, _ => none

/-- what the body of a comprehension does, in every state where its names are bound -/
structure BodyOk (prog : Program) (w : World) (A : Around) (cenv : Env) (Y : List Addr) (h₁ : Heap) (s₀ : Shared) (ifs : List Expr) (elt : Expr) (tst : Rho → Option Bool) (el : Rho → Option D) (ρ' : Rho) : Prop where
  tests : ∀ b s E Q, tst ρ' = some b → Grows s₀ s → HKeep h₁ s.heap → EnvOk s.heap cenv → Vars Y s.heap cenv ρ' → (∀ s', Keeps s s' → Q b s') →
    wpAny (model prog w) A (forIn ifs true fun c r => if r = true then do let ok ← isTrue c cenv (eval c cenv); pure (ForInStep.yield ok) else pure (ForInStep.yield r)) Q E s
  elt : ∀ d s E Q, el ρ' = some d → Grows s₀ s → HKeep h₁ s.heap → EnvOk s.heap cenv → Vars Y s.heap cenv ρ' → (∀ v s', Out Y s d v s' → Q v s') → wpAny (model prog w) A (eval elt cenv) Q E s

theorem took_vars {X Y : List Addr} {h₁ h : Heap} {cenv : Env} {t : Target} {d : D} {ρ ρ' : Rho} (hY : ∀ b ∈ Y, b ∈ X ∨ h₁.get? b = none) (hk : SeqKeep Y h₁ h) (T : Took X h₁ cenv t d h) (hb : bindT t d ρ = some ρ')
    (V : ∀ x d, x ∉ t.names → ρ.lookup x = some d → ∃ v, VarAt h cenv x v ∧ Rp Y h v d) : Vars Y h cenv ρ' := by
  cases t with
  | one x =>
    simp only [bindT, Option.some.injEq] at hb
    subst hb
    obtain ⟨v, hv, r⟩ := T
    intro y dy hy
    rw [List.lookup_cons] at hy
    cases he : y == x with
    | true => rw [he] at hy; cases hy; rw [beq_iff_eq.mp he]; exact ⟨v, hv, (r.hide hY).seq hk⟩
    | false => rw [he] at hy; exact V y dy (by simp [Target.names]; exact fun e => by simp [e] at he) hy
  | two x y =>
    obtain ⟨a, b, va, vb, rfl, hx, ra, hy, rb⟩ := T
    simp only [bindT, Option.some.injEq] at hb
    subst hb
    intro z dz hz
    rw [List.lookup_cons] at hz
    cases he : z == y with
    | true => rw [he] at hz; cases hz; rw [beq_iff_eq.mp he]; exact ⟨vb, hy, (rb.hide hY).seq hk⟩
    | false =>
      rw [he] at hz
      simp only [List.lookup_cons] at hz
      cases he' : z == x with
      | true => rw [he'] at hz; cases hz; rw [beq_iff_eq.mp he']; exact ⟨va, hx, (ra.hide hY).seq hk⟩
      | false => rw [he'] at hz; exact V z dz (by simp [Target.names]; exact ⟨fun e => by simp [e] at he', fun e => by simp [e] at he⟩) hz
end Mine
end

section
open PySem PySem.W PyProof.Rows PySem.SeqAt
namespace Mine

theorem seqKeep_of_but {Y wr : List Addr} {h h' : Heap} (hk : ∀ b o, b ∉ wr → h.get? b = some o → h'.get? b = some o) (hY : ∀ b ∈ wr, b ∈ Y) : SeqKeep Y h h' := fun b o _ _ hb e _ => hk b o (fun hm => hb (hY b hm)) e

section
variable {prog : Program} {w : World} {A : Around} {R : Result → Shared → Prop} {s s₀ : Shared}

theorem Feed.turn' {X : List Addr} {h₁ : Heap} {it : Addr} {fp wr : List Addr} {St : Nat → Heap → Prop} {target : Expr} {t : Target} {ds : List D} (F : Feed prog w A X h₁ it fp wr St target t ds)
    {i : Nat} {d : D} {env : Env} {G N : Shared → Prop} {E E' E'' : Value → Shared → Prop} (hd : ds[i]? = some d) (hst : St i s.heap) (We : EnvWf env) (hinj : CellsInj env) (hsl : ∀ x ∈ t.names, SlotOk s.heap env x)
    (hfp : ∀ x ∈ t.names, ∀ a, slotOf env x = some a → a ∉ fp) (hoff : ∀ y a, slotOf env y = some a → a ∉ wr)
    (hG : ∀ h' tk, Bound X h₁ env wr t d s.heap h' → St (i + 1) h' → Grows s { s with heap := h', toks := tk } → G { s with heap := h', toks := tk }) :
    wpAny (model prog w) A (pyNext (.ref it)) (fun r s₁ => match r with
      | none => N s₁
      | some v => wpAny (model prog w) A (letOwnedTupleGo target (.ref it) v) (fun _ s₂ => wpAny (model prog w) A (assign target env v) (fun _ s₃ => G s₃) E'' s₂) E' s₁) E s := by
  refine wpAny_grows (Grows.refl s) (wpAny_mono (F.turn i d env s (fun s' => Grows s s' → G s') N E E' E'' hd hst We hinj hsl hfp hoff hG) (fun r s₁ h g => ?_) fun _ _ e _ => e)
  cases r with
  | none => exact h
  | some v => exact wpAny_grows g (wpAny_mono h (fun _ s₂ h₂ g₂ => wpAny_grows g₂ (wpAny_mono h₂ (fun _ s₃ h₃ g₃ => h₃ g₃) fun _ _ e _ => e)) fun _ _ e _ => e)

inductive LoopAt (h₁ : Heap) (Dacc : Addr) (Y : List Addr) (St : Nat → Heap → Prop) (t : Target) (ds outs : List D) (cenv : Env) (ρ : Rho) (tst : Rho → Option Bool) (el : Rho → Option D) (s s₀ : Shared) (k : Nat) : Shared → Prop
  | mk (h' : Heap) (tk : Nat) (ys : List Value) (nn : Nat) (done rest : List D) (i : Nat) : St i h' → i ≤ ds.length → k = ds.length + 1 - i →
      h'.get? Dacc = some { cls := .type "list", data := .seq ys.toArray nn } → RpAll Y h' ys done → compItems tst el t ρ (ds.drop i) = some rest → done ++ rest = outs → done.length ≤ i →
      HKeep h₁ h' → EnvOk h' cenv → Grows s₀ { s with heap := h', toks := tk } → LoopAt h₁ Dacc Y St t ds outs cenv ρ tst el s s₀ k { s with heap := h', toks := tk }

theorem comp_loop {X : List Addr} {h₁ : Heap} {it Dacc : Addr} {fp wr : List Addr} {St : Nat → Heap → Prop} {target elt iter : Expr} {ifs : List Expr} {scope : Scope} {pos : Pos} {t : Target} {ds outs : List D} {cenv : Env} {ρ : Rho}
    {tst : Rho → Option Bool} {el : Rho → Option D}
    (F : Feed prog w A X h₁ it fp wr St target t ds) (hE : EnvOk s.heap cenv) (htk : ∀ x ∈ t.names, cenv.kindOf x = some .local ∨ cenv.kindOf x = some .cell)
    (hD1 : h₁.get? Dacc = none) (hDf : Dacc ∉ fp)
    (hsfp : ∀ x ∈ t.names, ∀ a, slotOf cenv x = some a → a ∉ fp) (hsnew : ∀ x ∈ t.names, ∀ a, slotOf cenv x = some a → h₁.get? a = none)
    (hoff : ∀ y a, slotOf cenv y = some a → a ∉ wr ∧ a ≠ Dacc)
    (hLw : cenv.locals ∉ wr) (hLD : cenv.locals ≠ Dacc) (hcw : ∀ x c, cenv.cells.lookup x = some c → c ∉ wr ∧ c ≠ Dacc)
    (V : ∀ x d, x ∉ t.names → ρ.lookup x = some d → ∃ v, VarAt h₁ cenv x v ∧ Rp X h₁ v d)
    (hk : HKeep h₁ s.heap) (hst : St 0 s.heap) {n0 : Nat} (hacc : s.heap.get? Dacc = some { cls := .type "list", data := .seq ([] : List Value).toArray n0 })
    (hgr : Grows s₀ s)
    (B : ∀ ρ', BodyOk prog w A cenv (Dacc :: (wr ++ X)) h₁ s₀ ifs elt tst el ρ')
    (htot : compItems tst el t ρ ds = some outs) (hlen : ds.length ≤ sizeLine)
    (hR : ∀ h' tk m (ys : List Value) n, h'.Ns cenv.locals m → h'.get? Dacc = some { cls := .type "list", data := .seq ys.toArray n } → ys.length ≤ sizeLine → RpAll (Dacc :: (wr ++ X)) h' ys outs → HKeep h₁ h' →
      R (.ok .next) { s with heap := h', toks := tk }) :
    codeAny (model prog w) A (.compLoop (.ListComp elt [⟨target, iter, ifs, 0⟩] scope pos) 0 (.ref it) (.ref Dacc) cenv) R s := by
  have hYw : ∀ b ∈ wr, b ∈ Dacc :: (wr ++ X) := fun b hb => List.mem_cons_of_mem _ (List.mem_append_left _ hb)
  have hY : ∀ b ∈ Dacc :: (wr ++ X), b ∈ X ∨ h₁.get? b = none := fun b hb => by
    rcases List.mem_cons.mp hb with rfl | hb
    · exact .inr hD1
    · rcases List.mem_append.mp hb with hb | hb
      · exact .inr (F.new b hb)
      · exact .inl hb
  refine compLoop_rule
    (LoopAt h₁ Dacc (Dacc :: (wr ++ X)) St t ds outs cenv ρ tst el s s₀) ?_ (ds.length + 1)
    (.mk s.heap s.toks [] n0 [] outs 0 hst (Nat.zero_le _) rfl hacc .nil (by simpa using htot) rfl (Nat.zero_le _) hk hE hgr)
  intro k s' hI
  obtain @⟨H, tk, ys, nn, done, rest, i, hst', hi, rfl, hacc', rys, hrest, htotal, hdl, hkH, hEH, hgrH⟩ := hI
  have kdec : i < ds.length → ds.length + 1 - (i + 1) < ds.length + 1 - i := fun h => Nat.sub_lt_sub_left (Nat.lt_succ_of_lt h) (Nat.lt_succ_self i)
  by_cases hlt : i < ds.length
  · obtain ⟨d, hd⟩ : ∃ d, ds[i]? = some d := ⟨ds[i], List.getElem?_eq_getElem hlt⟩
    have hdrop : ds.drop i = d :: ds.drop (i + 1) := by
      rw [List.drop_eq_getElem_cons hlt]
      congr 1
      have := List.getElem?_eq_getElem hlt
      rw [hd] at this; injection this with this; exact this.symm
    rw [hdrop] at hrest
    simp only [compItems] at hrest
    cases hb : bindT t d ρ with
    | none => rw [hb] at hrest; cases hrest
    | some ρ' =>
      rw [hb] at hrest
      dsimp only at hrest
      have hDw : Dacc ∉ wr := fun hm => hDf (F.sub _ hm)
      refine F.turn' (s := { s with heap := H, toks := tk }) hd hst' hEH.toEnvWf hEH.inj (fun x hx => hEH.slot (htk x hx)) hsfp (fun y a h => (hoff y a h).1) fun h₂ tk₂ Bd hst₂ g₂ => ?_
      have hg₂ : Grows s₀ { s with heap := h₂, toks := tk₂ } := hgrH.trans g₂
      have hk₂ : HKeep h₁ h₂ := fun b o e => Bd.keep b o (fun hm => by rw [F.new b hm] at e; cases e) (fun x hx hs => by rw [hsnew x hx b hs.symm] at e; cases e) (hkH b o e)
      have hacc₂ : h₂.get? Dacc = some { cls := .type "list", data := .seq ys.toArray nn } := Bd.keep _ _ hDw (fun x hx hs => (hoff x _ hs.symm).2 rfl) hacc'
      have rys₂ := rys.seq (Bd.seq _ hYw)
      have hE₂ : EnvOk h₂ cenv := ⟨hEH.toEnvWf, hEH.inj, hEH.full, fun x c hc => Bd.live c (hcw x c hc).1 (hEH.live x c hc), Bd.ns hLw hEH.ns⟩
      have V₂ : Vars (Dacc :: (wr ++ X)) h₂ cenv ρ' := took_vars hY hk₂.seq Bd.took hb fun x dx hx hl => let ⟨v, hv, r⟩ := V x dx hx hl; ⟨v, hv.keeps hk₂, (r.hide hY).keeps hk₂⟩
      unfold TurnEnd
      cases htst : tst ρ' with
      | none => rw [htst] at hrest; cases hrest
      | some b =>
        rw [htst] at hrest
        refine wpAny_grows hg₂ ((B ρ').tests b _ _ _ htst hg₂ hk₂ hE₂ V₂ fun s₃ k₃ hg₃ => ?_)
        obtain ⟨h₃, tk₃, rfl, hk₃⟩ := k₃
        have hst₃ : St (i + 1) h₃ := F.frame _ _ _ hst₂ fun b _ o e => hk₃ b o e
        cases b with
        | false =>
          rw [if_neg Bool.false_ne_true]
          exact ⟨ds.length + 1 - (i + 1), kdec hlt, .mk h₃ tk₃ ys nn done rest (i + 1) hst₃ hlt rfl (hk₃ _ _ hacc₂) (rys₂.keeps hk₃) hrest htotal (Nat.le_succ_of_le hdl) (HKeep.trans hk₂ hk₃) (hE₂.keeps hk₃) hg₃⟩
        | true =>
          rw [if_pos rfl]
          dsimp only at hrest
          cases hel : el ρ' with
          | none => rw [hel] at hrest; cases hrest
          | some e =>
            rw [hel] at hrest
            cases hre : compItems tst el t ρ (ds.drop (i + 1)) with
            | none => rw [hre] at hrest; cases hrest
            | some es =>
              rw [hre] at hrest
              simp only [Option.some.injEq] at hrest
              subst hrest
              refine wpAny_grows hg₃ ((B ρ').elt e _ _ _ hel hg₃ (HKeep.trans hk₂ hk₃) (hE₂.keeps hk₃) (V₂.keeps hk₃) fun v s₄ o₄ hg₄ => ?_)
              obtain ⟨⟨h₄, tk₄, rfl, hk₄⟩, rv⟩ := o₄
              have hyl : ys.length ≤ sizeLine := by rw [rys.length]; exact Nat.le_trans hdl (Nat.le_trans hi hlen)
              refine wpAny_grows hg₄ (wpAny_list_append_plain (hsz := by simpa using hyl) ⟨nn, hk₄ _ _ (hk₃ _ _ hacc₂)⟩ fun h₅ hl₅ hs₅ hg₅ => ?_)
              obtain ⟨n₅, hl₅⟩ := hl₅
              have sk : SeqKeep (Dacc :: (wr ++ X)) h₄ h₅ := fun b o xs n hb e _ => hs₅.extBut b o (fun e' => hb (e' ▸ List.mem_cons_self)) e
              have hk₅ : HKeep h₁ h₅ := fun b o e => hs₅.extBut b o (fun e' => by rw [e', hD1] at e; cases e) (hk₄ b o (hk₃ b o (hk₂ b o e)))
              refine ⟨ds.length + 1 - (i + 1), kdec hlt, .mk h₅ tk₄ (ys ++ [v]) n₅ (done ++ [e]) es (i + 1) ?_ hlt rfl (by simpa using hl₅) (RpAll.snoc (rv.seq sk) (((rys₂.keeps hk₃).keeps hk₄).seq sk)) hre (by simpa using htotal) (by rw [List.length_append]; exact Nat.succ_le_succ hdl) hk₅ ?_ hg₅⟩
              · exact F.frame _ _ _ hst₃ fun b hb o e => hs₅.extBut b o (fun e' => hDf (e' ▸ hb)) (hk₄ b o e)
              · have e4 := (hE₂.keeps hk₃).keeps hk₄
                exact ⟨e4.toEnvWf, e4.inj, e4.full, fun x c hc => let ⟨v, hv⟩ := e4.live x c hc; ⟨v, hv.sameBut hs₅ (hcw x c hc).2⟩, let ⟨m, hm⟩ := e4.ns; ⟨m, hm.sameBut hs₅ hLD⟩⟩
  · have hin : i = ds.length := Nat.le_antisymm hi (Nat.le_of_not_lt hlt)
    subst hin
    refine F.done _ _ _ hst' fun h₂ tk₂ hk₂ => ?_
    have hDw : Dacc ∉ wr := fun hm => hDf (F.sub _ hm)
    simp only [List.drop_length, compItems, Option.some.injEq] at hrest
    subst hrest
    rw [List.append_nil] at htotal
    subst htotal
    obtain ⟨m, hm⟩ := hEH.ns
    have hm := hm.at' (h' := h₂) fun o e => hk₂ _ o hLw e
    refine hR h₂ tk₂ m ys nn hm (hk₂ _ _ hDw hacc') ?_ (rys.seq (seqKeep_of_but hk₂ hYw)) (fun b o e => hk₂ b o (fun hm => by rw [F.new b hm] at e; cases e) (hkH b o e))
    rw [rys.length]
    exact Nat.le_trans hdl hlen
end
end Mine
end

section
open PySem PySem.W PyProof.Rows PySem.SeqAt
namespace Mine

noncomputable def clOf (env : Env) : List (Str × NameKind) → List (Str × Addr) → List (Str × Addr)
  | [], acc => acc
  | (n, k) :: r, acc => if k == .free then clOf env r ((n, (env.cells.lookup n).getD 0) :: acc) else clOf env r acc

theorem closureFor_eq {env : Env} {scope : Scope} (h : ∀ x ∈ scope.names, x.2 = .free → ∃ c, env.cells.lookup x.1 = some c) : closureFor scope env = pure (clOf env scope.names []) := by
  unfold closureFor
  have key : ∀ (names : List (Str × NameKind)) (acc : List (Str × Addr)), (∀ x ∈ names, x.2 = .free → ∃ c, env.cells.lookup x.1 = some c) →
      (forIn names acc (fun x r => if (x.2 == NameKind.free) = true then do let a ← cellOf env x.1; pure (ForInStep.yield ((x.1, a) :: r)) else pure (ForInStep.yield r)) : Sem (List (Str × Addr))) = pure (clOf env names acc) := by
    intro names
    induction names with
    | nil => intro acc _; rfl
    | cons p r ih =>
      intro acc hp
      obtain ⟨n, k⟩ := p
      rw [List.forIn_cons]
      unfold clOf
      by_cases hk : k = .free
      · subst hk
        obtain ⟨c, hc⟩ := hp (n, .free) List.mem_cons_self rfl
        have : cellOf env n = pure c := by unfold cellOf; rw [hc]
        simp only [beq_self_eq_true, if_true, this, hc, Option.getD_some]
        exact ih _ fun x hx => hp x (List.mem_cons_of_mem _ hx)
      · have hk' : (k == NameKind.free) = false := by simpa using hk
        simp only [hk', Bool.false_eq_true, if_false]
        exact ih _ fun x hx => hp x (List.mem_cons_of_mem _ hx)
  exact congrArg (fun m => Sem.bind m fun r => pure r) (key scope.names [] h)

theorem clOf_lookup {env : Env} : ∀ {names : List (Str × NameKind)} {acc : List (Str × Addr)}, (∀ x ∈ names, x.2 = .free → ∃ c, env.cells.lookup x.1 = some c) →
    (∀ x c, acc.lookup x = some c → env.cells.lookup x = some c) → ∀ x c, (clOf env names acc).lookup x = some c → env.cells.lookup x = some c
  | [], acc, _, ha, x, c, e => ha x c e
  | (n, k) :: r, acc, h, ha, x, c, e => by
    unfold clOf at e
    split at e
    · rename_i hk
      have hk : k = .free := by simpa using hk
      obtain ⟨c', hc'⟩ := h (n, k) List.mem_cons_self hk
      refine clOf_lookup (fun y hy => h y (List.mem_cons_of_mem _ hy)) (fun y cy ey => ?_) x c e
      rw [List.lookup_cons] at ey
      cases hb : y == n with
      | true => rw [hb] at ey; cases ey; rw [beq_iff_eq.mp hb, show env.cells.lookup n = some c' from hc']; rfl
      | false => rw [hb] at ey; exact ha y cy ey
    · exact clOf_lookup (fun y hy => h y (List.mem_cons_of_mem _ hy)) ha x c e
theorem clOf_acc {env : Env} : ∀ {names : List (Str × NameKind)} {acc : List (Str × Addr)} {x : Str}, (∃ c, acc.lookup x = some c) → ∃ c, (clOf env names acc).lookup x = some c
  | [], _, _, h => h
  | (n, k) :: r, acc, x, h => by
    unfold clOf
    split
    · refine clOf_acc ?_
      rw [List.lookup_cons]
      cases hb : x == n with
      | true => exact ⟨_, rfl⟩
      | false => exact h
    · exact clOf_acc h
theorem clOf_some {env : Env} : ∀ {names : List (Str × NameKind)} {acc : List (Str × Addr)} {x : Str}, (x, NameKind.free) ∈ names → ∃ c, (clOf env names acc).lookup x = some c
  | (n, k) :: r, acc, x, h => by
    unfold clOf
    rcases List.mem_cons.mp h with e | h
    · cases e
      simp only [beq_self_eq_true, if_true]
      exact clOf_acc ⟨(env.cells.lookup n).getD 0, by rw [List.lookup_cons]; simp⟩
    · split
      · exact clOf_some h
      · exact clOf_some h

theorem cellsFrom_acc : ∀ {names : List (Str × NameKind)} {n : Nat} {acc : List (Str × Addr)} {x : Str}, (∀ k, (x, k) ∈ names → k ≠ .cell) → (cellsFrom n names acc).lookup x = acc.lookup x
  | [], _, _, _, _ => rfl
  | (m, k) :: r, n, acc, x, h => by
    unfold cellsFrom
    split
    · rename_i hk
      have hk : k = .cell := by simpa using hk
      rw [cellsFrom_acc fun k' hk' => h k' (List.mem_cons_of_mem _ hk'), List.lookup_cons]
      have : (x == m) = false := by
        cases hb : x == m with
        | false => rfl
        | true => exact absurd hk (h k (by rw [beq_iff_eq.mp hb]; exact List.mem_cons_self))
      rw [this]
    · exact cellsFrom_acc fun k' hk' => h k' (List.mem_cons_of_mem _ hk')
theorem cellsFrom_lookup : ∀ {names : List (Str × NameKind)} {n : Nat} {acc : List (Str × Addr)} {x : Str} {c : Addr}, (cellsFrom n names acc).lookup x = some c → (n ≤ c ∧ (x, NameKind.cell) ∈ names) ∨ acc.lookup x = some c
  | [], _, _, _, _, h => .inr h
  | (m, k) :: r, n, acc, x, c, h => by
    unfold cellsFrom at h
    split at h
    · rename_i hk
      have hk : k = .cell := by simpa using hk
      rcases cellsFrom_lookup h with ⟨h1, h2⟩ | h1
      · exact .inl ⟨by omega, List.mem_cons_of_mem _ h2⟩
      · rw [List.lookup_cons] at h1
        cases hb : x == m with
        | true => rw [hb] at h1; cases h1; exact .inl ⟨Nat.le_refl _, by rw [beq_iff_eq.mp hb, hk]; exact List.mem_cons_self⟩
        | false => rw [hb] at h1; exact .inr h1
    · rcases cellsFrom_lookup h with ⟨h1, h2⟩ | h1
      · exact .inl ⟨h1, List.mem_cons_of_mem _ h2⟩
      · exact .inr h1
theorem cellsFrom_some : ∀ {names : List (Str × NameKind)} {n : Nat} {acc : List (Str × Addr)} {x : Str}, ((x, NameKind.cell) ∈ names ∨ ∃ c, acc.lookup x = some c) → ∃ c, (cellsFrom n names acc).lookup x = some c
  | [], _, _, _, h => h.elim (fun h => nomatch h) id
  | (m, k) :: r, n, acc, x, h => by
    unfold cellsFrom
    split
    · rename_i hk
      refine cellsFrom_some ?_
      rcases h with h | h
      · rcases List.mem_cons.mp h with e | h
        · cases e; exact .inr ⟨n, by rw [List.lookup_cons]; simp⟩
        · exact .inl h
      · right
        rw [List.lookup_cons]
        cases hb : x == m with
        | true => exact ⟨_, rfl⟩
        | false => exact h
    · rename_i hk
      refine cellsFrom_some ?_
      rcases h with h | h
      · rcases List.mem_cons.mp h with e | h
        · cases e; exact absurd rfl hk
        · exact .inl h
      · exact .inr h
/-- an own cell lies in the new part -/
theorem cellsFrom_own : ∀ {names : List (Str × NameKind)} {n : Nat} {acc : List (Str × Addr)} {x : Str} {c : Addr}, (x, NameKind.cell) ∈ names → (cellsFrom n names acc).lookup x = some c → n ≤ c
  | [], _, _, _, _, h, _ => nomatch h
  | (m, k) :: r, n, acc, x, c, h, e => by
    unfold cellsFrom at e
    by_cases hr : (x, NameKind.cell) ∈ r
    · split at e
      · have := cellsFrom_own hr e; omega
      · exact cellsFrom_own hr e
    · rcases List.mem_cons.mp h with e' | h'
      · cases e'
        simp only [beq_self_eq_true, if_true] at e
        rw [cellsFrom_acc (fun k hk hc => hr (hc ▸ hk)), List.lookup_cons] at e
        rw [beq_self_eq_true] at e
        cases e
        exact Nat.le_refl _
      · exact absurd h' hr
theorem cellsFrom_inj : ∀ {names : List (Str × NameKind)} {n : Nat} {acc : List (Str × Addr)}, (∀ x c, acc.lookup x = some c → c < n) → (∀ x y c, acc.lookup x = some c → acc.lookup y = some c → x = y) →
    ∀ x y c, (cellsFrom n names acc).lookup x = some c → (cellsFrom n names acc).lookup y = some c → x = y
  | [], _, _, _, hi, x, y, c, e1, e2 => hi x y c e1 e2
  | (m, k) :: r, n, acc, hb, hi, x, y, c, e1, e2 => by
    unfold cellsFrom at e1 e2
    split at e1
    · rename_i hk
      rw [if_pos hk] at e2
      refine cellsFrom_inj (acc := (m, n) :: acc) ?_ ?_ x y c e1 e2
      · intro z cz ez
        rw [List.lookup_cons] at ez
        cases hz : z == m with
        | true => rw [hz] at ez; cases ez; exact Nat.lt_succ_self _
        | false => rw [hz] at ez; exact Nat.lt_succ_of_lt (hb z cz ez)
      · intro z z' cz ez ez'
        rw [List.lookup_cons] at ez ez'
        cases hz : z == m with
        | true =>
          cases hz' : z' == m with
          | true => rw [beq_iff_eq.mp hz, beq_iff_eq.mp hz']
          | false => rw [hz] at ez; rw [hz'] at ez'; cases ez; exact absurd (hb z' _ ez') (Nat.lt_irrefl _)
        | false =>
          cases hz' : z' == m with
          | true => rw [hz] at ez; rw [hz'] at ez'; cases ez'; exact absurd (hb z _ ez) (Nat.lt_irrefl _)
          | false => rw [hz] at ez; rw [hz'] at ez'; exact hi z z' cz ez ez'
    · rename_i hk
      rw [if_neg hk] at e2
      exact cellsFrom_inj hb hi x y c e1 e2

/-- every own cell is laid, empty -/
theorem pushCells_cell : ∀ (names : List (Str × NameKind)) (h : Heap) (acc : List (Str × Addr)) (x : Str) (c : Addr), (cellsFrom h.objs.size names acc).lookup x = some c → h.objs.size ≤ c ∧ (pushCells h names).IsCell c none ∨ acc.lookup x = some c
  | [], _, _, _, _, e => .inr e
  | (m, k) :: r, h, acc, x, c, e => by
    unfold cellsFrom at e
    unfold pushCells
    split at e
    · rename_i hk
      rw [if_pos hk]
      have := pushCells_cell r (h.push { cls := .type "cell", data := .cell none }) ((m, h.objs.size) :: acc) x c (by rw [Heap.size_push]; exact e)
      rcases this with ⟨h1, h2⟩ | h1
      · rw [Heap.size_push] at h1; exact .inl ⟨by omega, h2⟩
      · rw [List.lookup_cons] at h1
        cases hb : x == m with
        | true => rw [hb] at h1; cases h1; exact .inl ⟨Nat.le_refl _, ⟨_, pushCells_keeps _ _ _ _ (Heap.get?_push_size _ rfl), rfl⟩⟩
        | false => rw [hb] at h1; exact .inr h1
    · rename_i hk
      rw [if_neg hk]
      exact pushCells_cell r h acc x c e
end Mine
end

section
open PySem PySem.W PyProof.Rows PySem.SeqAt
namespace Mine

noncomputable def compOk (sc' sc : Scope) (t : Target) : Bool :=
  sc'.kind == .function && sc'.names.all (fun p => p.2 != .local || sc'.names.lookup p.1 == some .local) &&
  sc'.names.all (fun p => p.2 != .free || sc.names.lookup p.1 == some .cell) && sc'.names.all (fun p => p.2 != .cell || t.names.contains p.1) &&
  t.names.all (fun x => sc'.names.lookup x == some .local || sc'.names.lookup x == some .cell)
noncomputable def restr (sc' : Scope) (t : Target) (ρ : Rho) : Rho := ρ.filter fun p => sc'.names.lookup p.1 == some .free && !t.names.contains p.1

theorem lookup_restr {sc' : Scope} {t : Target} {x : Str} {d : D} : ∀ {ρ : Rho}, (restr sc' t ρ).lookup x = some d → ρ.lookup x = some d ∧ sc'.names.lookup x = some .free ∧ x ∉ t.names
  | [], h => by simp [restr] at h
  | (y, e) :: r, h => by
    unfold restr at h
    rw [List.filter_cons] at h
    split at h
    · rename_i hy
      rw [List.lookup_cons] at h
      cases hb : x == y with
      | true =>
        rw [hb] at h; cases h
        have := beq_iff_eq.mp hb; subst this
        simp only [Bool.and_eq_true, beq_iff_eq, Bool.not_eq_true', List.contains_eq_mem, decide_eq_false_iff_not] at hy
        exact ⟨by rw [List.lookup_cons, hb], hy.1, hy.2⟩
      | false =>
        rw [hb] at h
        obtain ⟨h1, h2⟩ := lookup_restr (ρ := r) h
        exact ⟨by rw [List.lookup_cons, hb]; exact h1, h2⟩
    · rename_i hy
      obtain ⟨h1, h2⟩ := lookup_restr (ρ := r) h
      refine ⟨?_, h2⟩
      rw [List.lookup_cons]
      cases hb : x == y with
      | true =>
        have := beq_iff_eq.mp hb; subst this
        refine absurd ?_ hy
        simp only [Bool.and_eq_true, beq_iff_eq, Bool.not_eq_true', List.contains_eq_mem, decide_eq_false_iff_not]
        exact h2
      | false => exact h1

theorem lookup_kinds (P : Str → NameKind → Bool) {x : Str} : ∀ {names : List (Str × NameKind)},
    (names.map fun (n, k) => if P n k = true then (n, NameKind.cell) else (n, k)).lookup x = (names.lookup x).map fun k => if P x k = true then NameKind.cell else k
  | [] => rfl
  | (n, k) :: r => by
    have ih := lookup_kinds P (x := x) (names := r)
    rw [List.map_cons]
    show List.lookup x ((if P n k = true then (n, NameKind.cell) else (n, k)) :: _) = _
    cases hp : P n k with
    | true =>
      rw [if_pos rfl, List.lookup_cons, List.lookup_cons]
      cases hb : x == n with
      | true => have := beq_iff_eq.mp hb; subst this; simp [hp]
      | false => exact ih
    | false =>
      rw [if_neg Bool.false_ne_true, List.lookup_cons, List.lookup_cons]
      cases hb : x == n with
      | true => have := beq_iff_eq.mp hb; subst this; simp [hp]
      | false => exact ih
theorem kindOf_relabel {env cenv : Env} {scope : Scope} (h : cenv.scope = relabel scope env) (x : Str) :
    cenv.kindOf x = (scope.names.lookup x).map fun k => if (k == NameKind.free && env.scope.kind == .function && env.kindOf x == some .cell) = true then NameKind.cell else k := by
  have : cenv.kindOf x = (relabel scope env).names.lookup x := by unfold Env.kindOf; rw [h]
  rw [this]
  exact lookup_kinds (fun n k => k == NameKind.free && env.scope.kind == .function && env.kindOf n == some .cell)

theorem ltSize {h : Heap} {a : Nat} {o : Obj} (e : h.get? a = some o) : a < h.objs.size := Heap.lt_size e
theorem mem_of_lookup' {α : Type} {l : List (Str × α)} {n : Str} {c : α} (h : l.lookup n = some c) : (n, c) ∈ l := PySem.mem_of_lookup h

section
variable {prog : Program} {w : World} {A : Around} {E : Value → Shared → Prop} {s : Shared} {env : Env}

theorem newEnv_comp {M : Model} {scope : Scope} {cl : List (Str × Addr)} {Q : Env → Shared → Prop}
    (hQ : Q { scope := scope, locals := s.heap.objs.size, globals := env.globals, cells := cellsFrom (s.heap.objs.size + 1) scope.names cl, qual := env.qual, func := none, code := env.code, frame := env.frame, builtins := env.builtins }
      { s with heap := pushCells (s.heap.push { cls := .type "dict", data := .dict #[] }) scope.names }) :
    wpAny M A (newFunctionEnv scope env.globals cl [] env.qual none .none (some env)) Q E s := by
  simp only [newFunctionEnv, Option.isSome_some, if_true]
  refine wpAny_bind (wpAny_alloc ?_)
  refine wpAny_bind (wpAny_layCells _ (fun name kind cells => by cases hkc : kind == NameKind.cell <;> simp) _ _ _ _ ?_)
  rw [show ({ s with heap := s.heap.push { cls := .type "dict", data := .dict #[] } } : Shared).heap.objs.size = s.heap.objs.size + 1 from Heap.size_push ..]
  exact wpAny_bind (wpAny_pure (wpAny_pure hQ))

/-- the iterable of a loop is evaluated and its iterator made -/
noncomputable def Feeds (prog : Program) (w : World) (A : Around) (X : List Addr) (env : Env) (s : Shared) (iter target : Expr) (t : Target) (ds : List D) : Prop :=
  ∀ (E : Value → Shared → Prop) (Q : Value → Shared → Prop), (∀ it fp wr St h₁ s₂, Keeps s s₂ → Grows s s₂ → HKeep s.heap h₁ → HKeep h₁ s₂.heap → Feed prog w A X h₁ it fp wr St target t ds → St 0 s₂.heap →
    (∀ b ∈ fp, b < s₂.heap.objs.size) → (∀ b ∈ fp, s.heap.get? b = none ∨ (b ∉ X ∧ ∃ o xs n, s.heap.get? b = some o ∧ o.data = .seq xs n)) → Q (.ref it) s₂) → wpAny (model prog w) A (eval iter env) (fun xv s₁ => wpAny (model prog w) A (pyIter xv) Q E s₁) E s

theorem comp_expr {X : List Addr} {target elt iter : Expr} {ifs : List Expr} {scope : Scope} {pos pos' : Pos} {t : Target} {ds outs : List D} {ρ : Rho}
    {tst : Rho → Option Bool} {el : Rho → Option D} {use : Option (Value → Sem Unit)} {Q : Value → Shared → Prop}
    (hE : EnvOk s.heap env) (hok : compOk scope env.scope t = true) (hs : ∀ x, foldedSetIterable iter env x = pure x) (L : Low X s.heap) (V : Vars X s.heap env ρ)
    (hF : Feeds prog w A X env s iter target t ds)
    (B : ∀ cenv Y h₁ s₀ ρ', cenv.scope = relabel scope env → cenv.globals = env.globals → cenv.builtins = env.builtins → (∀ b ∈ Y, b < s₀.heap.objs.size) → HKeep s.heap h₁ → Grows s s₀ → BodyOk prog w A cenv Y h₁ s₀ ifs elt tst el ρ')
    (htot : compItems tst el t (restr scope t ρ) ds = some outs) (hlen : ds.length ≤ sizeLine)
    (hP : ∀ Da C Y h' tk m (ys : List Value) n, s.heap.get? C = none → C ≠ Da → Da ∉ X → s.heap.get? Da = none → h'.Ns C m → h'.get? Da = some { cls := .type "list", data := .seq ys.toArray n } → ys.length ≤ sizeLine → (∀ b ∈ X, b ∈ Y) → RpAll Y h' ys outs → HKeep s.heap h' →
      Grows s { s with heap := h', toks := tk } → compPost (model prog w) A E use Q (.ref Da) C (.ok .next) { s with heap := h', toks := tk }) :
    wpAny (model prog w) A (comprehension (.ListComp elt [⟨target, iter, ifs, 0⟩] scope pos) scope env pos' (newList []) false (eval iter env) use) Q E s := by
  simp only [compOk, Bool.and_eq_true, List.all_eq_true, Bool.or_eq_true, bne_iff_ne, beq_iff_eq, List.contains_eq_mem, decide_eq_true_eq] at hok
  obtain ⟨⟨⟨⟨hkind, hloc⟩, hfree⟩, hcell⟩, htn⟩ := hok
  have hfr : ∀ x ∈ scope.names, x.2 = .free → ∃ c, env.cells.lookup x.1 = some c := fun x hx hf => hE.full x.1 ((hfree x hx).resolve_left fun h => h hf)
  refine wpAny_comprehension_free rfl hs (closureFor_eq hfr) hkind (fun x hx hl => (hloc x hx).resolve_left fun h => h hl) (hF E _ fun it fp wr St h₁ s₂ k₂ g₂ kh₁ kh₂ F hst hfp _ => ?_)
  obtain ⟨h₂, tk₂, rfl, kk₂⟩ := k₂
  refine wpAny_newObj_type (hd := by size_fits) (newEnv_comp ?_)
  generalize hH : h₂.push { cls := .type "list", data := .seq ([] : List Value).toArray } = H
  have hDa : H.get? h₂.objs.size = some { cls := .type "list", data := .seq ([] : List Value).toArray } := hH ▸ Heap.get?_push_size _ rfl
  have hHs : H.objs.size = h₂.objs.size + 1 := by rw [← hH, Heap.size_push]
  have kH : HKeep h₂ H := hH ▸ HKeep.push _ _
  have hfp' : ∀ b : Nat, b ∈ fp → b < h₂.objs.size := hfp
  have L' : ∀ b : Nat, b ∈ X → b < s.heap.objs.size := L
  have hgr2' : s.heap.objs.size ≤ h₂.objs.size := g₂.2
  have hgr2 : Grows s { s with heap := h₂, toks := tk₂ } := g₂
  generalize hC : H.objs.size = C
  generalize hcl : clOf env scope.names [] = cl
  have hclk : ∀ x c, cl.lookup x = some c → env.cells.lookup x = some c := fun x c e => clOf_lookup hfr (fun _ _ h => by cases h) x c (hcl ▸ e)
  generalize hH2 : H.push { cls := .type "dict", data := .dict #[] } = H2
  have hH2s : H2.objs.size = C + 1 := by rw [← hH2, Heap.size_push, hC]
  have kH2 : HKeep H H2 := hH2 ▸ HKeep.push _ _
  generalize hH3 : pushCells H2 scope.names = H3
  have kH3 : HKeep H2 H3 := hH3 ▸ pushCells_keeps _ _
  have k23 : HKeep h₂ H3 := kH.trans (kH2.trans kH3)
  have hDlt : @LT.lt Nat _ h₂.objs.size C := Nat.lt_of_succ_le (Nat.le_of_eq (hHs.symm.trans hC))
  have up : ∀ a : Nat, a < h₂.objs.size → a < C := fun a h => Nat.lt_trans h hDlt
  have hDC : h₂.objs.size ≠ C := Nat.ne_of_lt hDlt
  have oldC : ∀ x c, env.cells.lookup x = some c → ∃ o, s.heap.get? c = some o := fun x c e => let ⟨_, o, ho, _⟩ := hE.live x c e; ⟨o, ho⟩
  have inh₁ : ∀ c o, s.heap.get? c = some o → h₁.get? c = some o := kh₁
  have none_of : ∀ a : Nat, h₂.objs.size ≤ a → h₁.get? a = none := fun a ha => by
    cases e : h₁.get? a with
    | none => rfl
    | some o => exact absurd (ltSize (kh₂ a o e)) (Nat.not_lt.mpr ha)
  have wr_lt : ∀ b : Nat, b ∈ wr → b < h₂.objs.size := fun b hb => hfp b (F.sub b hb)
  let cenv : Env := { scope := relabel scope env, locals := C, globals := env.globals, cells := cellsFrom (C + 1) scope.names cl, qual := env.qual, func := none, code := env.code, frame := env.frame, builtins := env.builtins }
  have hkO : ∀ x, cenv.kindOf x = (scope.names.lookup x).map fun k => if (k == NameKind.free && env.scope.kind == .function && env.kindOf x == some .cell) = true then NameKind.cell else k := kindOf_relabel rfl
  have cells_case : ∀ (x : Str) (c : Nat), cenv.cells.lookup x = some c → (C + 1 ≤ c ∧ (x, NameKind.cell) ∈ scope.names ∧ H3.IsCell c none) ∨ env.cells.lookup x = some c := fun x c e => by
    rcases pushCells_cell scope.names H2 cl x c (by rw [hH2s]; exact e) with ⟨h1, h2⟩ | h1
    · rcases cellsFrom_lookup e with ⟨h3, h4⟩ | h3
      · exact .inl ⟨h3, h4, hH3 ▸ h2⟩
      · exact .inr (hclk x c h3)
    · exact .inr (hclk x c h1)
  have hns3 : H3.Ns C fun _ => none := hC ▸ (hH2 ▸ Heap.Ns.new H (.type "dict") : H2.Ns H.objs.size fun _ => none).keeps kH3
  have hE3 : EnvOk H3 cenv := by
    refine ⟨⟨hkind, hE.glob, hE.blt⟩, ?_, ?_, ?_, ⟨_, hns3⟩⟩
    · refine cellsFrom_inj (fun x c e => ?_) (fun x y c e1 e2 => hE.inj x y c (hclk x c e1) (hclk y c e2))
      obtain ⟨o, ho⟩ := oldC x c (hclk x c e)
      have := ltSize (kk₂ c o ho)
      exact Nat.lt_succ_of_lt (up c this)
    · intro x hx
      rw [hkO] at hx
      cases hl : scope.names.lookup x with
      | none => rw [hl] at hx; cases hx
      | some k =>
        have hm := mem_of_lookup' hl
        refine cellsFrom_some ?_
        by_cases hk : k = .free
        · subst hk; exact .inr (hcl ▸ clOf_some hm)
        · rw [hl] at hx
          have : (k == NameKind.free) = false := by simpa using hk
          simp only [Option.map_some, this, Bool.false_and, Bool.false_eq_true, if_false, Option.some.injEq] at hx
          subst hx; exact .inl hm
    · intro x c e
      rcases cells_case x c e with ⟨_, _, h⟩ | h
      · exact ⟨_, h⟩
      · obtain ⟨v, hv⟩ := hE.live x c h
        exact ⟨v, (hv.keeps kk₂).keeps k23⟩
  have slot_case : ∀ (x : Str) (a : Nat), slotOf cenv x = some a → C ≤ a ∨ env.cells.lookup x = some a := fun x a e => by
    unfold slotOf at e
    split at e
    · cases e; exact .inl (Nat.le_refl _)
    · rcases cells_case x a e with ⟨h, _⟩ | h
      · exact .inl (Nat.le_of_succ_le h)
      · exact .inr h
  have tslot : ∀ x ∈ t.names, ∀ a : Nat, slotOf cenv x = some a → C ≤ a := fun x hx a e => by
    unfold slotOf at e
    split at e
    · cases e; exact Nat.le_refl _
    · rename_i hnl
      rcases htn x hx with h | h
      · refine absurd ?_ hnl
        rw [hkO, h]; rfl
      · exact Nat.le_of_succ_le (cellsFrom_own (mem_of_lookup' h) e)
  have loop : codeAny (model prog w) A (.compLoop (.ListComp elt [⟨target, iter, ifs, 0⟩] scope pos) 0 (.ref it) (.ref h₂.objs.size) cenv) (compPost (model prog w) A E use Q (.ref h₂.objs.size) C) { s with heap := H3, toks := tk₂ } := by
    have hgr : Grows s { s with heap := H3, toks := tk₂ } := ⟨hgr2.1, Nat.le_trans hgr2.2 (Nat.le_of_lt (Nat.lt_trans hDlt hns3.lt))⟩
    refine codeAny_grows hgr (comp_loop (s := { s with heap := H3, toks := tk₂ }) (s₀ := { s with heap := H3, toks := tk₂ }) F hE3 (fun x hx => ?_) (none_of _ (Nat.le_refl _)) (fun hm => Nat.lt_irrefl _ (hfp _ hm)) ?_ ?_ ?_ ?_ ?_ ?_ ?_ (kh₂.trans k23) (F.frame _ _ _ hst fun b _ o e => k23 b o e) ((kH2.trans kH3) _ _ hDa) (Grows.refl _) (fun ρ' => B cenv _ h₁ _ ρ' rfl rfl rfl ?_ kh₁ hgr) htot hlen ?_)
    · rw [hkO]
      rcases htn x hx with h | h
      · rw [h]; exact .inl rfl
      · rw [h]; exact .inr rfl
    · intro x hx a e hm
      exact Nat.lt_irrefl _ (Nat.lt_of_lt_of_le (up a (hfp' a hm)) (tslot x hx a e))
    · intro x hx a e
      exact none_of a (Nat.le_of_lt (Nat.lt_of_lt_of_le hDlt (tslot x hx a e)))
    · intro y a e
      rcases slot_case y a e with h | h
      · exact ⟨fun hm => Nat.lt_irrefl _ (Nat.lt_of_lt_of_le (up a (wr_lt a hm)) h), Nat.ne_of_gt (Nat.lt_of_lt_of_le hDlt h)⟩
      · obtain ⟨o, ho⟩ := oldC y a h
        have h1 := inh₁ a o ho
        exact ⟨fun hm => (by rw [F.new a hm] at h1; cases h1), fun e' => (by rw [e', none_of _ (Nat.le_refl _)] at h1; cases h1)⟩
    · exact fun hm => Nat.lt_asymm hDlt (wr_lt C hm)
    · exact Ne.symm hDC
    · intro y a e
      rcases cells_case y a e with ⟨h, _⟩ | h
      · have h := Nat.le_of_succ_le h
        exact ⟨fun hm => Nat.lt_irrefl _ (Nat.lt_of_lt_of_le (up a (wr_lt a hm)) h), Nat.ne_of_gt (Nat.lt_of_lt_of_le hDlt h)⟩
      · obtain ⟨o, ho⟩ := oldC y a h
        have h1 := inh₁ a o ho
        exact ⟨fun hm => (by rw [F.new a hm] at h1; cases h1), fun e' => (by rw [e', none_of _ (Nat.le_refl _)] at h1; cases h1)⟩
    · intro x d hx hl
      obtain ⟨h1, h2, h3⟩ := lookup_restr hl
      obtain ⟨v, hv, r⟩ := V x d h1
      have hk : env.kindOf x = some .cell := (hfree (x, .free) (mem_of_lookup' h2)).resolve_left fun h => h rfl
      refine ⟨v, ?_, r.keeps kh₁⟩
      rcases hv with ⟨hk', _⟩ | ⟨_, c, hc, hv⟩
      · rw [hk] at hk'; cases hk'
      · refine .inr ⟨.inl ?_, c, ?_, hv.keeps kh₁⟩
        · rw [hkO, h2, hk, hE.kind]; rfl
        · show (cellsFrom (C + 1) scope.names cl).lookup x = some c
          rw [cellsFrom_acc fun k hk' hc' => h3 ((hcell (x, k) hk').resolve_left fun h => h hc')]
          obtain ⟨c', hc'⟩ := clOf_some (env := env) (acc := []) (mem_of_lookup' h2)
          rw [hcl] at hc'
          have := hclk x c' hc'
          rw [hc] at this; cases this; exact hc'
    · intro b hb
      show @LT.lt Nat _ b H3.objs.size
      have hlt : (C : Nat) < H3.objs.size := hns3.lt
      rcases List.mem_cons.mp hb with rfl | hb
      · exact Nat.lt_trans hDlt hlt
      · rcases List.mem_append.mp hb with hb | hb
        · exact Nat.lt_trans (up b (wr_lt b hb)) hlt
        · exact Nat.lt_trans (up b (Nat.lt_of_lt_of_le (L' b hb) hgr2')) hlt
    · intro h' tk m ys n hm hda hyl r hk hg
      have hsn : s.heap.get? C = none ∧ s.heap.get? h₂.objs.size = none := by
        constructor
        · cases e : s.heap.get? C with
          | none => rfl
          | some o => exact absurd (ltSize (kk₂ C o e)) (Nat.lt_asymm hDlt)
        · cases e : s.heap.get? h₂.objs.size with
          | none => rfl
          | some o => exact absurd (ltSize (kk₂ _ o e)) (Nat.lt_irrefl _)
      exact hP _ C _ h' tk m ys n hsn.1 (Ne.symm hDC) (fun hm => Nat.lt_irrefl _ (Nat.lt_of_lt_of_le (L' _ hm) hgr2')) hsn.2 hm hda hyl (fun b hb => List.mem_cons_of_mem _ (List.mem_append_right _ hb)) r (kh₁.trans hk) hg
  exact codeAny_compStart_list loop (F.self 0 _ _ _ (F.frame _ _ _ hst fun b _ o e => k23 b o e) loop)
end
end Mine
end

section
open PySem PySem.W PyProof.Rows PySem.SeqAt
namespace Mine

noncomputable abbrev Fn := List D → Option D

structure Meth where
  T : String
  name : Str
  id : String
  φ : Fn

noncomputable def tyOf : D → String
  | .str _ => "str"
  | .lst _ => "list"
  | _ => ""

/-- the pure world of a text: its functions by name, its methods -/
structure PW where
  fn : Str → Option Fn
  ms : List Meth

noncomputable def truthP : D → Option Bool
  | .bool b => some b
  | .tup l => some !l.isEmpty
  | _ => none

noncomputable def testE (ev : Expr → Option D) : Nat → Expr → Option Bool
  | 0, _ => none
  | k + 1, e => match e with
    | .Compare l [op] [r] _ => if behindInMarks op r then none else match ev l, ev r with
      | some a, some b => cmpP op a b
      | _, _ => none
    | .BoolOp op [a, b] _ => match testE ev k a with
      | none => none
      | some p => match op, p with
        | .And, false => some false
        | .Or, true => some true
        | _, _ => testE ev k b
    | .Name x p => match ev (.Name x p) with
      | some d => truthP d
      | none => none
    | _ => none

noncomputable def evalsE (ev : Expr → Option D) : List Expr → Option (List D)
  | [] => some []
  | e :: r => if isStarred e then none else match ev e, evalsE ev r with
    | some d, some ds => some (d :: ds)
    | _, _ => none

noncomputable def rangeD (n : Int) : List D := (List.range n.toNat).map fun (i : Nat) => D.int (i : Int)

noncomputable def zipD : List D → List D → List D
  | a :: as, b :: bs => .tup [a, b] :: zipD as bs
  | _, _ => []

noncomputable def enumD : Nat → List D → List D
  | i, d :: r => .tup [.int (i : Int), d] :: enumD (i + 1) r
  | _, [] => []

/-- what an iterable hands out; t tells the target's form -/
noncomputable def iterE (sc : Scope) (ev : Expr → Option D) (t : Target) : Expr → Option (List D)
  | .Call (.Name f _) [e] [] _ =>
    if f = ("range" : Str) ∧ sc.names.lookup f = some .globalImplicit then
      (match t, ev e with
       | .one _, some (.int n) => if 0 ≤ n ∧ n ≤ 100000 then some (rangeD n) else none
       | _, _ => none)
    else if f = ("enumerate" : Str) ∧ sc.names.lookup f = some .globalImplicit then
      (match t, ev e with
       | .two _ _, some (.tup ds) => some (enumD 0 ds)
       | _, _ => none)
    else none
  | .Call (.Name f fp) [a, b] [] cp =>
    if f = ("zip" : Str) ∧ sc.names.lookup f = some .globalImplicit then
      (match t, ev a, ev b with
       | .two _ _, some (.lst x), some (.lst y) => some (zipD x y)
       | _, _, _ => none)
    else (match t, ev (.Call (.Name f fp) [a, b] [] cp) with
      | .one _, some (.lst ds) => some ds
      | _, _ => none)
  | .Name x p => (match t, ev (.Name x p) with
    | .one _, some (.lst ds) => some ds
    | .one _, some (.tup ds) => some ds
    | _, _ => none)
  | .Tuple es k p => (match t, ev (.Tuple es k p) with
    | .one _, some (.tup ds) => some ds
    | _, _ => none)
  | .Subscript v i p => (match t, ev (.Subscript v i p) with
    | .one _, some (.lst ds) => some ds
    | _, _ => none)
  | _ => none

noncomputable def pickD (ds : List D) (i : Int) : Option D := if 0 ≤ i ∧ i < 2 ^ 63 then ds[i.toNat]? else none

noncomputable def optInt (ev : Expr → Option D) : Option Expr → Option (Option Int)
  | none => some none
  | some e => match ev e with
    | some (.int i) => some (some i)
    | _ => none

noncomputable def sliceD (ds : List D) (lo hi st : Option Int) : List D :=
  (sliceRange (sliceBounds lo hi st ds.length).1 (sliceBounds lo hi st ds.length).2.1 (sliceBounds lo hi st ds.length).2.2).filterMap (ds[·]?)

noncomputable def plainBase : Expr → Bool
  | .Name .. => true
  | .Constant .. => true
  | .Subscript .. => true
  | _ => false

noncomputable def evalP (P : PW) : Nat → Scope → Rho → Expr → Option D
  | 0, _, _, _ => none
  | n + 1, sc, ρ, e => match e with
    | .Name x _ => if okName x then ρ.lookup x else none
    | .Constant c _ _ => (match c with
      | .int i => some (.int i)
      | .float b => some (.flt b)
      | .str x => some (.str x)
      | .none => some .none
      | .bool b => some (.bool b)
      | _ => none)
    | .BinOp l op r _ => (match evalP P n sc ρ l, evalP P n sc ρ r with
      | some a, some b => binP op a b
      | _, _ => none)
    | .UnaryOp op x _ => (match op, evalP P n sc ρ x with
      | .USub, some (.int i) => some (.int (-i))
      | _, _ => none)
    | .Compare l [op] [r] _ => if behindInMarks op r then none else (match evalP P n sc ρ l, evalP P n sc ρ r with
      | some a, some b => (cmpP op a b).map .bool
      | _, _ => none)
    | .IfExp t b o _ => (match testE (evalP P n sc ρ) n t with
      | some true => evalP P n sc ρ b
      | some false => evalP P n sc ρ o
      | none => none)
    | .Tuple es _ _ => if es.length ≤ 1000 then (evalsE (evalP P n sc ρ) es).map .tup else none
    | .List es _ => if es.length ≤ 1000 then (evalsE (evalP P n sc ρ) es).map .lst else none
    | .Subscript v i _ => (match i with
      | .Slice lo hi st _ => (match evalP P n sc ρ v, optInt (evalP P n sc ρ) lo, optInt (evalP P n sc ρ) hi, optInt (evalP P n sc ρ) st with
        | some (.lst ds), some l, some h, some s => if s = some 0 then none else some (.lst (sliceD ds l h s))
        | some (.tup ds), some (some a), some none, some none => if 1 ≤ a ∧ a ≤ ds.length then some (.tup (ds.drop a.toNat)) else none
        | _, _, _, _ => none)
      | i => (match evalP P n sc ρ v, evalP P n sc ρ i with
        | some (.lst ds), some (.int k) => pickD ds k
        | some (.tup ds), some (.int k) => pickD ds k
        | _, _ => none))
    | .Call f args [] pos => (match f with
      | .Name g _ => if okName g ∧ sc.names.lookup g = some .globalImplicit ∧ args ≠ [] then (match P.fn g, evalsE (evalP P n sc ρ) args with
          | some φ, some ds => φ ds
          | _, _ => none) else none
      | .Attribute o name apos => if plainBase o ∧ apos.endLine = pos.line ∧ args.length < 20 ∧ args ≠ [] then (match evalP P n sc ρ o, evalsE (evalP P n sc ρ) args with
          | some d, some ds => (match P.ms.find? fun m => m.T == tyOf d && m.name == name with
            | some m => m.φ (d :: ds)
            | none => none)
          | _, _ => none) else none
      | _ => none)
    | .ListComp elt [⟨target, iter, ifs, isA⟩] sc' _ => if isA ≠ 0 then none else (match targetOf target with
      | none => none
      | some t => if !compOk sc' sc t then none else (match iterE sc (evalP P n sc ρ) t iter with
        | none => none
        | some ds => if ds.length ≤ sizeLine then
            let sc'' : Scope := { sc' with names := sc'.names.map fun (m, k) => if (k == .free && sc.kind == .function && sc.names.lookup m == some .cell) then (m, .cell) else (m, k) }
            (compItems (fun ρ' => match ifs with | [] => some true | [c] => testE (evalP P n sc'' ρ') n c | _ => none) (fun ρ' => evalP P n sc'' ρ' elt) t (restr sc' t ρ) ds).map .lst
          else none))
    | _ => none

structure Cx where
  prog : Program
  w : World
  mg : Str → Option Value
  mb : Str → Option Value
  G : Heap → Prop
  keep : ∀ {h h' : Heap}, HKeep h h' → G h → G h'
  gl : ∀ {h : Heap}, G h → h.Ns mainGlobals mg
  bl : ∀ {h : Heap}, G h → h.Ns builtinsNs mb
  nb : ∀ {h : Heap}, G h → NoneBooked h
  range : mg ("range" : Str) = none ∧ mb ("range" : Str) = some (.type "range")
  zip : mg ("zip" : Str) = none ∧ mb ("zip" : Str) = some (.type "zip")
  enum : mg ("enumerate" : Str) = none ∧ mb ("enumerate" : Str) = some (.type "enumerate")

structure Room (A : Around) (lvl : Nat) : Prop where
  hd : A.handled = none
  dp : A.depth + lvl < recursionLimit
  un : A.units + 20 * lvl + 1000 < cLine

noncomputable def Meets1 (c : Cx) (lvl : Nat) (fv : Value) (φ : Fn) : Prop :=
  ∀ (A : Around) (X : List Addr) (s : Shared) (vals : List Value) (ds : List D) (d : D) (E : Value → Shared → Prop) (Q : Value → Shared → Prop), Room A lvl → c.G s.heap → 0 < s.toks → Low X s.heap → RpAll X s.heap vals ds → φ ds = some d →
    (∀ v s', Out X s d v s' → Q v s') → wpAny (model c.prog c.w) A (call fv vals) Q E s

noncomputable def Plainly (c : Cx) (fv : Value) : Prop := (∃ id, fv = .builtin id) ∨ (∃ T, fv = .type T) ∨ (∃ a o fd, fv = .ref a ∧ o.data = .func fd ∧ ∀ h, c.G h → h.get? a = some o)
noncomputable def Res (c : Cx) (f : Str) (fv : Value) : Prop := c.mg f = some fv ∨ (c.mg f = none ∧ c.mb f = some fv)

noncomputable def CallOk (c : Cx) (lvl : Nat) (f : Str) (φ : Fn) : Prop := ∃ fv, Res c f fv ∧ Plainly c fv ∧ Meets1 c lvl fv φ

structure MethOk (c : Cx) (lvl : Nat) (m : Meth) : Prop where
  ne : m.T ≠ ""
  pa : PlainAttrs m.T
  slot : Slot m.T m.name m.id
  ty : typeOf (.builtin m.id) = pure (.type "method_descriptor")
  meets : Meets1 c lvl (.builtin m.id) m.φ

structure PWOk (c : Cx) (lvl : Nat) (P : PW) : Prop where
  fn : ∀ f φ, P.fn f = some φ → CallOk c lvl f φ
  ms : ∀ m ∈ P.ms, MethOk c lvl m
end Mine
end

section
open PySem PySem.W PyProof.Rows PySem.SeqAt
namespace Mine

structure StOk (c : Cx) (X : List Addr) (env : Env) (ρ : Rho) (s : Shared) : Prop where
  ev : EnvOk s.heap env
  g : c.G s.heap
  tk : 0 < s.toks
  low : Low X s.heap
  vars : Vars X s.heap env ρ

theorem Low.grows {X : List Addr} {s s' : Shared} (L : Low X s.heap) (g : Grows s s') : Low X s'.heap := fun b hb => Nat.lt_of_lt_of_le (L b hb) g.2
theorem StOk.keeps {c : Cx} {X : List Addr} {env : Env} {ρ : Rho} {s s' : Shared} (S : StOk c X env ρ s) (k : Keeps s s') (g : Grows s s') : StOk c X env ρ s' :=
  ⟨S.ev.keeps (Keeps.heap k), c.keep (Keeps.heap k) S.g, Nat.lt_of_lt_of_le S.tk g.1, S.low.grows g, S.vars.keeps (Keeps.heap k)⟩

noncomputable def Ev (c : Cx) (A : Around) (X : List Addr) (env : Env) (ρ : Rho) (e : Expr) (d : D) : Prop :=
  ∀ (s : Shared) (E Q : Value → Shared → Prop), StOk c X env ρ s → (∀ v s', Out X s d v s' → Grows s s' → Q v s') → wpAny (model c.prog c.w) A (eval e env) Q E s
noncomputable def Tst (c : Cx) (A : Around) (X : List Addr) (env : Env) (ρ : Rho) (e : Expr) (b : Bool) : Prop :=
  ∀ (s : Shared) (E : Value → Shared → Prop) (Q : Bool → Shared → Prop), StOk c X env ρ s → (∀ s', Keeps s s' → Grows s s' → Q b s') → wpAny (model c.prog c.w) A (isTrue e env (eval e env)) Q E s
noncomputable def Evs (c : Cx) (A : Around) (X : List Addr) (env : Env) (ρ : Rho) (es : List Expr) (ds : List D) : Prop :=
  ∀ (s : Shared) (E : Value → Shared → Prop) (Q : List Value → Shared → Prop) (pos : Pos), StOk c X env ρ s → (∀ vs s', Keeps s s' → RpAll X s'.heap vs ds → Grows s s' → Q vs s') → wpAny (model c.prog c.w) A (spliced (backTo pos (starEach es env))) Q E s

section
variable {c : Cx} {lvl : Nat} {A : Around} {X : List Addr} {env : Env} {ρ : Rho}

theorem Ev.of {e : Expr} {d : D} (h : ∀ (s : Shared) (E Q : Value → Shared → Prop), StOk c X env ρ s → (∀ v s', Out X s d v s' → Q v s') → wpAny (model c.prog c.w) A (eval e env) Q E s) : Ev c A X env ρ e d :=
  fun s E Q S hq => wpAny_grows (Grows.refl s) (h s _ _ S fun v s' o g => hq v s' o g)
theorem Tst.of {e : Expr} {b : Bool} (h : ∀ (s : Shared) (E : Value → Shared → Prop) (Q : Bool → Shared → Prop), StOk c X env ρ s → (∀ s', Keeps s s' → Q b s') → wpAny (model c.prog c.w) A (isTrue e env (eval e env)) Q E s) : Tst c A X env ρ e b :=
  fun s E Q S hq => wpAny_grows (Grows.refl s) (h s _ _ S fun s' k g => hq s' k g)
theorem Out.trans {s₁ s₂ s₃ : Shared} {d : D} {v : Value} (k : Keeps s₁ s₂) (o : Out X s₂ d v s₃) : Out X s₁ d v s₃ := ⟨Keeps.trans k o.1, o.2⟩

theorem ev_name {x : Str} {p : Pos} {d : D} (hn : okName x = true) (hl : ρ.lookup x = some d) : Ev c A X env ρ (.Name x p) d :=
  .of fun _ _ _ S h => ev_var S.ev.toEnvWf S.vars hl hn h

theorem ev_int {i : Int} {k : Nat} {p : Pos} : Ev c A X env ρ (.Constant (.int i) k p) (.int i) := .of fun s _ _ _ h => wpAny_Constant_int (h _ _ (out_int X s i))
theorem ev_flt {b : UInt64} {k : Nat} {p : Pos} : Ev c A X env ρ (.Constant (.float b) k p) (.flt b) := .of fun s _ _ S h => fun _ _ _ => h _ _ (out_flt X S.tk b)
theorem ev_str {x : Str} {k : Nat} {p : Pos} : Ev c A X env ρ (.Constant (.str x) k p) (.str x) := .of fun s _ _ _ h => wpAny_Constant_str (h _ _ (out_str X s x _ _))
theorem ev_none {k : Nat} {p : Pos} : Ev c A X env ρ (.Constant .none k p) .none := .of fun s _ _ _ h => wpAny_Constant_none (h _ _ ⟨Keeps.refl s, .none⟩)
theorem ev_bool {b : Bool} {k : Nat} {p : Pos} : Ev c A X env ρ (.Constant (.bool b) k p) (.bool b) := .of fun s _ _ _ h => wpAny_Constant_bool (h _ _ (out_bool X s b))

theorem ev_bin {l r : Expr} {op : Operator} {p : Pos} {a b d : D} (hl : Ev c A X env ρ l a) (hr : Ev c A X env ρ r b) (e : binP op a b = some d) : Ev c A X env ρ (.BinOp l op r p) d :=
  .of fun s E Q S h => wpAny_BinOp (hl s _ _ S fun va s₁ o₁ g₁ => hr s₁ _ _ (S.keeps o₁.1 g₁) fun vb s₂ o₂ g₂ =>
    have S₂ := (S.keeps o₁.1 g₁).keeps o₂.1 g₂
    bin_ok e S₂.tk S₂.low (o₁.2.keeps (Keeps.heap o₂.1)) o₂.2 fun v s' o => h v s' (o.trans (Keeps.trans o₁.1 o₂.1)))

theorem ev_neg {x : Expr} {p : Pos} {i : Int} (hx : Ev c A X env ρ x (.int i)) : Ev c A X env ρ (.UnaryOp .USub x p) (.int (-i)) :=
  .of fun s E Q S h => wpAny_UnaryOp (hx s _ _ S fun v s₁ o₁ g₁ => by
    obtain ⟨k, r⟩ := o₁
    cases r
    exact PyProof.Rows.neg_int (h _ _ (Out.trans k (out_int X s₁ (-i)))))

theorem ev_cmp {l r : Expr} {op : CmpOp} {p : Pos} {a b : D} {q : Bool} (R : Room A lvl) (hm : behindInMarks op r = false) (hl : Ev c A X env ρ l a) (hr : Ev c A X env ρ r b) (e : cmpP op a b = some q) : Ev c A X env ρ (.Compare l [op] [r] p) (.bool q) :=
  .of fun s E Q S h => wpAny_Compare1 (hm := hm) (hl s _ _ S fun va s₁ o₁ g₁ => hr s₁ _ _ (S.keeps o₁.1 g₁) fun vb s₂ o₂ g₂ =>
    have S₂ := (S.keeps o₁.1 g₁).keeps o₂.1 g₂
    cmp_ok e (c.nb S₂.g) (by have := R.un; omega) (o₁.2.keeps (Keeps.heap o₂.1)) o₂.2 (h _ _ (Out.trans (Keeps.trans o₁.1 o₂.1) (out_bool X s₂ q))))

theorem tst_cmp {l r : Expr} {op : CmpOp} {p : Pos} {a b : D} {q : Bool} (R : Room A lvl) (hm : behindInMarks op r = false) (hl : Ev c A X env ρ l a) (hr : Ev c A X env ρ r b) (e : cmpP op a b = some q) : Tst c A X env ρ (.Compare l [op] [r] p) q :=
  .of fun s E Q S h => wpAny_isTrue_Compare1 (hm := hm) (hl s _ _ S fun va s₁ o₁ g₁ => hr s₁ _ _ (S.keeps o₁.1 g₁) fun vb s₂ o₂ g₂ =>
    have S₂ := (S.keeps o₁.1 g₁).keeps o₂.1 g₂
    cmp_ok e (c.nb S₂.g) (by have := R.un; omega) (o₁.2.keeps (Keeps.heap o₂.1)) o₂.2 (wpAny_truthy_bool (h _ (Keeps.trans o₁.1 o₂.1))))

theorem tst_bool {a b : Expr} {op : BoolOp} {p : Pos} {q r : Bool} (ha : Tst c A X env ρ a q)
    (h2 : (op = .And ∧ q = false ∧ r = false) ∨ (op = .Or ∧ q = true ∧ r = true) ∨ (((op = .And ∧ q = true) ∨ (op = .Or ∧ q = false)) ∧ Tst c A X env ρ b r)) : Tst c A X env ρ (.BoolOp op [a, b] p) r :=
  .of fun s E Q S h => wpAny_isTrue_BoolOp (by
    rcases h2 with ⟨rfl, rfl, rfl⟩ | ⟨rfl, rfl, rfl⟩ | ⟨⟨rfl, rfl⟩ | ⟨rfl, rfl⟩, hb⟩
    · exact wpAny_allTrue_And_cons (ha s _ _ S fun s₁ k₁ g₁ => by rw [if_neg Bool.false_ne_true]; exact h s₁ k₁)
    · exact wpAny_allTrue_Or_cons (ha s _ _ S fun s₁ k₁ g₁ => by rw [if_pos rfl]; exact h s₁ k₁)
    · refine wpAny_allTrue_And_cons (ha s _ _ S fun s₁ k₁ g₁ => ?_)
      rw [if_pos rfl]
      refine wpAny_allTrue_And_cons (hb s₁ _ _ (S.keeps k₁ g₁) fun s₂ k₂ g₂ => ?_)
      cases r with
      | true => rw [if_pos rfl]; exact wpAny_allTrue_And_nil (h s₂ (Keeps.trans k₁ k₂))
      | false => rw [if_neg Bool.false_ne_true]; exact h s₂ (Keeps.trans k₁ k₂)
    · refine wpAny_allTrue_Or_cons (ha s _ _ S fun s₁ k₁ g₁ => ?_)
      rw [if_neg Bool.false_ne_true]
      refine wpAny_allTrue_Or_cons (hb s₁ _ _ (S.keeps k₁ g₁) fun s₂ k₂ g₂ => ?_)
      cases r with
      | true => rw [if_pos rfl]; exact h s₂ (Keeps.trans k₁ k₂)
      | false => rw [if_neg Bool.false_ne_true]; exact wpAny_allTrue_Or_nil (h s₂ (Keeps.trans k₁ k₂)))

theorem truthy_ok {d : D} {b : Bool} {v : Value} {s : Shared} {E : Value → Shared → Prop} {Q : Bool → Shared → Prop} (e : truthP d = some b) (r : Rp X s.heap v d) (h : ∀ s', Keeps s s' → Q b s') : wpAny (model c.prog c.w) A (truthy v) Q E s := by
  cases r with
  | bool x => simp [truthP] at e; subst e; exact wpAny_truthy_bool (h s (Keeps.refl s))
  | @tup a n vs ds hx h1 h2 h3 =>
    simp only [truthP, Option.some.injEq] at e
    subst e
    have hl := h3.length
    have hs : (sizeLine : Nat) < 2 ^ 63 := by decide
    refine truthy_tuple (rp_isTuple h1) (by simp; omega) ?_
    have : (!vs.toArray.isEmpty) = !ds.isEmpty := by cases h3 <;> rfl
    rw [this]
    exact h _ (Keeps.tok _ _)
  | _ => simp [truthP] at e

theorem tst_name {x : Str} {p : Pos} {d : D} {b : Bool} (hx : Ev c A X env ρ (.Name x p) d) (e : truthP d = some b) : Tst c A X env ρ (.Name x p) b :=
  .of fun s E Q S h => PyProof.Rows.isTrue_plain (hx s _ _ S fun v s₁ o₁ g₁ => truthy_ok e o₁.2 fun s' k => h s' (Keeps.trans o₁.1 k))

theorem ev_if {t b o : Expr} {p : Pos} {q : Bool} {d : D} (ht : Tst c A X env ρ t q) (h2 : Ev c A X env ρ (if q then b else o) d) : Ev c A X env ρ (.IfExp t b o p) d :=
  .of fun s E Q S h => PyProof.Rows.IfExp_ (ht s _ _ S fun s₁ k₁ g₁ => by
    cases q with
    | true => rw [if_pos rfl]; exact h2 s₁ _ _ (S.keeps k₁ g₁) fun v s' o₁ _ => h v s' (o₁.trans k₁)
    | false => rw [if_neg Bool.false_ne_true]; exact h2 s₁ _ _ (S.keeps k₁ g₁) fun v s' o₁ _ => h v s' (o₁.trans k₁))

theorem starEach_cons {e : Expr} {r : List Expr} (h : isStarred e = false) : starEach (e :: r) env = (false, eval e env) :: starEach r env := by
  cases e <;> first | rfl | cases h

theorem evs_nil : Evs c A X env ρ [] [] := fun s _ _ _ _ h => PyProof.Rows.args_nil (h [] s (Keeps.refl s) .nil (Grows.refl s))
theorem evs_cons {e : Expr} {r : List Expr} {d : D} {ds : List D} (hs : isStarred e = false) (he : Ev c A X env ρ e d) (hr : Evs c A X env ρ r ds) : Evs c A X env ρ (e :: r) (d :: ds) := fun s E Q pos S h =>
  PyProof.Rows.args_cons (he := starEach_cons hs) (he s _ _ S fun v s₁ o₁ g₁ => hr s₁ _ _ pos (S.keeps o₁.1 g₁) fun vs s₂ k₂ r₂ g₂ => h _ s₂ (Keeps.trans o₁.1 k₂) (.cons (o₁.2.keeps (Keeps.heap k₂)) r₂) (g₁.trans g₂))

theorem ev_tuple {es : List Expr} {k : Nat} {p : Pos} {ds : List D} (hl : es.length ≤ 1000) (hd : ds.length = es.length) (he : Evs c A X env ρ es ds) : Ev c A X env ρ (.Tuple es k p) (.tup ds) :=
  .of fun s E Q S h => wpAny_Tuple_spliced (he s _ _ p S fun vs s₁ k₁ r₁ g₁ => by
    have hlen := r₁.length
    have : (1000 : Nat) ≤ sizeLine := by decide
    exact ⟨by omega, h _ _ (Out.trans k₁ (out_tuple (S.keeps k₁ g₁).low r₁ (by omega)))⟩)
theorem ev_list {es : List Expr} {p : Pos} {ds : List D} (hl : es.length ≤ 1000) (hd : ds.length = es.length) (he : Evs c A X env ρ es ds) : Ev c A X env ρ (.List es p) (.lst ds) :=
  .of fun s E Q S h => wpAny_List_spliced (he s _ _ p S fun vs s₁ k₁ r₁ g₁ => by
    have hlen := r₁.length
    have : (1000 : Nat) ≤ sizeLine := by decide
    exact ⟨by omega, h _ _ (Out.trans k₁ (out_list (S.keeps k₁ g₁).low r₁ (by omega)))⟩)
end
end Mine
end

section
open PySem PySem.W PyProof.Rows PySem.SeqAt
set_option linter.unusedVariables false
namespace Mine

section
variable {c : Cx} {lvl : Nat} {A : Around} {X : List Addr} {env : Env} {ρ : Rho}

theorem subTail_ok {value slice : Expr} {o i : Value} {T id : String} {ops : List Value} {s : Shared} {E Q : Value → Shared → Prop} (hT : s.TypeIs o T)
    (hl : typeLookup (.type T) "__getitem__" = pure (some (.builtin id))) (h : wpAny (model c.prog c.w) A (getItem o i) Q E s)
    (hs : subscripted slice false o i = operate ops (getItem o i)) : wpAny (model c.prog c.w) A (subscriptTail value slice o i) Q E s := by
  unfold subscriptTail
  refine wpAny_bind ?_
  rw [getitemInPython_of_ne hT.not_modules]
  refine wpAny_bind (wpAny_specialOf hT hl ?_)
  have fin : wpAny (model c.prog c.w) A (subscripted slice false o i) (fun r s₃ => wpAny (model c.prog c.w) A (letTemporaryGo value o r >>= fun _ => pure r) Q E s₃) E s := by
    rw [hs]
    exact wpAny_operating (wpAny_mono h (fun r s₃ h₃ => wpAny_bind (wpAny_letTemporaryGo (wpAny_pure h₃))) fun _ _ x => x)
  first
    | exact wpAny_pure (wpAny_bind fin)
    | exact wpAny_bind (wpAny_pure (wpAny_bind fin))
    | exact wpAny_bind fin

theorem subscripted_idx {slice : Expr} (hi : ∀ lo hi st p, slice ≠ .Slice lo hi st p) (o i : Value) : subscripted slice false o i = operate [o, i] (getItem o i) := by
  unfold subscripted
  split
  · exact absurd rfl (hi _ _ _ _)
  · cases ‹false = true›
  · rfl

theorem ev_sub {v i : Expr} {p : Pos} {d : D} {ds : List D} {k : Int} {dv : D} (hdv : dv = .lst ds ∨ dv = .tup ds) (hi : ∀ lo hi st p, i ≠ .Slice lo hi st p) (hv : Ev c A X env ρ v dv) (hk : Ev c A X env ρ i (.int k)) (e : pickD ds k = some d) :
    Ev c A X env ρ (.Subscript v i p) d := .of fun s E Q S h => by
  refine Subscript_ (hv s _ _ S fun vo s₁ o₁ g₁ => hk s₁ _ _ (S.keeps o₁.1 g₁) fun vi s₂ o₂ g₂ => ?_)
  obtain ⟨k₂, r₂⟩ := o₂
  cases r₂
  have r₁ := o₁.2.keeps (Keeps.heap k₂)
  unfold pickD at e
  split at e
  · rename_i hr
    rcases hdv with rfl | rfl
    · cases r₁ with
      | @lst a n vs _ hx h1 h2 h3 =>
        obtain ⟨x, hvx, rx⟩ := h3.get e
        refine subTail_ok (rp_isList h1).typeIs slot_list_getitem.lookup (wpAny_getItem_list (rp_isList h1) hr.1 hr.2 (by simpa using hvx) (h x s₂ ⟨Keeps.trans o₁.1 k₂, rx⟩)) (subscripted_idx hi _ _)
    · cases r₁ with
      | @tup a n vs _ hx h1 h2 h3 =>
        obtain ⟨x, hvx, rx⟩ := h3.get e
        have hlt : k.toNat < vs.length := (List.getElem?_eq_some_iff.mp hvx).1
        refine subTail_ok (rp_isTuple h1).typeIs slot_tuple_getitem.lookup (P.getItem_tuple h1 (by omega) hr.2 (k := k.toNat) ?_ (by simpa using hvx) (h x s₂ ⟨Keeps.trans o₁.1 k₂, rx⟩)) (subscripted_idx hi _ _)
        simp only [List.size_toArray]
        exact seqIndex_of hr.1 (by omega)
  · cases e

theorem RpAll.pick {h : Heap} {vs : List Value} {ds : List D} (r : RpAll X h vs ds) : ∀ js : List Nat, RpAll X h (js.filterMap (vs[·]?)) (js.filterMap (ds[·]?))
  | [] => .nil
  | j :: js => by
    rw [List.filterMap_cons, List.filterMap_cons]
    cases hd : ds[j]? with
    | none =>
      have : vs[j]? = none := by
        rw [List.getElem?_eq_none_iff] at hd ⊢
        rw [r.length]; exact hd
      rw [this]; exact RpAll.pick r js
    | some d =>
      obtain ⟨v, hv, rv⟩ := r.get hd
      rw [hv]
      exact .cons rv (RpAll.pick r js)

theorem ev_part {o : Option Expr} {k : Option Int} (h : ∀ e, o = some e → ∃ i, k = some i ∧ Ev c A X env ρ e (.int i)) (hn : o = none → k = none) {s : Shared} {E Q : Value → Shared → Prop} (S : StOk c X env ρ s)
    (hq : ∀ v s', IsPart v k → Keeps s s' → Grows s s' → Q v s') : wpAny (model c.prog c.w) A (evalPart o env) Q E s := by
  cases o with
  | none => rw [hn rfl] at hq; exact wpAny_pure (hq _ s .none (Keeps.refl s) (Grows.refl s))
  | some e =>
    obtain ⟨i, rfl, he⟩ := h e rfl
    exact he s _ _ S fun v s' o g => by
      obtain ⟨k, r⟩ := o
      cases r
      exact hq _ s' (.int _ _) k g

structure PartOk (c : Cx) (A : Around) (X : List Addr) (env : Env) (ρ : Rho) (o : Option Expr) (k : Option Int) : Prop where
  some : ∀ e, o = some e → ∃ i, k = some i ∧ Ev c A X env ρ e (.int i)
  none : o = none → k = none

theorem subscripted_slice (lo hi st : Option Expr) (p : Pos) (o i : Value) : ∃ ops, subscripted (.Slice lo hi st p) false o i = operate ops (getItem o i) := by
  cases st with
  | none => exact ⟨_, rfl⟩
  | some e => exact ⟨_, rfl⟩

theorem ev_slice {v : Expr} {lo hi st : Option Expr} {p p' : Pos} {ds : List D} {l h' k : Option Int} (hv : Ev c A X env ρ v (.lst ds)) (hl : PartOk c A X env ρ lo l) (hh : PartOk c A X env ρ hi h') (hs : PartOk c A X env ρ st k) (h0 : k ≠ some 0) :
    Ev c A X env ρ (.Subscript v (.Slice lo hi st p') p) (.lst (sliceD ds l h' k)) := .of fun s E Q S h => by
  refine Subscript_ (hv s _ _ S fun vo s₁ o₁ g₁ => wpAny_Slice (ev_part hl.some hl.none (S.keeps o₁.1 g₁) fun vl s₂ pl k₂ g₂ => ev_part hh.some hh.none ((S.keeps o₁.1 g₁).keeps k₂ g₂) fun vh s₃ ph k₃ g₃ =>
    ev_part hs.some hs.none (((S.keeps o₁.1 g₁).keeps k₂ g₂).keeps k₃ g₃) fun vs' s₄ ps k₄ g₄ => ?_))
  have kk : Keeps s₁ s₄ := Keeps.trans k₂ (Keeps.trans k₃ k₄)
  have r₁ := o₁.2.keeps (Keeps.heap kk)
  have S₄ := (((S.keeps o₁.1 g₁).keeps k₂ g₂).keeps k₃ g₃).keeps k₄ g₄
  obtain ⟨ops, hops⟩ := subscripted_slice lo hi st p' vo (.ref s₄.heap.objs.size)
  cases r₁ with
  | @lst a n vs _ hx h1 h2 h3 =>
    have hl1 : (s₄.heap.push { cls := .type "slice", data := .fields #[vl, vh, vs'] }).IsList a vs.toArray := (rp_isList h1).push _
    refine subTail_ok (Heap.IsList.typeIs (s := { s₄ with heap := s₄.heap.push { cls := .type "slice", data := .fields #[vl, vh, vs'] } }) hl1) list_getitem_lookup
      (wpAny_getItem_list_slice hl1 (Heap.IsSliceOf.new ..) pl ph ps h0 ?_ (by simpa using h2)) hops
    have hk5 : Keeps s₄ { s₄ with heap := s₄.heap.push { cls := .type "slice", data := .fields #[vl, vh, vs'] } } := Keeps.of_push _ _
    have L5 : Low X (s₄.heap.push { cls := .type "slice", data := .fields #[vl, vh, vs'] }) := fun b hb => Nat.lt_of_lt_of_le (S₄.low b hb) (by rw [Heap.size_push]; exact Nat.le_succ _)
    have r5 : RpAll X (s₄.heap.push { cls := .type "slice", data := .fields #[vl, vh, vs'] }) (slicePick vs.toArray l h' k).toList (sliceD ds l h' k) := by
      have := (h3.keeps (HKeep.push s₄.heap { cls := .type "slice", data := .fields #[vl, vh, vs'] })).pick (sliceRange (sliceBounds l h' k ds.length).1 (sliceBounds l h' k ds.length).2.1 (sliceBounds l h' k ds.length).2.2)
      unfold slicePick sliceD
      simp only [List.size_toArray, h3.length]
      simpa using this
    have hsz := slicePick_size_le vs.toArray l h' k
    have := out_list (s := { s₄ with heap := s₄.heap.push { cls := .type "slice", data := .fields #[vl, vh, vs'] } }) L5 r5 (by simp at hsz ⊢; omega)
    simp only [Array.toArray_toList] at this
    exact h _ _ (Out.trans (Keeps.trans o₁.1 (Keeps.trans kk hk5)) this)

theorem ev_slice_tup {v e : Expr} {p p' : Pos} {ds : List D} {a : Int} (hv : Ev c A X env ρ v (.tup ds)) (he : Ev c A X env ρ e (.int a)) (h1 : 1 ≤ a) (h2 : a ≤ ds.length) :
    Ev c A X env ρ (.Subscript v (.Slice (some e) none none p') p) (.tup (ds.drop a.toNat)) := .of fun s E Q S h => by
  refine Subscript_ (hv s _ _ S fun vo s₁ o₁ g₁ => wpAny_Slice ?_)
  show wpAny _ _ (eval e env) _ _ _
  refine he s₁ _ _ (S.keeps o₁.1 g₁) fun vl s₂ o₂ g₂ => wpAny_pure (wpAny_pure ?_)
  obtain ⟨k₂, r₂⟩ := o₂
  cases r₂ with
  | int _ t =>
  have r₁ := o₁.2.keeps (Keeps.heap k₂)
  have S₂ := (S.keeps o₁.1 g₁).keeps k₂ g₂
  have ha : a = (a.toNat : Int) := by omega
  rw [ha]
  generalize ho : ({ cls := .type "slice", data := .fields #[.int (a.toNat : Int) t, .none, .none] } : Obj) = ob
  cases r₁ with
  | @tup ad n vs _ hx q1 q2 q3 =>
    have hl1 : (s₂.heap.push ob).IsTuple ad vs.toArray := (rp_isTuple q1).push _
    have hlen := q3.length
    refine subTail_ok (ops := [_, _]) (Heap.IsTuple.typeIs (s := { s₂ with heap := s₂.heap.push ob }) hl1) slot_tuple_getitem.lookup
      (getItem_tuple_from (a := a.toNat) (u := t) hl1 (by subst ho; exact Heap.IsSliceOf.new ..) (by omega) (by simp; omega) ?_ (by simpa using q2)) rfl
    have L5 : Low X (s₂.heap.push ob) := fun b hb => Nat.lt_of_lt_of_le (S₂.low b hb) (by rw [Heap.size_push]; exact Nat.le_succ _)
    have dr : ∀ (n : Nat) {vs : List Value} {ds : List D}, RpAll X (s₂.heap.push ob) vs ds → RpAll X (s₂.heap.push ob) (vs.drop n) (ds.drop n) := by
      intro n
      induction n with
      | zero => intro vs ds r; exact r
      | succ n ih => intro vs ds r; cases r with
        | nil => exact .nil
        | cons _ r => exact ih r
    have := out_tuple (s := { s₂ with heap := s₂.heap.push ob }) L5 (dr a.toNat (q3.keeps (HKeep.push s₂.heap ob))) (by rw [List.length_drop]; omega)
    exact h _ _ (Out.trans (Keeps.trans o₁.1 (Keeps.trans k₂ (Keeps.of_push _ _))) this)
end
end Mine
end

section
open PySem PySem.W PyProof.Rows PySem.SeqAt
set_option linter.unusedVariables false
namespace Mine

section
variable {c : Cx} {lvl : Nat} {A : Around} {X : List Addr} {env : Env} {ρ : Rho}

theorem ev_global {x : Str} {p : Pos} {fv : Value} {s : Shared} {E Q : Value → Shared → Prop} (W : EnvWf env) (hG : c.G s.heap) (hx : env.kindOf x = some .globalImplicit) (hn : okName x = true) (hr : Res c x fv) (h : Q fv s) :
    wpAny (model c.prog c.w) A (eval (.Name x p) env) Q E s := by
  unfold okName at hn
  simp only [Bool.and_eq_true, Bool.not_eq_true'] at hn
  have hg := c.gl hG
  have hb := c.bl hG
  rw [← W.glob] at hg
  rw [← W.blt] at hb
  rcases hr with hr | ⟨h1, h2⟩
  · exact Calls.Name_function_global W.kind hx (Calls.loadGlobal_global hg hr h) hn.1
  · exact Calls.Name_function_global W.kind hx (Calls.loadGlobal_builtin hg h1 hb h2 h) hn.1

theorem noStar_any {args : List Expr} {pos : Pos} (h : ∀ e ∈ args, isStarred e = false) : (backTo pos (starEach args env)).any (·.1) = false := by
  induction args with
  | nil => rfl
  | cons e r ih =>
    rw [starEach_cons (h e List.mem_cons_self)]
    show (false || (backTo pos (starEach r env)).any (·.1)) = false
    rw [ih fun e he => h e (List.mem_cons_of_mem _ he)]; rfl
theorem noStar_all {args : List Expr} {pos : Pos} (h : ∀ e ∈ args, isStarred e = false) : (backTo pos (starEach args env)).all (fun x => !x.1) = true := by
  induction args with
  | nil => rfl
  | cons e r ih =>
    rw [starEach_cons (h e List.mem_cons_self)]
    show (true && (backTo pos (starEach r env)).all (fun x => !x.1)) = true
    rw [ih fun e he => h e (List.mem_cons_of_mem _ he)]; rfl

theorem args_ok {args : List Expr} {ds : List D} {pos : Pos} {f : Value} {s : Shared} {E : Value → Shared → Prop} {Q : Args → Shared → Prop} (hne : args ≠ []) (hst : ∀ e ∈ args, isStarred e = false) (ha : Evs c A X env ρ args ds) (S : StOk c X env ρ s)
    (h : ∀ vs s', Keeps s s' → RpAll X s'.heap vs ds → Grows s s' → Q ⟨vs, []⟩ s') : wpAny (model c.prog c.w) A (evalArgs f true (backTo pos (starEach args env)) []) Q E s := by
  cases args with
  | nil => exact absurd rfl hne
  | cons e r =>
    have := ha s E (fun vs s' => Q ⟨vs, []⟩ s') pos S h
    rw [starEach_cons (hst e List.mem_cons_self)] at this ⊢
    exact Calls.evalArgs_plain this

theorem ev_call {g : Str} {p pos : Pos} {args : List Expr} {ds : List D} {d : D} {φ : Fn} (R : Room A lvl) (hx : env.kindOf g = some .globalImplicit) (hn : okName g = true) (hne : args ≠ []) (hst : ∀ e ∈ args, isStarred e = false)
    (hf : CallOk c lvl g φ) (ha : Evs c A X env ρ args ds) (e : φ ds = some d) : Ev c A X env ρ (.Call (.Name g p) args [] pos) d := .of fun s E Q S h => by
  obtain ⟨fv, hr, hp, hm⟩ := hf
  refine Call_ (ev_global S.ev.toEnvWf S.g hx hn hr ?_)
  rcases hp with ⟨id, rfl⟩ | ⟨T, rfl⟩ | ⟨a, o, fd, rfl, hd, ho⟩
  · refine Calls.callWith_builtin (noStar_any hst) (args_ok hne hst ha S fun vs s₁ k₁ r₁ g₁ => ?_)
    have S₁ := S.keeps k₁ g₁
    exact hm A X s₁ vs ds d E Q R S₁.g S₁.tk S₁.low r₁ e fun v s' o => h v s' (o.trans k₁)
  · refine PyProof.Rows.callWith_type (noStar_any hst) (args_ok hne hst ha S fun vs s₁ k₁ r₁ g₁ => ?_)
    have S₁ := S.keeps k₁ g₁
    exact hm A X s₁ vs ds d E Q R S₁.g S₁.tk S₁.low r₁ e fun v s' o => h v s' (o.trans k₁)
  · refine Calls.callWith_function (o := o) (fd := fd) (args_ok hne hst ha S fun vs s₁ k₁ r₁ g₁ => ?_)
    have S₁ := S.keeps k₁ g₁
    exact ⟨⟨ho _ S₁.g, hd⟩, hm A X s₁ vs ds d E Q R S₁.g S₁.tk S₁.low r₁ e fun v s' o => h v s' (o.trans k₁)⟩

theorem tyOf_is {s : Shared} {v : Value} {d : D} (r : Rp X s.heap v d) (h : tyOf d ≠ "") : s.TypeIs v (tyOf d) ∧ (∀ a, v = .ref a → ∃ ob, s.heap.get? a = some ob ∧ ob.dict = none) := by
  cases r with
  | str x t => exact ⟨typeIs_str s x t, fun a e => nomatch e⟩
  | lst hx h1 h2 h3 => exact ⟨(rp_isList h1).typeIs, fun a e => by cases e; exact ⟨_, h1, rfl⟩⟩
  | _ => exact absurd rfl h

theorem ev_meth {o : Expr} {name : Str} {apos pos : Pos} {args : List Expr} {ds : List D} {dv d : D} {m : Meth} (R : Room A lvl) (hb : plainBase o = true) (hline : apos.endLine = pos.line) (hlen : args.length < 20) (hne : args ≠ []) (hst : ∀ e ∈ args, isStarred e = false)
    (hm : MethOk c lvl m) (hT : m.T = tyOf dv) (hname : m.name = name) (ho : Ev c A X env ρ o dv) (ha : Evs c A X env ρ args ds) (e : m.φ (dv :: ds) = some d) (hty : tyOf dv ≠ "") : Ev c A X env ρ (.Call (.Attribute o name apos) args [] pos) d := .of fun s E Q S h => by
  subst hname
  refine wpAny_Call_method ?_ ?_ (by rw [hline]; exact beq_self_eq_true _) hm.pa hm.slot hm.ty (ho s _ _ S fun vo s₁ o₁ g₁ => ?_)
  · cases o <;> first | rfl | cases hb
  · rw [noStar_all hst]
    simp only [Bool.true_and]
    show (true && decide (args.length + 0 + 0 < 30)) = true
    simp; omega
  · have S₁ := S.keeps o₁.1 g₁
    obtain ⟨h1, h2⟩ := tyOf_is (s := s₁) o₁.2 hty
    refine ⟨hT ▸ h1, h2, Calls.callWith_builtin (noStar_any hst) (args_ok hne hst ha S₁ fun vs s₂ k₂ r₂ g₂ => ?_)⟩
    have S₂ := S₁.keeps k₂ g₂
    exact hm.meets A X s₂ (vo :: vs) (dv :: ds) d E Q R S₂.g S₂.tk S₂.low (.cons (o₁.2.keeps (Keeps.heap k₂)) r₂) e fun v s' o => h v s' (o.trans (Keeps.trans o₁.1 k₂))
end
end Mine
end

section
open PySem PySem.W PyProof.Rows PySem.SeqAt
open AutoSeq1 (wpAny_loadPart')
set_option linter.unusedVariables false
namespace Mine

section
variable {prog : Program} {w : World} {A : Around} {E : Value → Shared → Prop} {s : Shared}

theorem next_tuple_item {it l : Addr} {i : Nat} {items} {x : Value} {Q : Value → Shared → Prop} (hit : s.heap.IsTupleIter it l i)
    (hl : s.heap.IsTuple l items) (hx : items[i]? = some x)
    (hQ : ∀ h', h'.IsTupleIter it l (i + 1) → Heap.SameBut it s.heap h' → Q x { s with heap := h' }) :
    wpAny (model prog w) A (Builtin.SmallTypes.nextOf (.ref it)) Q E s := by
  obtain ⟨o, ho, hc, hd⟩ := id hit
  obtain ⟨ol, hol, _, nl, hdl⟩ := hl
  unfold Builtin.SmallTypes.nextOf
  refine wpAny_bind (wpAny_callSpecial?_slot (name := Str.ofString "__next__") hit.typeIs F.slot_tuple_iterator_next
    (wpAny_call_entry F.slot_tuple_iterator_next hit.typeIs F.entry_tuple_iterator_next ?_ (F.args_tuple_iterator_next_1 _)))
  show wpAny _ _ (field (.ref it) 0 >>= _) _ _ s
  refine wpAny_bind (wpAny_field ho hd (x := .ref l) rfl ?_)
  show wpAny _ _ (if (Value.ref l == Value.none) = true then _ else _) _ _ s
  rw [if_neg (show ¬ ((Value.ref l == Value.none) = true) from Bool.false_ne_true)]
  show wpAny _ _ (field (.ref it) 1 >>= _) _ _ s
  refine wpAny_bind (wpAny_field ho hd (x := .int i 0) rfl ?_)
  show wpAny _ _ (seqItems? (.ref l) >>= _) _ _ s
  refine wpAny_bind (wpAny_seqItems hol hdl ?_)
  simp only [Int.toNat_natCast, hx]
  refine wpAny_bind (wpAny_setField ho hd (by simp) (wpAny_pure ⟨x, rfl, wpAny_pure (hQ _ ?_ (Heap.SameBut.update ..))⟩))
  exact ⟨_, Heap.get?_update_self _ ho (Obj.isFreed_of_fields (Obj.data_mapFields hd _)), (Obj.cls_mapFields ..).trans hc, by
    rw [Obj.data_mapFields hd]; simp [rawInt]⟩

theorem next_tuple_end {it l : Addr} {i : Nat} {items} {Q : Value → Shared → Prop} (hh : A.handled = none)
    (hit : s.heap.IsTupleIter it l i) (hl : s.heap.IsTuple l items) (hx : items[i]? = none)
    (hE : ∀ h' e, Heap.ExtBut it s.heap h' → (∃ o, h'.get? e = some o ∧ o.cls = .type "StopIteration") → E (.ref e) { s with heap := h' }) :
    wpAny (model prog w) A (Builtin.SmallTypes.nextOf (.ref it)) Q E s := by
  obtain ⟨o, ho, hc, hd⟩ := id hit
  obtain ⟨ol, hol, _, nl, hdl⟩ := hl
  unfold Builtin.SmallTypes.nextOf
  refine wpAny_bind (wpAny_callSpecial?_slot (name := Str.ofString "__next__") hit.typeIs F.slot_tuple_iterator_next
    (wpAny_call_entry F.slot_tuple_iterator_next hit.typeIs F.entry_tuple_iterator_next ?_ (F.args_tuple_iterator_next_1 _)))
  show wpAny _ _ (field (.ref it) 0 >>= _) _ _ s
  refine wpAny_bind (wpAny_field ho hd (x := .ref l) rfl ?_)
  show wpAny _ _ (if (Value.ref l == Value.none) = true then _ else _) _ _ s
  rw [if_neg (show ¬ ((Value.ref l == Value.none) = true) from Bool.false_ne_true)]
  show wpAny _ _ (field (.ref it) 1 >>= _) _ _ s
  refine wpAny_bind (wpAny_field ho hd (x := .int i 0) rfl ?_)
  show wpAny _ _ (seqItems? (.ref l) >>= _) _ _ s
  refine wpAny_bind (wpAny_seqItems hol hdl ?_)
  simp only [Int.toNat_natCast, hx]
  refine wpAny_bind (wpAny_rule (wpAny_bind (wpAny_setField ho hd (by simp) ?_)))
  show wpAny _ _ (newExc (.type "StopIteration") [] >>= _) _ _ _
  refine wpAny_bind ?_
  simp only [newExc, newTuple]
  refine wpAny_bind (wpAny_newObj_type ?_ (by size_fits))
  refine wpAny_bind (m := firstArgMember _ _) (wpAny_of_eq (a := Value.none) (by first | rfl | (simp only [firstArgMember]; rfl)) ?_)
  refine wpAny_newObj_type ?_ (by size_fits)
  simp only [raiseNew]
  refine wpAny_bind (wpAny_handled ?_)
  first | rw [show A.in1.handled = none from hh] | rw [hh]
  refine wpAny_bind (wpAny_pure (wpAny_throw ?_))
  exact hE _ _ (((Heap.SameBut.update ..).extBut.push _).push _) ⟨_, Heap.get?_push_size _ rfl, rfl⟩

theorem draws_tuple (hh : A.handled = none) (it l : Addr) (hne : l ≠ it) (items : Array Value) :
    Draws prog w A it [it, l] items.size (fun i v => items[i]? = some v) (fun i h => h.IsTupleIter it l i ∧ h.IsTuple l items) where
  live := fun _ _ st => let ⟨o, ho, _⟩ := st.1; ⟨o, ho⟩
  frame := fun _ _ _ st hk => ⟨st.1.at fun o e => hk it (by simp) o e, by obtain ⟨o, ho, r⟩ := st.2; exact ⟨o, hk l (by simp) o ho, r⟩⟩
  item := fun i s Q E hi st hQ => by
    refine next_tuple_item st.1 st.2 (x := items[i]) (by simp [hi]) fun h' hit' hs' => ?_
    exact hQ _ h' s.toks (by simp [hi]) ⟨hit', st.2.extBut hs'.extBut hne⟩ hs'
  done := fun s Q E st hE => next_tuple_end hh st.1 st.2 (by simp) hE

theorem meets_enumerate_tuple (l : Addr) (items : Array Value) (n : Nat) (dct : Option Addr) (sl : Array (Option Value)) :
    Meets (Builtin.«enumerate.__new__» ⟨[.type "enumerate", .ref l], []⟩) (fun _ R s => s.heap.get? l = some { cls := .type "tuple", dict := dct, data := .seq items n, slots := sl } ∧
      R (.ok (.ret (.ref (s.heap.push { cls := .type "tuple_iterator", data := .fields #[.ref l, .int 0 0] }).objs.size)))
        { s with heap := (s.heap.push { cls := .type "tuple_iterator", data := .fields #[.ref l, .int 0 0] }).push { cls := .type "enumerate", data := .fields #[.none, .bool false, .ref s.heap.objs.size, rawInt 0, .none, .none] } }) :=
  .of_wp fun prog w A R s h => by
    obtain ⟨hp, g, d, tk, os⟩ := s; obtain ⟨hl, h⟩ := h
    have hsub := sub_enumerate
    have hL : Heap.IsTuple (Shared.heap ⟨hp, g, d, tk, os⟩) l items := ⟨_, hl, rfl, n, rfl⟩
    wp_walk using wpAny_loadPart' hl
    refine wpAny_stack_any fun st => wpAny_pure ?_
    split
    · rename_i c _ _ _ _ _
      cases (c == Value.type "enumerate")
      · wp_walk using wpAny_loadPart' hl, wpAny_pyIter_tuple hL
        exact ⟨_, rfl, h⟩
      · wp_walk using wpAny_loadPart' hl, wpAny_pyIter_tuple hL
        exact ⟨_, rfl, h⟩
    · wp_walk using wpAny_loadPart' hl, wpAny_pyIter_tuple hL
      exact ⟨_, rfl, h⟩

theorem call_enumerate_tuple {l : Addr} {items : Array Value} {Q : Value → Shared → Prop} (hL : s.heap.IsTuple l items)
    (h : ∀ h', IsEnum h' (s.heap.objs.size + 1) s.heap.objs.size 0 .none → h'.IsTupleIter s.heap.objs.size l 0 → h'.objs.size = s.heap.objs.size + 2 →
      (∀ b o, s.heap.get? b = some o → h'.get? b = some o) → Q (.ref (s.heap.objs.size + 1)) { s with heap := h' }) :
    wpAny (model prog w) A (call (.type "enumerate") [.ref l]) Q E s := by
  obtain ⟨⟨c, dct, dt, sl⟩, hl, hc, n, hd⟩ := hL
  replace hc : c = .type "tuple" := hc
  replace hd : dt = .seq items n := hd
  subst hc hd
  refine callType_new F.called_enumerate (by decide) (F.typeCall_enumerate_1 _) (F.newCall_enumerate_1 _) (fun obj => F.args_object_init_2 obj _) F.entry_enumerate_new
    (meets_enumerate_tuple l items n dct sl) ⟨hl, ?_⟩
  have hz : (s.heap.push { cls := .type "tuple_iterator", data := .fields #[.ref l, .int 0 0] }).objs.size = s.heap.objs.size + 1 := Heap.size_push ..
  show _ ∧ _
  rw [hz]
  have he : IsEnum ((s.heap.push { cls := .type "tuple_iterator", data := .fields #[.ref l, .int 0 0] }).push
      { cls := .type "enumerate", data := .fields #[.none, .bool false, .ref s.heap.objs.size, rawInt 0, .none, .none] }) (s.heap.objs.size + 1) s.heap.objs.size 0 .none := by
    have := Heap.get?_push_size (s.heap.push { cls := .type "tuple_iterator", data := .fields #[.ref l, .int 0 0] })
      (o := { cls := .type "enumerate", data := .fields #[.none, .bool false, .ref s.heap.objs.size, rawInt 0, .none, .none] }) rfl
    rw [hz] at this; exact this
  refine ⟨⟨_, he, rfl⟩, h _ he ⟨_, Heap.get?_push_of_some _ (Heap.get?_push_size _ rfl), rfl, rfl⟩ (by rw [Heap.size_push, hz]) fun b o x => Heap.get?_push_of_some _ (Heap.get?_push_of_some _ x)⟩
end
end Mine
end

section
open PySem PySem.W PyProof.Rows PySem.SeqAt
set_option linter.unusedVariables false
namespace Mine

section
variable {c : Cx} {lvl : Nat} {A : Around} {X : List Addr} {env : Env} {ρ : Rho}

theorem fresh_none (h : Heap) {a : Nat} (ha : h.objs.size ≤ a) : h.get? a = none := by
  cases e : h.get? a with
  | none => rfl
  | some o => exact absurd (ltSize e) (Nat.not_lt.mpr ha)

theorem fp_case {s s₁ : Shared} {a : Addr} {o : Obj} {xs : Array Value} {n : Nat} (k : Keeps s s₁) (hx : a ∉ X) (h1 : s₁.heap.get? a = some o) (hd : o.data = .seq xs n) : s.heap.get? a = none ∨ (a ∉ X ∧ ∃ o xs n, s.heap.get? a = some o ∧ o.data = .seq xs n) := by
  cases e : s.heap.get? a with
  | none => exact .inl rfl
  | some o' =>
    have := Keeps.heap k a o' e
    rw [h1] at this; cases this
    exact .inr ⟨hx, _, _, _, rfl, hd⟩
theorem new_case {s s₁ : Shared} {b : Nat} (k : Keeps s s₁) (hb : s₁.heap.objs.size ≤ b) : s.heap.get? b = none := by
  cases e : s.heap.get? b with
  | none => rfl
  | some o => exact absurd (ltSize (Keeps.heap k b o e)) (Nat.not_lt.mpr hb)

theorem feeds_list {iter : Expr} {x : Str} {px : Pos} {ds : List D} {s : Shared} (hA : A.handled = none) (S : StOk c X env ρ s) (hi : Ev c A X env ρ iter (.lst ds)) : Feeds c.prog c.w A X env s iter (.Name x px) (.one x) ds := fun E Q h => by
  refine hi s _ _ S fun v s₁ o₁ g₁ => ?_
  obtain ⟨k₁, r₁⟩ := o₁
  cases r₁ with
  | @lst a n vs _ hx h1 h2 h3 =>
    refine wpAny_pyIter_list (rp_isList h1) ?_
    have hne : a ≠ s₁.heap.objs.size := Nat.ne_of_lt (ltSize h1)
    have W := Walks.list (prog := c.prog) (w := c.w) hA s₁.heap.objs.size a hne vs.toArray
    simp only [List.size_toArray, h3.length] at W
    refine h s₁.heap.objs.size _ _ _ s₁.heap _ (Keeps.trans k₁ (Keeps.of_push _ _)) ?_ (Keeps.heap k₁) (HKeep.push _ _) (Feed.ofWalks W (fun b hb => ?_) fun i v d hv hd => ?_) ?_ (fun b hb => ?_) fun b hb => ?_
    · exact g₁.trans ⟨Nat.le_refl _, by rw [Heap.size_push]; exact Nat.le_succ _⟩
    · rw [List.mem_singleton.mp hb]; exact fresh_none _ (Nat.le_refl _)
    · obtain ⟨v', hv', r⟩ := h3.get hd
      have : vs[i]? = some v := by simpa using hv
      rw [this] at hv'; cases hv'; exact r
    · exact ⟨⟨_, Heap.get?_push_size _ rfl, rfl, rfl⟩, (rp_isList h1).push _⟩
    · rw [Heap.size_push]
      rcases List.mem_cons.mp hb with rfl | hb
      · exact Nat.lt_succ_self _
      · rw [List.mem_singleton.mp hb]; exact Nat.lt_succ_of_lt (ltSize h1)
    · rcases List.mem_cons.mp hb with rfl | hb
      · exact .inl (new_case k₁ (Nat.le_refl _))
      · rw [List.mem_singleton.mp hb]; exact fp_case k₁ hx h1 rfl

theorem feeds_tuple {iter : Expr} {x : Str} {px : Pos} {ds : List D} {s : Shared} (hA : A.handled = none) (S : StOk c X env ρ s) (hi : Ev c A X env ρ iter (.tup ds)) : Feeds c.prog c.w A X env s iter (.Name x px) (.one x) ds := fun E Q h => by
  refine hi s _ _ S fun v s₁ o₁ g₁ => ?_
  obtain ⟨k₁, r₁⟩ := o₁
  cases r₁ with
  | @tup a n vs _ hx h1 h2 h3 =>
    refine wpAny_pyIter_tuple (rp_isTuple h1) ?_
    have hne : a ≠ s₁.heap.objs.size := Nat.ne_of_lt (ltSize h1)
    have W := Walks.tuple (prog := c.prog) (w := c.w) hA s₁.heap.objs.size a hne vs.toArray
    simp only [List.size_toArray, h3.length] at W
    refine h s₁.heap.objs.size _ _ _ s₁.heap _ (Keeps.trans k₁ (Keeps.of_push _ _)) ?_ (Keeps.heap k₁) (HKeep.push _ _) (Feed.ofWalks W (fun b hb => ?_) fun i v d hv hd => ?_) ?_ (fun b hb => ?_) fun b hb => ?_
    · exact g₁.trans ⟨Nat.le_refl _, by rw [Heap.size_push]; exact Nat.le_succ _⟩
    · rw [List.mem_singleton.mp hb]; exact fresh_none _ (Nat.le_refl _)
    · obtain ⟨v', hv', r⟩ := h3.get hd
      have : vs[i]? = some v := by simpa using hv
      rw [this] at hv'; cases hv'; exact r
    · exact ⟨⟨_, Heap.get?_push_size _ rfl, rfl, rfl⟩, (rp_isTuple h1).push _⟩
    · rw [Heap.size_push]
      rcases List.mem_cons.mp hb with rfl | hb
      · exact Nat.lt_succ_self _
      · rw [List.mem_singleton.mp hb]; exact Nat.lt_succ_of_lt (ltSize h1)
    · rcases List.mem_cons.mp hb with rfl | hb
      · exact .inl (new_case k₁ (Nat.le_refl _))
      · rw [List.mem_singleton.mp hb]; exact fp_case k₁ hx h1 rfl

theorem okName_range : okName ("range" : Str) = true := by decide +kernel
theorem okName_zip : okName ("zip" : Str) = true := by decide +kernel

theorem rangeSize_one (n : Int) : Builtin.Range.rangeSize 0 n 1 = (n.toNat : Int) := by
  unfold Builtin.Range.rangeSize
  rw [if_pos (by decide)]
  split
  · rw [Int.ediv_one]; omega
  · omega

theorem feeds_range {e : Expr} {x : Str} {px p pos : Pos} {n : Int} {s : Shared} (hA : A.handled = none) (S : StOk c X env ρ s) (hk : env.kindOf ("range" : Str) = some .globalImplicit) (hs : isStarred e = false) (hn : n ≤ 100000) (hl : -(2 ^ 62) ≤ n) (hi : Ev c A X env ρ e (.int n)) :
    Feeds c.prog c.w A X env s (.Call (.Name ("range" : Str) p) [e] [] pos) (.Name x px) (.one x) (rangeD n) := fun E Q h => by
  have hns : ∀ e' ∈ [e], isStarred e' = false := fun e' he' => by rw [List.mem_singleton.mp he']; exact hs
  refine Call_ (ev_global S.ev.toEnvWf S.g hk okName_range (.inr c.range) ?_)
  refine PyProof.Rows.callWith_type (noStar_any hns) (args_ok (by simp) hns (evs_cons hs hi evs_nil) S fun vs s₁ k₁ r₁ g₁ => ?_)
  cases r₁ with
  | cons r₁ r₂ =>
    cases r₂
    cases r₁ with
    | int _ tn =>
    refine call_range_1 ?_
    generalize hob : ({ cls := .type "range", data := .fields #[.int 0 s₁.toks, .int n tn, .int 1 (s₁.toks + 1)] } : Obj) = ob
    have hr : IsRange (s₁.heap.push ob) s₁.heap.objs.size 0 n 1 s₁.toks tn (s₁.toks + 1) := by subst hob; exact IsRange.new _ _ _ _ _ _ _
    refine wpAny_pyIter_range (s := { s₁ with heap := s₁.heap.push ob, toks := s₁.toks + 1 + 1 }) hr (small_one (by decide) (by decide) hl (by omega)) ?_
    rw [rangeSize_one]
    have W := Walks.range (prog := c.prog) (w := c.w) hA (s₁.heap.push ob).objs.size 0 1 n.toNat
    have hlen : (rangeD n).length = n.toNat := by simp [rangeD]
    rw [← hlen] at W
    have kk : Keeps s₁ { s₁ with heap := s₁.heap.push ob, toks := s₁.toks + 1 + 1 } := Keeps.mk' (HKeep.push _ _)
    refine h (s₁.heap.push ob).objs.size _ _ _ (s₁.heap.push ob) _ (Keeps.trans (Keeps.trans k₁ kk) (Keeps.of_push _ _)) ?_ (Keeps.heap (Keeps.trans k₁ kk)) (HKeep.push _ _) (Feed.ofWalks W (fun b hb => ?_) fun i v d hv hd => ?_) ?_ (fun b hb => ?_) fun b hb => ?_
    · exact g₁.trans ⟨by show s₁.toks ≤ s₁.toks + 1 + 1; omega, by show s₁.heap.objs.size ≤ _; rw [Heap.size_push, Heap.size_push]; omega⟩
    · rw [List.mem_singleton.mp hb]; exact fresh_none _ (Nat.le_refl _)
    · obtain ⟨t, rfl⟩ := hv
      have : d = .int (0 + (i : Int) * 1) := by
        simp only [rangeD, List.getElem?_map] at hd
        obtain ⟨j, hj, rfl⟩ := Option.map_eq_some_iff.mp hd
        have : j = i := by
          obtain ⟨h1, h2⟩ := List.getElem?_eq_some_iff.mp hj
          simpa using h2.symm
        subst this
        congr 1; omega
      rw [this]; exact .int _ _
    · show IsRangeIter _ _ _ _ _
      have := Heap.get?_push_size (s₁.heap.push ob) (o := { cls := .type "range_iterator", data := .fields #[rawInt 0, rawInt (n.toNat : Int), rawInt 1] }) rfl
      simpa [hlen] using this
    · rw [List.mem_singleton.mp hb]
      show (s₁.heap.push ob).objs.size < ((s₁.heap.push ob).push _).objs.size
      rw [Heap.size_push (s₁.heap.push ob)]; exact Nat.lt_succ_self _
    · rw [List.mem_singleton.mp hb]; exact .inl (new_case k₁ (by rw [Heap.size_push]; exact Nat.le_succ _))

theorem zipD_length : ∀ (x y : List D), (zipD x y).length = min x.length y.length
  | [], _ => by simp [zipD]
  | _ :: _, [] => by simp [zipD]
  | a :: as, b :: bs => by simp [zipD, zipD_length as bs]
theorem zipD_get : ∀ {x y : List D} {i : Nat} {d : D}, (zipD x y)[i]? = some d → ∃ a b, x[i]? = some a ∧ y[i]? = some b ∧ d = .tup [a, b]
  | [], _, i, _, h => by simp [zipD] at h
  | _ :: _, [], i, _, h => by simp [zipD] at h
  | a :: as, b :: bs, 0, d, h => by simp [zipD] at h; exact ⟨a, b, rfl, rfl, h.symm⟩
  | a :: as, b :: bs, i + 1, d, h => by simp [zipD] at h; simpa using zipD_get h

theorem zip_apart (n : Nat) {l1 l2 : Nat} (q1 : l1 < n) (q2 : l2 < n) : ZipApart (n + 4) (n + 2) (n + 3) n (n + 1) l1 l2 := by
  constructor <;> (intro hq; (have hq' : @Eq Nat _ _ := hq); omega)
theorem feeds_zip {e1 e2 : Expr} {x y : Str} {px py pt p pos : Pos} {kt : Nat} {d1 d2 : List D} {s : Shared} (hxy : x ≠ y) (hA : A.handled = none) (S : StOk c X env ρ s) (hk : env.kindOf ("zip" : Str) = some .globalImplicit) (hs1 : isStarred e1 = false) (hs2 : isStarred e2 = false)
    (h1 : Ev c A X env ρ e1 (.lst d1)) (h2 : Ev c A X env ρ e2 (.lst d2)) :
    Feeds c.prog c.w A X env s (.Call (.Name ("zip" : Str) p) [e1, e2] [] pos) (.Tuple [.Name x px, .Name y py] kt pt) (.two x y) (zipD d1 d2) := fun E Q h => by
  have hns : ∀ e' ∈ [e1, e2], isStarred e' = false := fun e' he' => by
    rcases List.mem_cons.mp he' with rfl | he'
    · exact hs1
    · rw [List.mem_singleton.mp he']; exact hs2
  refine Call_ (ev_global S.ev.toEnvWf S.g hk okName_zip (.inr c.zip) ?_)
  refine PyProof.Rows.callWith_type (noStar_any hns) (args_ok (by simp) hns (evs_cons hs1 h1 (evs_cons hs2 h2 evs_nil)) S fun vs s₁ k₁ r₁ g₁ => ?_)
  cases r₁ with
  | cons ra r₂ =>
    cases r₂ with
    | cons rb r₃ =>
      cases r₃
      cases ra with
      | @lst l1 n1 vs1 _ hx1 a1 a2 a3 =>
        cases rb with
        | @lst l2 n2 vs2 _ hx2 b1 b2 b3 =>
          refine call_zip_2 (rp_isList a1) (rp_isList b1) fun h' z1 z2 z3 z4 z5 z6 hk' => ?_
          have q1 : @LT.lt Nat _ l1 s₁.heap.objs.size := ltSize a1
          have q2 : @LT.lt Nat _ l2 s₁.heap.objs.size := ltSize b1
          have D : ZipApart (s₁.heap.objs.size + 4) (s₁.heap.objs.size + 2) (s₁.heap.objs.size + 3) s₁.heap.objs.size (s₁.heap.objs.size + 1) l1 l2 := zip_apart _ q1 q2
          have W := (WalksT.zip2 (prog := c.prog) (w := c.w) hA _ _ _ _ _ _ _ D vs1.toArray vs2.toArray).toU
          have hlen : min vs1.toArray.size vs2.toArray.size = (zipD d1 d2).length := by rw [zipD_length]; simp [a3.length, b3.length]
          rw [hlen] at W
          refine wpAny_pyIter_zip (s := { s₁ with heap := h' }) z1 ?_
          have kk : Keeps s₁ { s₁ with heap := h' } := ⟨h', s₁.toks, rfl, hk'⟩
          refine h _ _ _ _ s₁.heap _ (Keeps.trans k₁ kk) ?_ (Keeps.heap k₁) hk' (Feed.ofWalksU hxy hA W (fun b hb => ?_) fun i vals d hv hd => ?_) ?_ (fun b hb => ?_) fun b hb => ?_
          · exact g₁.trans ⟨Nat.le_refl _, by show s₁.heap.objs.size ≤ h'.objs.size; rw [z6]; omega⟩
          · refine fresh_none _ ?_
            simp only [List.mem_cons, List.not_mem_nil, or_false] at hb
            rcases hb with rfl | rfl | rfl | rfl <;> first | exact Nat.le_refl _ | exact Nat.le_add_right _ _ | omega
          · obtain ⟨a, b, ha, hb, rfl⟩ := zipD_get hd
            obtain ⟨u, v, hu, hv', rfl⟩ := hv
            obtain ⟨u', hu', ru⟩ := a3.get ha
            obtain ⟨v'', hv'', rv⟩ := b3.get hb
            have e1 : vs1[i]? = some u := by simpa using hu
            have e2 : vs2[i]? = some v := by simpa using hv'
            rw [e1] at hu'; rw [e2] at hv''
            cases hu'; cases hv''
            exact ⟨a, b, u, v, rfl, rfl, ru, rv⟩
          · exact ⟨z1, z2, ⟨_, _, z3⟩, z4, z5, Heap.IsList.at (rp_isList a1) fun o e => hk' _ o e, Heap.IsList.at (rp_isList b1) fun o e => hk' _ o e⟩
          · show @LT.lt Nat _ b h'.objs.size
            rw [z6]
            simp only [List.mem_cons, List.not_mem_nil, or_false] at hb
            rcases hb with rfl | rfl | rfl | rfl | rfl | rfl | rfl <;> first | exact Nat.add_lt_add_left (by decide) _ | exact Nat.lt_add_of_pos_right (by decide) | exact Nat.lt_of_lt_of_le q1 (Nat.le_add_right _ _) | exact Nat.lt_of_lt_of_le q2 (Nat.le_add_right _ _) | omega
          · simp only [List.mem_cons, List.not_mem_nil, or_false] at hb
            rcases hb with rfl | rfl | rfl | rfl | rfl | rfl | rfl
            · exact .inl (new_case k₁ (by first | exact Nat.le_refl _ | exact Nat.le_add_right _ _ | omega))
            · exact .inl (new_case k₁ (by first | exact Nat.le_refl _ | exact Nat.le_add_right _ _ | omega))
            · exact .inl (new_case k₁ (by first | exact Nat.le_refl _ | exact Nat.le_add_right _ _ | omega))
            · exact .inl (new_case k₁ (by first | exact Nat.le_refl _ | exact Nat.le_add_right _ _ | omega))
            · exact .inl (new_case k₁ (by first | exact Nat.le_refl _ | exact Nat.le_add_right _ _ | omega))
            · exact fp_case k₁ hx1 a1 rfl
            · exact fp_case k₁ hx2 b1 rfl

theorem okName_enum : okName ("enumerate" : Str) = true := by decide +kernel
theorem enumD_length : ∀ (ds : List D) (k : Nat), (enumD k ds).length = ds.length
  | [], k => rfl
  | _ :: r, k => by simp [enumD, enumD_length r (k + 1)]
theorem enumD_get : ∀ {ds : List D} {k i : Nat} {d : D}, (enumD k ds)[i]? = some d → ∃ a, ds[i]? = some a ∧ d = .tup [.int ((k + i : Nat) : Int), a]
  | [], _, i, _, h => by simp [enumD] at h
  | a :: r, k, 0, d, h => by simp [enumD] at h; exact ⟨a, rfl, by simpa using h.symm⟩
  | a :: r, k, i + 1, d, h => by
    simp [enumD] at h
    obtain ⟨b, hb, e⟩ := enumD_get h
    exact ⟨b, by simpa using hb, by rw [e]; congr 3; omega⟩

theorem feeds_enum {e1 : Expr} {x y : Str} {px py pt p pos : Pos} {kt : Nat} {ds : List D} {s : Shared} (hxy : x ≠ y) (hA : A.handled = none) (S : StOk c X env ρ s) (hk : env.kindOf ("enumerate" : Str) = some .globalImplicit) (hs1 : isStarred e1 = false)
    (h1 : Ev c A X env ρ e1 (.tup ds)) :
    Feeds c.prog c.w A X env s (.Call (.Name ("enumerate" : Str) p) [e1] [] pos) (.Tuple [.Name x px, .Name y py] kt pt) (.two x y) (enumD 0 ds) := fun E Q h => by
  have hns : ∀ e' ∈ [e1], isStarred e' = false := fun e' he' => by rw [List.mem_singleton.mp he']; exact hs1
  refine Call_ (ev_global S.ev.toEnvWf S.g hk okName_enum (.inr c.enum) ?_)
  refine PyProof.Rows.callWith_type (noStar_any hns) (args_ok (by simp) hns (evs_cons hs1 h1 evs_nil) S fun vs s₁ k₁ r₁ g₁ => ?_)
  cases r₁ with
  | cons ra r₂ =>
    cases r₂
    cases ra with
    | @tup l1 n1 vs1 _ hx1 a1 a2 a3 =>
      refine call_enumerate_tuple (rp_isTuple a1) fun h' z1 z2 z6 hk' => ?_
      have q1 : @LT.lt Nat _ l1 s₁.heap.objs.size := ltSize a1
      have W := (WalksT.enumerateD (prog := c.prog) (w := c.w) (A := A) (draws_tuple (A := A.in1) hA s₁.heap.objs.size l1 (Nat.ne_of_lt q1) vs1.toArray) (s₁.heap.objs.size + 1) (Nat.succ_ne_self _)
        (by
          intro hq
          simp only [List.mem_cons, List.not_mem_nil, or_false] at hq
          rcases hq with hq | hq
          · exact absurd hq (Nat.succ_ne_self _)
          · have hq' : @Eq Nat (s₁.heap.objs.size + 1) l1 := hq
            omega) (by simp)).toU
      have hlen : vs1.toArray.size = (enumD 0 ds).length := by rw [enumD_length]; simp [a3.length]
      rw [hlen] at W
      refine wpAny_pyIter_enum (s := { s₁ with heap := h' }) z1 ?_
      have kk : Keeps s₁ { s₁ with heap := h' } := ⟨h', s₁.toks, rfl, hk'⟩
      refine h _ _ _ _ s₁.heap _ (Keeps.trans k₁ kk) ?_ (Keeps.heap k₁) hk' (Feed.ofWalksU hxy hA W (fun b hb => ?_) fun i vals d hv hd => ?_) ?_ (fun b hb => ?_) fun b hb => ?_
      · exact g₁.trans ⟨Nat.le_refl _, by show s₁.heap.objs.size ≤ h'.objs.size; rw [z6]; omega⟩
      · refine fresh_none _ ?_
        simp only [List.mem_cons, List.not_mem_nil, or_false] at hb
        rcases hb with rfl | rfl <;> omega
      · obtain ⟨a, ha, rfl⟩ := enumD_get hd
        obtain ⟨t, u, hu, rfl⟩ := hv
        obtain ⟨u', hu', ru⟩ := a3.get ha
        have e1 : vs1[i]? = some u := by simpa using hu
        rw [e1] at hu'
        cases hu'
        refine ⟨.int i, a, .int i t, u, by simp, rfl, .int _ _, ru⟩
      · exact ⟨⟨_, z1⟩, z2, by obtain ⟨o, ho, r⟩ := rp_isTuple a1; exact ⟨o, hk' _ o ho, r⟩⟩
      · show @LT.lt Nat _ b h'.objs.size
        rw [z6]
        simp only [List.mem_cons, List.not_mem_nil, or_false] at hb
        rcases hb with rfl | rfl | rfl <;> omega
      · simp only [List.mem_cons, List.not_mem_nil, or_false] at hb
        rcases hb with rfl | rfl | rfl
        · exact .inl (new_case k₁ (by first | exact Nat.le_refl _ | exact Nat.le_add_right _ _ | omega))
        · exact .inl (new_case k₁ (by first | exact Nat.le_refl _ | exact Nat.le_add_right _ _ | omega))
        · exact fp_case k₁ hx1 a1 rfl
end
end Mine
end

section
open PySem PySem.W PyProof.Rows PySem.SeqAt
set_option linter.unusedVariables false
namespace Mine

section
variable {c : Cx} {lvl : Nat} {A : Around} {X : List Addr} {env : Env} {ρ : Rho}

/-- what is known of the body of a comprehension, by its inner scope -/
structure InnerOk (c : Cx) (A : Around) (sc'' : Scope) (ifs : List Expr) (elt : Expr) (tst : Rho → Option Bool) (el : Rho → Option D) : Prop where
  tests : ∀ (cenv : Env) (Y : List Addr) (ρ' : Rho) (b : Bool), cenv.scope = sc'' → tst ρ' = some b → (ifs = [] ∧ b = true) ∨ ∃ t, ifs = [t] ∧ Tst c A Y cenv ρ' t b
  elt : ∀ (cenv : Env) (Y : List Addr) (ρ' : Rho) (d : D), cenv.scope = sc'' → el ρ' = some d → Ev c A Y cenv ρ' elt d

theorem body_ok {s s₀ : Shared} {cenv : Env} {Y : List Addr} {h₁ : Heap} {ρ' : Rho} {ifs : List Expr} {elt : Expr} {tst : Rho → Option Bool} {el : Rho → Option D} {sc'' : Scope} (I : InnerOk c A sc'' ifs elt tst el) (hsc : cenv.scope = sc'')
    (S : c.G s.heap) (tk : 0 < s.toks) (hY : ∀ b ∈ Y, b < s₀.heap.objs.size) (hk : HKeep s.heap h₁) (g : Grows s s₀) : BodyOk c.prog c.w A cenv Y h₁ s₀ ifs elt tst el ρ' where
  tests := fun b s₁ E Q e g₁ hk₁ hE V h => by
    have S₁ : StOk c Y cenv ρ' s₁ := ⟨hE, c.keep (hk.trans hk₁) S, Nat.lt_of_lt_of_le tk (g.trans g₁).1, fun b hb => Nat.lt_of_lt_of_le (hY b hb) g₁.2, V⟩
    rcases I.tests cenv Y ρ' b hsc e with ⟨rfl, rfl⟩ | ⟨t, rfl, ht⟩
    · exact wpAny_tests_nil (h s₁ (Keeps.refl _))
    · exact wpAny_tests_one (ht s₁ _ _ S₁ fun s' k _ => h s' k)
  elt := fun d s₁ E Q e g₁ hk₁ hE V h => by
    have S₁ : StOk c Y cenv ρ' s₁ := ⟨hE, c.keep (hk.trans hk₁) S, Nat.lt_of_lt_of_le tk (g.trans g₁).1, fun b hb => Nat.lt_of_lt_of_le (hY b hb) g₁.2, V⟩
    exact I.elt cenv Y ρ' d hsc e s₁ _ _ S₁ fun v s' o _ => h v s' o

theorem ev_comp {target elt iter : Expr} {ifs : List Expr} {sc' : Scope} {pos : Pos} {t : Target} {ds outs : List D} {tst : Rho → Option Bool} {el : Rho → Option D}
    (hok : compOk sc' env.scope t = true) (hs : ∀ x, foldedSetIterable iter env x = pure x) (hF : ∀ s, StOk c X env ρ s → Feeds c.prog c.w A X env s iter target t ds)
    (I : InnerOk c A (relabel sc' env) ifs elt tst el) (htot : compItems tst el t (restr sc' t ρ) ds = some outs) (hlen : ds.length ≤ sizeLine) :
    Ev c A X env ρ (.ListComp elt [⟨target, iter, ifs, 0⟩] sc' pos) (.lst outs) := .of fun s E Q S h => by
  rw [eval_ListComp]
  refine comp_expr (use := none) S.ev hok hs S.low S.vars (hF s S) (fun cenv Y h₁ s₀ ρ' h1 h2 h3 h4 h5 h6 => body_ok I h1 S.g S.tk h4 h5 h6) htot hlen ?_
  intro Da C Y h' tk m ys n hC hCD hDX hDn hn hda hyl hYX r hk hg
  refine ⟨m, hn, fun h'' hs'' => h _ _ ⟨⟨h'', tk, rfl, fun b o e => hs''.extBut b o (fun e' => by rw [e', hC] at e; cases e) (hk b o e)⟩, ?_⟩⟩
  exact .lst hDX (hs''.extBut _ _ (Ne.symm hCD) hda) hyl ((r.hide fun b hb => .inl (hYX b hb)).seq (seqKeep_ns hn hs''))
end

theorem evals_noStar {ev : Expr → Option D} : ∀ {es : List Expr} {ds : List D}, evalsE ev es = some ds → (∀ e ∈ es, isStarred e = false) ∧ ds.length = es.length
  | [], ds, h => by simp [evalsE] at h; subst h; exact ⟨(fun _ h => nomatch h), rfl⟩
  | e :: r, ds, h => by
    simp only [evalsE] at h
    split at h
    · cases h
    · rename_i hs
      split at h
      · rename_i d ds' h1 h2
        cases h
        obtain ⟨i1, i2⟩ := evals_noStar h2
        refine ⟨fun x hx => ?_, by simp [i2]⟩
        rcases List.mem_cons.mp hx with rfl | hx
        · simpa using hs
        · exact i1 x hx
      · cases h
theorem evals_ok {c : Cx} {A : Around} {X : List Addr} {env : Env} {ρ : Rho} {ev : Expr → Option D} (hev : ∀ e d, ev e = some d → Ev c A X env ρ e d) : ∀ {es : List Expr} {ds : List D}, evalsE ev es = some ds → Evs c A X env ρ es ds
  | [], ds, h => by simp [evalsE] at h; subst h; exact evs_nil
  | e :: r, ds, h => by
    simp only [evalsE] at h
    split at h
    · cases h
    · rename_i hs
      split at h
      · rename_i d ds' h1 h2
        cases h
        exact evs_cons (by simpa using hs) (hev e d h1) (evals_ok hev h2)
      · cases h
theorem test_ok {c : Cx} {A : Around} {lvl : Nat} {X : List Addr} {env : Env} {ρ : Rho} {ev : Expr → Option D} (R : Room A lvl) (hev : ∀ e d, ev e = some d → Ev c A X env ρ e d) : ∀ (k : Nat) (e : Expr) (b : Bool), testE ev k e = some b → Tst c A X env ρ e b
  | 0, e, b, h => by exact nomatch (show (none : Option Bool) = some b from h)
  | k + 1, e, b, h => by
    cases e with
    | Compare l ops rs p =>
      cases ops with
      | nil => exact nomatch (show (none : Option Bool) = some b from h)
      | cons op ot =>
        cases ot with
        | cons _ _ => exact nomatch (show (none : Option Bool) = some b from h)
        | nil =>
          cases rs with
          | nil => exact nomatch (show (none : Option Bool) = some b from h)
          | cons r rt =>
            cases rt with
            | cons _ _ => exact nomatch (show (none : Option Bool) = some b from h)
            | nil =>
              change ite _ _ _ = _ at h
              split at h
              · cases h
              · rename_i hm
                split at h
                · rename_i h1 h2; exact tst_cmp R (by simpa using hm) (hev _ _ h1) (hev _ _ h2) h
                · cases h
    | BoolOp op vs p =>
      cases vs with
      | nil => exact nomatch (show (none : Option Bool) = some b from h)
      | cons a t =>
        cases t with
        | nil => exact nomatch (show (none : Option Bool) = some b from h)
        | cons b' t =>
          cases t with
          | cons _ _ => exact nomatch (show (none : Option Bool) = some b from h)
          | nil =>
            conv at h => lhs; whnf
            cases h1 : testE ev k a with
            | none => rw [h1] at h; cases h
            | some p =>
              rw [h1] at h
              have ha := test_ok R hev k _ _ h1
              cases op with
              | And =>
                cases p with
                | false => cases h; exact tst_bool ha (.inl ⟨rfl, rfl, rfl⟩)
                | true => exact tst_bool ha (.inr (.inr ⟨.inl ⟨rfl, rfl⟩, test_ok R hev k _ _ h⟩))
              | Or =>
                cases p with
                | true => cases h; exact tst_bool ha (.inr (.inl ⟨rfl, rfl, rfl⟩))
                | false => exact tst_bool ha (.inr (.inr ⟨.inr ⟨rfl, rfl⟩, test_ok R hev k _ _ h⟩))
    | Name x p =>
      conv at h => lhs; whnf
      split at h
      · rename_i h1; exact tst_name (hev _ _ h1) h
      · cases h
    | _ => exact nomatch (show (none : Option Bool) = some b from h)

theorem targetOf_inv {e : Expr} {t : Target} (h : targetOf e = some t) : (∃ x p, e = .Name x p ∧ t = .one x) ∨ ∃ x y px py k pt, e = .Tuple [.Name x px, .Name y py] k pt ∧ t = .two x y ∧ x ≠ y := by
  cases e with
  | Name x p => cases h; exact .inl ⟨_, _, rfl, rfl⟩
  | Tuple es k pt =>
    cases es with
    | nil => cases h
    | cons a r =>
      cases a with
      | Name x px =>
        cases r with
        | nil => cases h
        | cons b r =>
          cases b with
          | Name y py =>
            cases r with
            | nil =>
              change ite _ _ _ = _ at h
              split at h
              · cases h
              · rename_i hne; cases h; exact .inr ⟨_, _, _, _, _, _, rfl, rfl, hne⟩
            | cons _ _ => cases h
          | _ => exact nomatch (show (none : Option Target) = some t from h)
      | _ => exact nomatch (show (none : Option Target) = some t from h)
  | _ => exact nomatch (show (none : Option Target) = some t from h)

theorem iter_ok {c : Cx} {A : Around} {lvl : Nat} {X : List Addr} {env : Env} {ρ : Rho} {ev : Expr → Option D} {t : Target} {target iter : Expr} {ds : List D} (R : Room A lvl) (hev : ∀ e d, ev e = some d → Ev c A X env ρ e d) (hst : ∀ e d, ev e = some d → isStarred e = false) (ht : targetOf target = some t)
    (h : iterE env.scope ev t iter = some ds) : (∀ s, StOk c X env ρ s → Feeds c.prog c.w A X env s iter target t ds) ∧ ∀ x, foldedSetIterable iter env x = pure x := by
  have one : ∀ x, t = .one x → ∃ px, target = .Name x px := fun x e => by
    rcases targetOf_inv ht with ⟨x', px, rfl, rfl⟩ | ⟨x', y', px, py, k, pt, rfl, rfl, hne⟩
    · cases e; exact ⟨_, rfl⟩
    · cases e
  have two : ∀ x y, t = .two x y → x ≠ y ∧ ∃ px py k pt, target = .Tuple [.Name x px, .Name y py] k pt := fun x y e => by
    rcases targetOf_inv ht with ⟨x', px, rfl, rfl⟩ | ⟨x', y', px, py, k, pt, rfl, rfl, hne⟩
    · cases e
    · cases e; exact ⟨hne, _, _, _, _, rfl⟩
  cases iter with
  | Call f args kws pos =>
    cases f with
    | Name f p =>
      cases kws with
      | cons _ _ =>
        cases args with
        | nil => exact nomatch (show (none : Option (List D)) = some ds from h)
        | cons e t =>
          cases t with
          | nil => exact nomatch (show (none : Option (List D)) = some ds from h)
          | cons _ t => cases t <;> exact nomatch (show (none : Option (List D)) = some ds from h)
      | nil =>
        cases args with
        | nil => exact nomatch (show (none : Option (List D)) = some ds from h)
        | cons e t =>
          cases t with
          | nil =>
            change ite _ _ _ = _ at h
            split at h
            · rename_i hf
              obtain ⟨rfl, hk⟩ := hf
              split at h
              · rename_i x n hn
                split at h
                · rename_i hr
                  cases h
                  obtain ⟨px, rfl⟩ := one _ rfl
                  refine ⟨fun s S => ?_, fun _ => rfl⟩
                  exact feeds_range R.hd S hk (hst _ _ hn) hr.2 (by omega) (hev _ _ hn)
                · cases h
              · cases h
            · split at h
              · rename_i hf
                obtain ⟨rfl, hk⟩ := hf
                split at h
                · rename_i x y ds' h1
                  cases h
                  obtain ⟨hxy, px, py, k, pt, rfl⟩ := two _ _ rfl
                  exact ⟨fun s S => feeds_enum hxy R.hd S hk (hst _ _ h1) (hev _ _ h1), fun _ => rfl⟩
                · cases h
              · cases h
          | cons b t =>
            cases t with
            | cons _ _ => exact nomatch (show (none : Option (List D)) = some ds from h)
            | nil =>
              change ite _ _ _ = _ at h
              split at h
              · rename_i hf
                obtain ⟨rfl, hk⟩ := hf
                split at h
                · rename_i x y d1 d2 h1 h2
                  cases h
                  obtain ⟨hxy, px, py, k, pt, rfl⟩ := two _ _ rfl
                  refine ⟨fun s S => ?_, fun _ => rfl⟩
                  exact feeds_zip hxy R.hd S hk (hst _ _ h1) (hst _ _ h2) (hev _ _ h1) (hev _ _ h2)
                · cases h
              · split at h
                · rename_i x' ds' hn; cases h
                  obtain ⟨px, rfl⟩ := one _ rfl
                  exact ⟨fun s S => feeds_list R.hd S (hev _ _ hn), fun _ => rfl⟩
                · cases h
    | _ => exact nomatch (show (none : Option (List D)) = some ds from h)
  | Name x0 p0 =>
    conv at h => lhs; whnf
    split at h
    · rename_i x' ds' hn; cases h
      obtain ⟨px, rfl⟩ := one _ rfl
      exact ⟨fun s S => feeds_list R.hd S (hev _ _ hn), fun _ => rfl⟩
    · rename_i x' ds' hn; cases h
      obtain ⟨px, rfl⟩ := one _ rfl
      exact ⟨fun s S => feeds_tuple R.hd S (hev _ _ hn), fun _ => rfl⟩
    · cases h
  | Tuple es0 k0 p0 =>
    conv at h => lhs; whnf
    split at h
    · rename_i x' ds' hn; cases h
      obtain ⟨px, rfl⟩ := one _ rfl
      exact ⟨fun s S => feeds_tuple R.hd S (hev _ _ hn), fun _ => rfl⟩
    · cases h
  | Subscript v0 i0 p0 =>
    conv at h => lhs; whnf
    split at h
    · rename_i x' ds' hn; cases h
      obtain ⟨px, rfl⟩ := one _ rfl
      exact ⟨fun s S => feeds_list R.hd S (hev _ _ hn), fun _ => rfl⟩
    · cases h
  | _ => exact nomatch (show (none : Option (List D)) = some ds from h)
end Mine
end

section
open PySem PySem.W PyProof.Rows PySem.SeqAt
set_option linter.unusedVariables false
namespace Mine

theorem evalP_star {P : PW} {n : Nat} {sc : Scope} {ρ : Rho} {e : Expr} {d : D} (h : evalP P n sc ρ e = some d) : isStarred e = false := by
  cases e with
  | Starred v p => cases n with
    | zero => exact nomatch (show (none : Option D) = some d from h)
    | succ n => exact nomatch (show (none : Option D) = some d from h)
  | _ => rfl

theorem find_mem {m : Meth} {l : List Meth} {p : Meth → Bool} (h : l.find? p = some m) : m ∈ l ∧ p m = true := ⟨List.mem_of_find?_eq_some h, List.find?_some h⟩

theorem optInt_ok {c : Cx} {A : Around} {X : List Addr} {env : Env} {ρ : Rho} {ev : Expr → Option D} (hev : ∀ e d, ev e = some d → Ev c A X env ρ e d) {o : Option Expr} {k : Option Int} (h : optInt ev o = some k) : PartOk c A X env ρ o k := by
  cases o with
  | none => simp [optInt] at h; subst h; exact ⟨(fun e h => nomatch h), fun _ => rfl⟩
  | some e =>
    simp only [optInt] at h
    split at h
    · rename_i i hi; cases h; exact ⟨(fun e' he' => by cases he'; exact ⟨i, rfl, hev _ _ hi⟩), fun h => nomatch h⟩
    · cases h

theorem optInt_some {ev : Expr → Option D} {o : Option Expr} {k : Int} (h : optInt ev o = some (some k)) : ∃ e, o = some e ∧ ev e = some (.int k) := by
  cases o with
  | none => simp [optInt] at h
  | some e =>
    simp only [optInt] at h
    split at h
    · rename_i i hi; cases h; exact ⟨e, rfl, hi⟩
    · cases h
theorem optInt_none {ev : Expr → Option D} {o : Option Expr} (h : optInt ev o = some none) : o = none := by
  cases o with
  | none => rfl
  | some e =>
    simp only [optInt] at h
    split at h <;> cases h

theorem eval_ok {c : Cx} {lvl : Nat} {P : PW} (hP : PWOk c lvl P) {A : Around} (R : Room A lvl) : ∀ (n : Nat) (sc : Scope) (ρ : Rho) (e : Expr) (d : D) (X : List Addr) (env : Env), env.scope = sc → evalP P n sc ρ e = some d → Ev c A X env ρ e d := by
  intro n
  induction n with
  | zero => intro sc ρ e d X env _ h; exact nomatch (show (none : Option D) = some d from h)
  | succ n ih =>
    intro sc ρ e d X env hsc h
    have ih' : ∀ e d, evalP P n sc ρ e = some d → Ev c A X env ρ e d := fun e d => ih sc ρ e d X env hsc
    cases e with
    | Name x p =>
      change ite _ _ _ = _ at h
      split at h
      · rename_i hn; exact ev_name hn h
      · cases h
    | Constant k u p =>
      conv at h => lhs; whnf
      split at h
      · cases h; exact ev_int
      · cases h; exact ev_flt
      · cases h; exact ev_str
      · cases h; exact ev_none
      · cases h; exact ev_bool
      · cases h
    | BinOp l op r p =>
      conv at h => lhs; whnf
      split at h
      · rename_i h1 h2; exact ev_bin (ih' _ _ h1) (ih' _ _ h2) h
      · cases h
    | UnaryOp op x p =>
      conv at h => lhs; whnf
      split at h
      · rename_i h1; cases h; exact ev_neg (ih' _ _ h1)
      · cases h
    | Compare l ops rs p =>
      cases ops with
      | nil => exact nomatch (show (none : Option D) = some d from h)
      | cons op ot =>
        cases ot with
        | cons _ _ => exact nomatch (show (none : Option D) = some d from h)
        | nil =>
          cases rs with
          | nil => exact nomatch (show (none : Option D) = some d from h)
          | cons r rt =>
            cases rt with
            | cons _ _ => exact nomatch (show (none : Option D) = some d from h)
            | nil =>
              change ite _ _ _ = _ at h
              split at h
              · cases h
              · rename_i hm
                split at h
                · rename_i h1 h2
                  obtain ⟨b, hb, rfl⟩ := Option.map_eq_some_iff.mp h
                  exact ev_cmp R (by simpa using hm) (ih' _ _ h1) (ih' _ _ h2) hb
                · cases h
    | IfExp t b o p =>
      conv at h => lhs; whnf
      split at h
      · rename_i h1; exact ev_if (test_ok R ih' n _ _ h1) (by rw [if_pos rfl]; exact ih' _ _ h)
      · rename_i h1; exact ev_if (test_ok R ih' n _ _ h1) (by rw [if_neg Bool.false_ne_true]; exact ih' _ _ h)
      · cases h
    | Tuple es k p =>
      change ite _ _ _ = _ at h
      split at h
      · rename_i hl
        obtain ⟨ds, hds, rfl⟩ := Option.map_eq_some_iff.mp h
        exact ev_tuple hl (evals_noStar hds).2 (evals_ok ih' hds)
      · cases h
    | List es p =>
      change ite _ _ _ = _ at h
      split at h
      · rename_i hl
        obtain ⟨ds, hds, rfl⟩ := Option.map_eq_some_iff.mp h
        exact ev_list hl (evals_noStar hds).2 (evals_ok ih' hds)
      · cases h
    | Subscript v i p =>
      conv at h => lhs; whnf
      split at h
      · split at h
        · rename_i h1 h2 h3 h4
          split at h
          · cases h
          · rename_i h0; cases h; exact ev_slice (ih' _ _ h1) (optInt_ok ih' h2) (optInt_ok ih' h3) (optInt_ok ih' h4) h0
        · rename_i h1 h2 h3 h4
          split at h
          · rename_i hr
            cases h
            obtain ⟨e, rfl, he⟩ := optInt_some h2
            have := optInt_none h3; subst this
            have := optInt_none h4; subst this
            exact ev_slice_tup (ih' _ _ h1) (ih' _ _ he) hr.1 hr.2
          · cases h
        · cases h
      · rename_i hns
        split at h
        · rename_i h1 h2; exact ev_sub (.inl rfl) (fun lo hi st p e => hns lo hi st p e) (ih' _ _ h1) (ih' _ _ h2) h
        · rename_i h1 h2; exact ev_sub (.inr rfl) (fun lo hi st p e => hns lo hi st p e) (ih' _ _ h1) (ih' _ _ h2) h
        · cases h
    | Call f args kws pos =>
      cases kws with
      | cons _ _ => exact nomatch (show (none : Option D) = some d from h)
      | nil =>
        conv at h => lhs; whnf
        split at h
        · split at h
          · rename_i hc
            split at h
            · rename_i φ ds h1 h2
              subst hsc
              exact ev_call R hc.2.1 hc.1 hc.2.2 (evals_noStar h2).1 (hP.fn _ _ h1) (evals_ok ih' h2) h
            · cases h
          · cases h
        · split at h
          · rename_i hc
            split at h
            · rename_i dv ds h1 h2
              split at h
              · rename_i m hm
                obtain ⟨m1, m2⟩ := find_mem hm
                simp only [Bool.and_eq_true, beq_iff_eq] at m2
                have hT : tyOf dv ≠ "" := m2.1 ▸ (hP.ms m m1).ne
                exact ev_meth R hc.1 hc.2.1 hc.2.2.1 hc.2.2.2 (evals_noStar h2).1 (hP.ms m m1) m2.1 m2.2 (ih' _ _ h1) (evals_ok ih' h2) h hT
              · cases h
            · cases h
          · cases h
        · cases h
    | ListComp elt gens sc1 p =>
      cases gens with
      | nil => exact nomatch (show (none : Option D) = some d from h)
      | cons g gt =>
        obtain ⟨target, iter, ifs, isA⟩ := g
        cases gt with
        | cons _ _ => exact nomatch (show (none : Option D) = some d from h)
        | nil =>
          change ite _ _ _ = _ at h
          split at h
          · cases h
          · rename_i hA
            have hA := Decidable.not_not.mp hA
            subst hA
            split at h
            · cases h
            · rename_i t ht
              split at h
              · cases h
              · rename_i hok
                split at h
                · cases h
                · rename_i ds hds
                  split at h
                  · rename_i hlen
                    obtain ⟨outs, houts, rfl⟩ := Option.map_eq_some_iff.mp h
                    subst hsc
                    obtain ⟨f1, f2⟩ := iter_ok R ih' (fun e d he => evalP_star he) ht hds
                    refine ev_comp (by simpa using hok) f2 f1 ⟨fun cenv Y ρ' b hsc' e => ?_, fun cenv Y ρ' d hsc' e => ih _ ρ' _ d Y cenv (hsc'.trans rfl) e⟩ houts hlen
                    split at e
                    · cases e; exact .inl ⟨rfl, rfl⟩
                    · exact .inr ⟨_, rfl, test_ok R (fun e d he => ih _ ρ' e d Y cenv (hsc'.trans rfl) he) n _ _ e⟩
                    · cases e
                  · cases h
    | _ => exact nomatch (show (none : Option D) = some d from h)
end Mine
end

section
open PySem PySem.W PyProof.Rows PySem.SeqAt
set_option linter.unusedVariables false
namespace Mine

noncomputable abbrev Al := List (Str × Addr × List D)
noncomputable abbrev Om := List (Str × List D)
noncomputable def Al.as (α : Al) : List Addr := α.map (·.2.1)
noncomputable def Al.om (α : Al) : Om := α.map fun p => (p.1, p.2.2)
noncomputable def Al.ids (α : Al) : List (Str × Addr) := α.map fun p => (p.1, p.2.1)
noncomputable def full (ω : Om) (ρ : Rho) : Rho := ω.map (fun p => (p.1, D.lst p.2)) ++ ρ

noncomputable def Own (env : Env) (α : Al) (b : Addr) : Prop := b = env.locals ∨ (∃ x, env.cells.lookup x = some b) ∨ b ∈ α.as

structure Fr1 (c : Cx) (X : List Addr) (s₀ : Shared) (env : Env) (ρ : Rho) (α : Al) (s : Shared) : Prop where
  same : ∃ h tk, s = { s₀ with heap := h, toks := tk }
  ev : EnvOk s.heap env
  g0 : c.G s₀.heap
  tk : 0 < s.toks
  low : Low X s.heap
  ax : ∀ a ∈ α.as, a ∉ X
  gr : Grows s₀ s
  base : HKeep s₀.heap s.heap
  vars : Vars (X ++ α.as) s.heap env ρ
  own : ∀ p ∈ α, VarAt s.heap env p.1 (.ref p.2.1) ∧ ∃ (vs : List Value) (n : Nat), s.heap.get? p.2.1 = some { cls := .type "list", data := .seq vs.toArray n } ∧ vs.length ≤ sizeLine ∧ RpAll (X ++ α.as) s.heap vs p.2.2
  anew : ∀ a : Nat, a ∈ α.as → s₀.heap.objs.size ≤ a
  nd : α.as.Nodup
  Lnew : s₀.heap.objs.size ≤ env.locals
  cnew : ∀ (x : Str) (a : Nat), env.cells.lookup x = some a → s₀.heap.objs.size ≤ a

section
variable {c : Cx} {X : List Addr} {s₀ s : Shared} {env : Env} {ρ : Rho} {α : Al}

theorem Fr1.own_live (F : Fr1 c X s₀ env ρ α s) {a : Addr} (h : a ∈ α.as) : ∃ (vs : List Value) (n : Nat), s.heap.get? a = some { cls := .type "list", data := .seq vs.toArray n } := by
  obtain ⟨p, hp, rfl⟩ := List.mem_map.mp h
  obtain ⟨_, vs, n, h1, _⟩ := F.own p hp
  exact ⟨vs, n, h1⟩
theorem Fr1.lowX (F : Fr1 c X s₀ env ρ α s) : Low (X ++ α.as) s.heap := fun b hb => by
  rcases List.mem_append.mp hb with hb | hb
  · exact F.low b hb
  · obtain ⟨vs, n, h⟩ := F.own_live hb; exact Heap.lt_size h
theorem Fr1.g (F : Fr1 c X s₀ env ρ α s) : c.G s.heap := c.keep F.base F.g0
theorem Fr1.st (F : Fr1 c X s₀ env ρ α s) : StOk c (X ++ α.as) env ρ s := ⟨F.ev, F.g, F.tk, F.lowX, F.vars⟩
theorem Fr1.notX (F : Fr1 c X s₀ env ρ α s) {a : Addr} (h : a ∈ α.as) : a ∉ X := F.ax a h

theorem lookup_om {α : Al} {x : Str} {d : D} : (α.om.map (fun p => (p.1, D.lst p.2))).lookup x = some d → ∃ p ∈ α, p.1 = x ∧ d = .lst p.2.2 := by
  induction α with
  | nil => intro h; cases h
  | cons p r ih =>
    intro h
    simp only [Al.om, List.map_cons, List.lookup_cons] at h
    cases hb : x == p.1 with
    | true => rw [hb] at h; cases h; exact ⟨p, List.mem_cons_self, (beq_iff_eq.mp hb).symm, rfl⟩
    | false =>
      rw [hb] at h
      obtain ⟨q, hq, h1, h2⟩ := ih h
      exact ⟨q, List.mem_cons_of_mem _ hq, h1, h2⟩

theorem Fr1.stf (F : Fr1 c X s₀ env ρ α s) : StOk c X env (full α.om ρ) s := by
  refine ⟨F.ev, F.g, F.tk, F.low, fun x d h => ?_⟩
  unfold full at h
  rw [List.lookup_append] at h
  have hid : ∀ b ∈ X, b ∈ X ++ α.as ∨ s.heap.get? b = none := fun b hb => .inl (List.mem_append_left _ hb)
  cases h1 : (α.om.map (fun p => (p.1, D.lst p.2))).lookup x with
  | some d' =>
    rw [h1] at h; cases h
    obtain ⟨p, hp, rfl, rfl⟩ := lookup_om h1
    obtain ⟨hv, vs, n, g1, g2, g3⟩ := F.own p hp
    exact ⟨_, hv, .lst (F.notX (List.mem_map.mpr ⟨p, hp, rfl⟩)) g1 g2 (g3.hide hid)⟩
  | none =>
    rw [h1] at h
    obtain ⟨v, hv, r⟩ := F.vars x d (by simpa using h)
    exact ⟨v, hv, r.hide hid⟩

theorem Fr1.keeps (F : Fr1 c X s₀ env ρ α s) {s' : Shared} (k : Keeps s s') (g : Grows s s') : Fr1 c X s₀ env ρ α s' := by
  have hk := Keeps.heap k
  refine ⟨?_, F.ev.keeps hk, F.g0, Nat.lt_of_lt_of_le F.tk g.1, F.low.grows g, F.ax, F.gr.trans g, F.base.trans hk, F.vars.keeps hk, fun p hp => ?_, F.anew, F.nd, F.Lnew, F.cnew⟩
  · obtain ⟨h, tk, rfl⟩ := F.same
    obtain ⟨h', tk', rfl, _⟩ := k
    exact ⟨h', tk', rfl⟩
  · obtain ⟨hv, vs, n, g1, g2, g3⟩ := F.own p hp
    exact ⟨hv.keeps hk, vs, n, hk _ _ g1, g2, g3.keeps hk⟩

theorem Fr1.slot_new (F : Fr1 c X s₀ env ρ α s) {x : Str} {a : Nat} (h : slotOf env x = some a) : s₀.heap.objs.size ≤ a := by
  unfold slotOf at h
  split at h
  · cases h; exact F.Lnew
  · exact F.cnew x a h

theorem Fr1.own_not_slot (F : Fr1 c X s₀ env ρ α s) {a : Addr} (ha : a ∈ α.as) : a ≠ env.locals ∧ ∀ x, env.cells.lookup x ≠ some a := by
  obtain ⟨vs, n, h⟩ := F.own_live ha
  constructor
  · rintro rfl
    obtain ⟨m, o, es, ep, ho, hd, _⟩ := F.ev.ns
    rw [h] at ho; cases ho; cases hd
  · intro x hx
    obtain ⟨v, o, ho, hd⟩ := F.ev.live x a hx
    rw [h] at ho; cases ho; cases hd

theorem Fr1.store (F : Fr1 c X s₀ env ρ α s) {x : Str} {v : Value} {d : D} {h' : Heap} {tk : Nat} (S : Stored env x v s.heap h') (r : Rp (X ++ α.as) s.heap v d) (hx : ∀ p ∈ α, p.1 ≠ x) (ht : s.toks ≤ tk) :
    Fr1 c X s₀ env ((x, d) :: ρ) α { s with heap := h', toks := tk } := by
  refine ⟨?_, F.ev.stored S, F.g0, Nat.lt_of_lt_of_le F.tk ht, (fun b hb => by show b < h'.objs.size; rw [S.size]; exact F.low b hb), F.ax, F.gr.trans ⟨ht, by rw [S.size]; exact Nat.le_refl _⟩, ?_, ?_, ?_, F.anew, F.nd, F.Lnew, F.cnew⟩
  · obtain ⟨h, tk', rfl⟩ := F.same; exact ⟨h', tk, rfl⟩
  · intro b o e
    refine S.keep b o (fun hb => ?_) (F.base b o e)
    have := F.slot_new hb.symm
    have := ltSize e; omega
  · intro y dy hy
    rw [List.lookup_cons] at hy
    cases hb : y == x with
    | true => rw [hb] at hy; cases hy; rw [beq_iff_eq.mp hb]; exact ⟨v, S.var, r.seq (S.seq _)⟩
    | false =>
      rw [hb] at hy
      obtain ⟨u, hu, ru⟩ := F.vars y dy hy
      exact ⟨u, S.other y u (fun e => by rw [e] at hb; simp at hb) hu, ru.seq (S.seq _)⟩
  · intro p hp
    obtain ⟨hv, vs, n, g1, g2, g3⟩ := F.own p hp
    have hm : p.2.1 ∈ α.as := List.mem_map.mpr ⟨p, hp, rfl⟩
    refine ⟨S.other _ _ (hx p hp) hv, vs, n, S.keep _ _ (fun hs => ?_) g1, g2, g3.seq (S.seq _)⟩
    obtain ⟨h1, h2⟩ := F.own_not_slot hm
    unfold slotOf at hs
    split at hs
    · injection hs with hs; exact h1 hs
    · exact h2 x hs.symm

/-- an object of no one's is changed -/
theorem Fr1.other (F : Fr1 c X s₀ env ρ α s) {C : Addr} {h' : Heap} (hs : Heap.SameBut C s.heap h') (hC : ¬ Own env α C) (hn : s₀.heap.get? C = none) (hseq : SeqKeep [] s.heap h') : Fr1 c X s₀ env ρ α { s with heap := h' } := by
  have hk : ∀ b o, b ∉ [C] → s.heap.get? b = some o → h'.get? b = some o := fun b o hb e => hs.extBut b o (fun e' => hb (e' ▸ List.mem_singleton.mpr rfl)) e
  have hoff : ∀ y a, slotOf env y = some a → a ∉ [C] := fun y a e hm => by
    rw [List.mem_singleton.mp hm] at e
    unfold slotOf at e
    split at e
    · injection e with e; exact hC (.inl e.symm)
    · exact hC (.inr (.inl ⟨y, e⟩))
  have sk : ∀ Y, SeqKeep Y s.heap h' := fun Y b o xs n _ e hd => hseq b o xs n (by simp) e hd
  refine ⟨?_, ⟨F.ev.toEnvWf, F.ev.inj, F.ev.full, fun x cc hc => ?_, ?_⟩, F.g0, F.tk, (fun b hb => by show b < h'.objs.size; rw [hs.1]; exact F.low b hb), F.ax, F.gr.trans ⟨Nat.le_refl _, by rw [hs.1]; exact Nat.le_refl _⟩, ?_, ?_, ?_, F.anew, F.nd, F.Lnew, F.cnew⟩
  · obtain ⟨h, tk', rfl⟩ := F.same; exact ⟨h', tk', rfl⟩
  · obtain ⟨v, hv⟩ := F.ev.live x cc hc
    exact ⟨v, hv.sameBut hs fun e => hC (.inr (.inl ⟨x, e ▸ hc⟩))⟩
  · obtain ⟨m, hm⟩ := F.ev.ns
    exact ⟨m, hm.sameBut hs fun e => hC (.inl e.symm)⟩
  · exact fun b o e => hs.extBut b o (fun e' => by rw [e', hn] at e; cases e) (F.base b o e)
  · intro y dy hy
    obtain ⟨u, hu, ru⟩ := F.vars y dy hy
    exact ⟨u, varAt_but hk hoff hu, ru.seq (sk _)⟩
  · intro p hp
    obtain ⟨hv, vs, n, g1, g2, g3⟩ := F.own p hp
    exact ⟨varAt_but hk hoff hv, vs, n, hk _ _ (fun hm => hC (.inr (.inr (List.mem_singleton.mp hm ▸ List.mem_map.mpr ⟨p, hp, rfl⟩)))) g1, g2, g3.seq (sk _)⟩
end

inductive Res1 where
  | next (ρ : Rho) (ω : Om)
  | ret (d : D)

structure Nx (env : Env) (α : Al) (s s' : Shared) : Prop where
  keep : ∀ b o, ¬ Own env α b → s.heap.get? b = some o → s'.heap.get? b = some o
  seq : SeqKeep α.as s.heap s'.heap
  gr : Grows s s'

noncomputable def Ends (c : Cx) (X : List Addr) (s₀ : Shared) (env : Env) (α : Al) (s : Shared) (Q : Flow → Shared → Prop) : Res1 → Prop
  | .next ρ' ω' => ∀ α' s', α'.om = ω' → α'.ids = α.ids → Fr1 c X s₀ env ρ' α' s' → Nx env α s s' → Q .next s'
  | .ret d => ∀ v s', (∃ h tk, s' = { s₀ with heap := h, toks := tk }) → HKeep s₀.heap s'.heap → Rp X s'.heap v d → Q (.ret v) s'

noncomputable def Ex (c : Cx) (A : Around) (X : List Addr) (s₀ : Shared) (env : Env) (st : Stmt) (ρ : Rho) (ω : Om) (r : Res1) : Prop :=
  ∀ (α : Al) (s : Shared) (E : Value → Shared → Prop) (Q : Flow → Shared → Prop), α.om = ω → Fr1 c X s₀ env ρ α s → Ends c X s₀ env α s Q r → wpAny (model c.prog c.w) A (exec st env) Q E s
noncomputable def Exs (c : Cx) (A : Around) (X : List Addr) (s₀ : Shared) (env : Env) (sts : List Stmt) (ρ : Rho) (ω : Om) (r : Res1) : Prop :=
  ∀ (α : Al) (s : Shared) (E : Value → Shared → Prop) (Q : Flow → Shared → Prop), α.om = ω → Fr1 c X s₀ env ρ α s → Ends c X s₀ env α s Q r → wpAny (model c.prog c.w) A (execs sts env) Q E s
end Mine
end

section
open PySem PySem.W PyProof.Rows PySem.SeqAt
set_option linter.unusedVariables false
namespace Mine

theorem as_of_ids {α α' : Al} (h : α'.ids = α.ids) : α'.as = α.as := by
  have : ∀ β : Al, β.as = β.ids.map (·.2) := fun β => by simp [Al.as, Al.ids, Function.comp_def]
  rw [this, this, h]
theorem own_of_ids {env : Env} {α α' : Al} (h : α'.ids = α.ids) (b : Addr) : Own env α' b ↔ Own env α b := by
  unfold Own; rw [as_of_ids h]

section
variable {c : Cx} {A : Around} {X : List Addr} {s₀ : Shared} {env : Env} {ρ ρ' ρ'' : Rho} {ω ω' : Om} {α : Al}

theorem Nx.refl (s : Shared) : Nx env α s s := ⟨fun _ _ _ e => e, fun _ _ _ _ _ e _ => e, Grows.refl s⟩
theorem Nx.trans {α' : Al} {s₁ s₂ s₃ : Shared} (h : α'.ids = α.ids) (a : Nx env α s₁ s₂) (b : Nx env α' s₂ s₃) : Nx env α s₁ s₃ :=
  ⟨fun p o hp e => b.keep p o (fun ho => hp ((own_of_ids h p).mp ho)) (a.keep p o hp e), SeqKeep.trans a.seq (by have := b.seq; rw [as_of_ids h] at this; exact this), a.gr.trans b.gr⟩
theorem Nx.of_keeps {s s' : Shared} (k : Keeps s s') (g : Grows s s') : Nx env α s s' := ⟨fun b o _ e => Keeps.heap k b o e, (Keeps.heap k).seq, g⟩
theorem Ends.after {α' : Al} {s s₁ : Shared} {Q : Flow → Shared → Prop} {r : Res1} (h : α'.ids = α.ids) (n : Nx env α s s₁) (e : Ends c X s₀ env α s Q r) : Ends c X s₀ env α' s₁ Q r := by
  cases r with
  | next ρ' ω' => exact fun α'' s' ho hi F n' => e α'' s' ho (hi.trans h) F (n.trans h n')
  | ret d => exact e

theorem exs_nil : Exs c A X s₀ env [] ρ ω (.next ρ ω) := fun α s E Q ho F h => wpAny_execs_nil (h α s ho rfl F (Nx.refl s))
theorem exs_cons {st : Stmt} {rest : List Stmt} {r : Res1} (h1 : Ex c A X s₀ env st ρ ω (.next ρ' ω')) (h2 : Exs c A X s₀ env rest ρ' ω' r) : Exs c A X s₀ env (st :: rest) ρ ω r := fun α s E Q ho F h =>
  wpAny_execs_cons (h1 α s _ _ ho F fun α' s' ho' hi' F' n' => h2 α' s' _ _ ho' F' (h.after hi' n'))
theorem exs_ret {st : Stmt} {rest : List Stmt} {d : D} (h1 : Ex c A X s₀ env st ρ ω (.ret d)) : Exs c A X s₀ env (st :: rest) ρ ω (.ret d) := fun α s E Q ho F h =>
  wpAny_execs_cons (h1 α s _ _ ho F fun v s' hs hk r => h v s' hs hk r)

theorem ex_ret {e : Expr} {p : Pos} {d : D} (he : Ev c A X env (full ω ρ) e d) : Ex c A X s₀ env (.Return (some e) p) ρ ω (.ret d) := fun α s E Q ho F h => by
  subst ho
  refine wpAny_Return_some (he s _ _ F.stf fun v s' o g => h v s' ?_ (F.base.trans (Keeps.heap o.1)) o.2)
  obtain ⟨h1, t1, rfl⟩ := F.same
  obtain ⟨⟨h2, t2, rfl, _⟩, _⟩ := o
  exact ⟨h2, t2, rfl⟩

theorem ex_if {t : Expr} {b o : List Stmt} {p : Pos} {q : Bool} {r : Res1} (ht : Tst c A X env (full ω ρ) t q) (h2 : Exs c A X s₀ env (if q then b else o) ρ ω r) : Ex c A X s₀ env (.If t b o p) ρ ω r := fun α s E Q ho F h => by
  have ht' := ht
  refine wpAny_If (by
    subst ho
    refine ht' s _ _ F.stf fun s₁ k₁ g₁ => ?_
    cases q with
    | true => rw [if_pos rfl]; exact h2 α s₁ _ _ rfl (F.keeps k₁ g₁) (h.after rfl (Nx.of_keeps k₁ g₁))
    | false => rw [if_neg Bool.false_ne_true]; exact h2 α s₁ _ _ rfl (F.keeps k₁ g₁) (h.after rfl (Nx.of_keeps k₁ g₁)))

noncomputable def isComp : Expr → Bool
  | .ListComp .. => true
  | .SetComp .. => true
  | .DictComp .. => true
  | _ => false
theorem swaps_plain {v : Expr} {t : Option Expr} {l : Nat} (h : isComp v = false) : swapsWith v t l env = pure false := by
  cases v <;> first | rfl | cases h

theorem nx_stored {x : Str} {v : Value} {s : Shared} {h' : Heap} {tk : Nat} (hk : env.kindOf x = some .local ∨ env.kindOf x = some .cell) (S : Stored env x v s.heap h') (ht : s.toks ≤ tk) : Nx env α s { s with heap := h', toks := tk } := by
  refine ⟨fun b o hb e => S.keep b o (fun hs => hb ?_) e, S.seq _, ⟨ht, by rw [S.size]; exact Nat.le_refl _⟩⟩
  unfold slotOf at hs
  split at hs
  · injection hs with hs; exact .inl hs
  · exact .inr (.inl ⟨x, hs.symm⟩)

theorem om_names {α : Al} {x : Str} (h : α.om.all (fun p => p.1 != x) = true) : ∀ p ∈ α, p.1 ≠ x := fun p hp e => by
  have := List.all_eq_true.mp h (p.1, p.2.2) (List.mem_map.mpr ⟨p, hp, rfl⟩)
  simp [e] at this

theorem ex_assign {x : Str} {p' p : Pos} {e : Expr} {d : D} (hk : env.kindOf x = some .local ∨ env.kindOf x = some .cell) (hx : ω.all (fun p => p.1 != x) = true) (hs : swapsWith e (some (.Name x p')) p.line env = pure false) (he : ∀ Y, Ev c A Y env ρ e d) :
    Ex c A X s₀ env (.Assign [.Name x p'] e p) ρ ω (.next ((x, d) :: ρ) ω) := fun α s E Q ho F h => by
  subst ho
  refine wpAny_Assign_Name (hs := hs) (he _ s _ _ F.st fun v s₁ o₁ g₁ => ?_)
  have F₁ := F.keeps o₁.1 g₁
  refine store_ok F₁.ev.toEnvWf F₁.ev.inj (F₁.ev.slot hk) fun h' tk S ht => ?_
  exact h α _ rfl rfl (F₁.store S o₁.2 (om_names hx) ht) ((Nx.of_keeps o₁.1 g₁).trans rfl (nx_stored hk S ht))

/-- unpacking into names -/
noncomputable def storeAll : List Str → List D → Rho → Rho
  | x :: xs, d :: ds, ρ => storeAll xs ds ((x, d) :: ρ)
  | _, _, ρ => ρ

theorem assigns_ok {E : Value → Shared → Prop} {Q : Unit → Shared → Prop} : ∀ {xs : List Str} {ps : List Pos} {vs : List Value} {ds : List D} {ρ : Rho} {s : Shared}, xs.length = ps.length → vs.length = xs.length → (∀ x ∈ xs, env.kindOf x = some .local ∨ env.kindOf x = some .cell) → (∀ x ∈ xs, ∀ p ∈ α, p.1 ≠ x) →
    Fr1 c X s₀ env ρ α s → RpAll (X ++ α.as) s.heap vs ds → (∀ s', Fr1 c X s₀ env (storeAll xs ds ρ) α s' → Nx env α s s' → Q () s') →
    wpAny (model c.prog c.w) A (assignInOrder ((xs.zip ps).map fun q => assign (.Name q.1 q.2) env) vs) Q E s
  | [], [], [], ds, ρ, s, _, _, _, _, F, r, h => by
    cases r
    exact wpAny_pure (h s F (Nx.refl s))
  | x :: xs, p :: ps, v :: vs, ds, ρ, s, h1, h2, hk, hx, F, r, h => by
    cases r with
    | @cons _ d _ ds' r₁ rs =>
      show wpAny _ _ (do holding vs (assign (.Name x p) env v); assignInOrder ((xs.zip ps).map fun q => assign (.Name q.1 q.2) env) vs) Q E s
      refine wpAny_bind (wpAny_holding (wpAny_assign_Name (store_ok F.ev.toEnvWf F.ev.inj (F.ev.slot (hk x List.mem_cons_self)) fun h' tk S ht => ?_)))
      refine assigns_ok (by simpa using h1) (by simpa using h2) (fun y hy => hk y (List.mem_cons_of_mem _ hy)) (fun y hy => hx y (List.mem_cons_of_mem _ hy)) (F.store S r₁ (hx x List.mem_cons_self) ht) (rs.seq (S.seq _)) fun s' F' n' => h s' F' ((nx_stored (hk x List.mem_cons_self) S ht).trans rfl n')
  | [], _ :: _, _, _, _, _, h1, _, _, _, _, _, _ => by simp at h1
  | _ :: _, [], _, _, _, _, h1, _, _, _, _, _, _ => by simp at h1
  | [], [], _ :: _, _, _, _, _, h2, _, _, _, _, _ => by simp at h2
  | _ :: _, _ :: _, [], _, _, _, _, h2, _, _, _, _, _ => by simp at h2

noncomputable def namesOf : List Expr → Option (List (Str × Pos))
  | [] => some []
  | .Name x p :: r => match namesOf r with
    | some l => some ((x, p) :: l)
    | none => none
  | _ => none

theorem assignEach_names : ∀ {es : List Expr} {l : List (Str × Pos)}, namesOf es = some l → (assignEach es env).map (·.2) = l.map (fun q => assign (.Name q.1 q.2) env) ∧ (assignEach es env).length = l.length ∧ (assignEach es env).findIdx? (·.1) = none
  | [], l, h => by simp [namesOf] at h; subst h; exact ⟨rfl, rfl, rfl⟩
  | e :: r, l, h => by
    unfold namesOf at h
    split at h
    · rename_i hh; cases hh
    · rename_i x p r' hh
      cases hh
      split at h
      · rename_i l' hl
        cases h
        obtain ⟨h1, h2, h3⟩ := assignEach_names hl
        refine ⟨?_, ?_, ?_⟩
        · show assign (.Name x p) env :: (assignEach r env).map (·.2) = _
          rw [h1]; rfl
        · show (assignEach r env).length + 1 = _
          rw [h2]; rfl
        · show ((false, assign (.Name x p) env) :: assignEach r env).findIdx? (·.1) = none
          rw [List.findIdx?_cons]
          simp [h3]
      · cases h
    · cases h
end
end Mine
end

section
open PySem PySem.W PyProof.Rows PySem.SeqAt
set_option linter.unusedVariables false
namespace Mine

section
variable {c : Cx} {lvl : Nat} {A : Around} {X : List Addr} {s₀ : Shared} {env : Env} {ρ ρ' ρ'' : Rho} {ω ω' : Om} {α : Al}

noncomputable def isTup : Expr → Bool
  | .Tuple .. => true
  | _ => false
theorem swapped_none {elts : List Expr} {k : Nat} {tpos : Pos} {value : Expr} (h : isTup value = false) : swappedStores [.Tuple elts k tpos] value env = pure none := by
  cases value <;> first | rfl | cases h
theorem sole_false {elts : List Expr} {k : Nat} {tpos : Pos} {value : Expr} {l : Nat} : swapsWithSole [.Tuple elts k tpos] value l env = pure false := by
  cases value <;> rfl

theorem ex_unpack {elts : List Expr} {k : Nat} {tpos p : Pos} {e : Expr} {l : List (Str × Pos)} {dv : D} {ds : List D} (R : Room A lvl) (hn : namesOf elts = some l) (hk : ∀ x ∈ l.map (·.1), env.kindOf x = some .local ∨ env.kindOf x = some .cell)
    (hx : ∀ x ∈ l.map (·.1), ω.all (fun p => p.1 != x) = true) (ht : isTup e = false) (hl : ds.length = l.length) (hdv : dv = .lst ds ∨ dv = .tup ds) (he : ∀ Y, Ev c A Y env ρ e dv) :
    Ex c A X s₀ env (.Assign [.Tuple elts k tpos] e p) ρ ω (.next (storeAll (l.map (·.1)) ds ρ) ω) := fun α s E Q ho F h => by
  subst ho
  refine Assign_Tuple (hs := sole_false) (hw := swapped_none ht) (he _ s _ _ F.st fun v s₁ o₁ g₁ => ?_)
  have F₁ := F.keeps o₁.1 g₁
  obtain ⟨a1, a2, a3⟩ := assignEach_names (env := env) hn
  have fin : ∀ (vs : List Value), vs.length = l.length → RpAll (X ++ α.as) s₁.heap vs ds → ∀ h', Heap.ExtBut s₁.heap.objs.size s₁.heap h' → Grows s₁ { s₁ with heap := h' } →
      wpAny (model c.prog c.w) A (assignInOrder ((assignEach elts env).map (·.2)) vs) (fun _ => Q .next) E { s₁ with heap := h' } := by
    intro vs hvl rv h' hx' hg
    have hk' : Keeps s₁ { s₁ with heap := h' } := ⟨h', s₁.toks, rfl, fun b o e => hx' b o (Nat.ne_of_lt (Heap.lt_size e)) e⟩
    have F₂ := F₁.keeps hk' hg
    rw [a1, show l.map (fun q => assign (.Name q.1 q.2) env) = ((l.map (·.1)).zip (l.map (·.2))).map (fun q => assign (.Name q.1 q.2) env) by rw [List.zip_map', List.map_map]; simp [Function.comp_def]]
    refine assigns_ok (by simp) (by simp [hvl]) hk (fun x hx'' => om_names (hx x hx'')) F₂ (rv.keeps (Keeps.heap hk')) fun s' F' n' => h α s' rfl rfl F' (((Nx.of_keeps o₁.1 g₁).trans rfl (Nx.of_keeps hk' hg)).trans rfl n')
  rw [arm_assign_Tuple]
  refine wpAny_bind (wpAny_standAt ?_)
  unfold unpack
  rw [a2, a3]
  rcases hdv with rfl | rfl
  · cases o₁.2 with
    | @lst a n vs _ hx' h1 h2 h3 =>
      have hvl : vs.length = l.length := h3.length.trans hl
      rw [show l.length = vs.toArray.size by simp [hvl]]
      exact wpAny_bind (wpAny_holding (wpAny_grows (Grows.refl s₁) (W.kun_itemsOf R.hd (rp_isList h1) fun h' hx'' hg => fin vs hvl h3 h' hx'' hg)))
  · cases o₁.2 with
    | @tup a n vs _ hx' h1 h2 h3 =>
      have hvl : vs.length = l.length := h3.length.trans hl
      rw [show l.length = vs.toArray.size by simp [hvl]]
      exact wpAny_bind (wpAny_holding (wpAny_grows (Grows.refl s₁) (PySem.wpAny_unpackItems_tuple R.hd (rp_isTuple h1) fun h' hx'' hg => fin vs hvl h3 h' hx'' hg)))

theorem swaps_comp {elt : Expr} {gens : List Comprehension} {sc' : Scope} {pos p' : Pos} {x : Str} {l : Nat} :
    swapsWith (.ListComp elt gens sc' pos) (some (.Name x p')) l env = pure (env.blockKind == .function && env.kindOf x == some .local && p'.line == pos.line && !(sc'.names.any fun (n, k) => n == x && (k == .local || k == .cell))) := rfl

theorem ex_assign_comp {target elt iter : Expr} {ifs : List Expr} {sc' : Scope} {pos p' p : Pos} {t : Target} {ds outs : List D} {tst : Rho → Option Bool} {el : Rho → Option D} {x : Str}
    (hk : env.kindOf x = some .local ∨ env.kindOf x = some .cell) (hx : ω.all (fun p => p.1 != x) = true)
    (hok : compOk sc' env.scope t = true) (hs : ∀ x, foldedSetIterable iter env x = pure x) (hF : ∀ Y s, StOk c Y env ρ s → Feeds c.prog c.w A Y env s iter target t ds)
    (I : InnerOk c A (relabel sc' env) ifs elt tst el) (htot : compItems tst el t (restr sc' t ρ) ds = some outs) (hlen : ds.length ≤ sizeLine) :
    Ex c A X s₀ env (.Assign [.Name x p'] (.ListComp elt [⟨target, iter, ifs, 0⟩] sc' pos) p) ρ ω (.next ((x, .lst outs) :: ρ) ω) := by
  cases hb : (env.blockKind == .function && env.kindOf x == some .local && p'.line == pos.line && !(sc'.names.any fun (n, k) => n == x && (k == .local || k == .cell))) with
  | false => exact ex_assign hk hx (by rw [swaps_comp, hb]) fun Y => ev_comp hok hs (hF Y) I htot hlen
  | true =>
    intro α s E Q ho F h
    subst ho
    rw [exec_Assign_Name_used _ _ _ _ (by rw [swaps_comp, hb])]
    refine wpAny_bind (wpAny_standAt (wpAny_bind ?_))
    show wpAny _ A (do let _ ← comprehension (.ListComp elt [⟨target, iter, ifs, 0⟩] sc' pos) sc' env _ (newList []) false (eval iter env) (some (assign (.Name x p') env))) _ _ s
    refine wpAny_bind (wpAny_mono (comp_expr (use := some (assign (.Name x p') env)) (Q := fun _ s' => Q .next s') F.ev hok hs F.lowX F.vars (hF _ s F.st) (fun cenv Y h₁ s₀' ρ' h1 h2 h3 h4 h5 h6 => body_ok I h1 F.g F.tk h4 h5 h6) htot hlen ?_)
      (fun _ s' hq => wpAny_pure (wpAny_pure hq)) fun _ _ e => e)
    intro Da C Y h' tk m ys n hC hCD hDX hDn hn hda hyl hYX r hk' hg
    show wpAny _ A (assign (.Name x p') env (.ref Da)) _ _ _
    have k₁ : Keeps s { s with heap := h', toks := tk } := ⟨h', tk, rfl, hk'⟩
    have F₁ := F.keeps k₁ hg
    refine wpAny_assign_Name (store_ok F₁.ev.toEnvWf F₁.ev.inj (F₁.ev.slot hk) fun h₂ tk₂ S ht => ?_)
    have hCs : ¬ Own env α C := by
      rintro (e | ⟨y, e⟩ | e)
      · obtain ⟨m', o, es, ep, ho', _⟩ := F.ev.ns
        rw [← e, hC] at ho'; cases ho'
      · obtain ⟨v, o, ho', _⟩ := F.ev.live y C e
        rw [hC] at ho'; cases ho'
      · obtain ⟨vs, n', ho'⟩ := F.own_live e
        rw [hC] at ho'; cases ho'
    have hC₂ : some C ≠ slotOf env x := fun e => by
      unfold slotOf at e
      split at e
      · injection e with e; exact hCs (.inl e)
      · exact hCs (.inr (.inl ⟨x, e.symm⟩))
    have hn₂ : h₂.Ns C m := hn.at' fun o e => S.keep C o hC₂ e
    refine ⟨m, hn₂, fun h₃ hs₃ => ?_⟩
    have rD : Rp (X ++ α.as) h' (.ref Da) (.lst outs) := .lst hDX hda hyl (r.hide fun b hb => .inl (hYX b hb))
    have F₂ := F₁.store S rD (om_names hx) ht
    have hn0 : s₀.heap.get? C = none := by
      cases e : s₀.heap.get? C with
      | none => rfl
      | some o => rw [F.base C o e] at hC; cases hC
    have F₃ := F₂.other hs₃ hCs hn0 (seqKeep_ns hn₂ hs₃)
    have n12 := (Nx.of_keeps (env := env) (α := α) k₁ hg).trans rfl (nx_stored hk S ht)
    refine h α _ rfl rfl F₃ ⟨fun b o hb e => hs₃.extBut b o (fun e' => by rw [e', hC] at e; cases e) (n12.keep b o hb e), SeqKeep.trans n12.seq (seqKeep_ns hn₂ hs₃), n12.gr.trans ⟨Nat.le_refl _, by show h₂.objs.size ≤ h₃.objs.size; rw [hs₃.1]; exact Nat.le_refl _⟩⟩
end
end Mine
end

section
open PySem PySem.W PyProof.Rows PySem.SeqAt
set_option linter.unusedVariables false
namespace Mine

noncomputable def growO (ω : Om) (x : Str) (es : List D) : Om := ω.map fun p => if p.1 = x then (p.1, p.2 ++ es) else p
noncomputable def growA (α : Al) (x : Str) (es : List D) : Al := α.map fun p => if p.1 = x then (p.1, p.2.1, p.2.2 ++ es) else p

theorem growA_om (α : Al) (x : Str) (es : List D) : (growA α x es).om = growO α.om x es := by
  simp only [growA, growO, Al.om, List.map_map]
  congr 1
  funext p
  simp only [Function.comp]
  split <;> simp_all
theorem growA_ids (α : Al) (x : Str) (es : List D) : (growA α x es).ids = α.ids := by
  simp only [growA, Al.ids, List.map_map]
  congr 1
  funext p
  simp only [Function.comp]
  split <;> rfl

theorem nd_inj {β γ : Type} {f : β → γ} : ∀ {l : List β}, (l.map f).Nodup → ∀ {p q : β}, p ∈ l → q ∈ l → f p = f q → p = q
  | [], _, _, _, h, _, _ => nomatch h
  | a :: l, nd, p, q, hp, hq, e => by
    rw [List.map_cons, List.nodup_cons] at nd
    rcases List.mem_cons.mp hp with h1 | h1 <;> rcases List.mem_cons.mp hq with h2 | h2
    · rw [h1, h2]
    · exact absurd (List.mem_map.mpr ⟨q, h2, by rw [← e, h1]⟩) nd.1
    · exact absurd (List.mem_map.mpr ⟨p, h1, by rw [e, h2]⟩) nd.1
    · exact nd_inj nd.2 h1 h2 e

section
variable {c : Cx} {lvl : Nat} {A : Around} {X : List Addr} {s₀ s : Shared} {env : Env} {ρ ρ' ρ'' : Rho} {ω ω' : Om} {α : Al}

theorem varAt_func {h : Heap} {x : Str} {u v : Value} (a : VarAt h env x u) (b : VarAt h env x v) : u = v := by
  rcases a with ⟨hk, m, hn, hm⟩ | ⟨hk, cc, hc, o, ho, hd⟩
  · rcases b with ⟨_, m', hn', hm'⟩ | ⟨hk', _⟩
    · obtain ⟨o, es, ep, ho, hd, _, h1⟩ := hn
      obtain ⟨o2, es2, ep2, ho2, hd2, _, h2⟩ := hn'
      rw [ho] at ho2; cases ho2
      rw [hd] at hd2; cases hd2
      have : m x = m' x := by rw [← h1, h2]
      rw [hm, hm'] at this; injection this
    · rcases hk' with hk' | hk' <;> (rw [hk] at hk'; cases hk')
  · rcases b with ⟨hk', _⟩ | ⟨_, cc', hc', o', ho', hd'⟩
    · rcases hk with hk | hk <;> (rw [hk'] at hk; cases hk)
    · rw [hc] at hc'; cases hc'
      rw [ho] at ho'; cases ho'
      rw [hd] at hd'; injection hd' with e; injection e

theorem Fr1.grow (F : Fr1 c X s₀ env ρ α s) {x : Str} {a : Addr} {vs ws : List Value} {es : List D} {h' : Heap} {n n' : Nat} {ds0 : List D} (hm0 : (x, a, ds0) ∈ α) (h1 : s.heap.get? a = some { cls := .type "list", data := .seq vs.toArray n })
    (hs : Heap.SameBut a s.heap h') (h2 : h'.get? a = some { cls := .type "list", data := .seq (vs ++ ws).toArray n' }) (hl : (vs ++ ws).length ≤ sizeLine) (r : RpAll (X ++ α.as) s.heap ws es) :
    Fr1 c X s₀ env ρ (growA α x es) { s with heap := h' } := by
  have hv := (F.own _ hm0).1
  have ha : a ∈ α.as := List.mem_map.mpr ⟨_, hm0, rfl⟩
  obtain ⟨na, nb⟩ := F.own_not_slot ha
  have hk : ∀ b o, b ∉ [a] → s.heap.get? b = some o → h'.get? b = some o := fun b o hb e => hs.extBut b o (fun e' => hb (e' ▸ List.mem_singleton.mpr rfl)) e
  have hoff : ∀ y b, slotOf env y = some b → b ∉ [a] := fun y b e hm => by
    rw [List.mem_singleton.mp hm] at e
    unfold slotOf at e
    split at e
    · injection e with e; exact na e.symm
    · exact nb y e
  have sk : SeqKeep (X ++ α.as) s.heap h' := fun b o xs n hb e _ => hs.extBut b o (fun e' => hb (e' ▸ List.mem_append_right _ ha)) e
  have has : (growA α x es).as = α.as := as_of_ids (growA_ids α x es)
  refine ⟨?_, ⟨F.ev.toEnvWf, F.ev.inj, F.ev.full, fun y cc hc => ?_, ?_⟩, F.g0, F.tk, (fun b hb => by show b < h'.objs.size; rw [hs.1]; exact F.low b hb), by rw [has]; exact F.ax, F.gr.trans ⟨Nat.le_refl _, by rw [hs.1]; exact Nat.le_refl _⟩, ?_, ?_, ?_, by rw [has]; exact F.anew, by rw [has]; exact F.nd, F.Lnew, F.cnew⟩
  · obtain ⟨h, tk', rfl⟩ := F.same; exact ⟨h', tk', rfl⟩
  · obtain ⟨v, hv'⟩ := F.ev.live y cc hc
    exact ⟨v, hv'.sameBut hs fun e => nb y (e ▸ hc)⟩
  · obtain ⟨m, hm⟩ := F.ev.ns
    exact ⟨m, hm.sameBut hs na.symm⟩
  · intro b o e
    refine hs.extBut b o (fun e' => ?_) (F.base b o e)
    have q1 := F.anew a ha
    have q2 : @LT.lt Nat _ b s₀.heap.objs.size := ltSize e
    rw [e'] at q2; omega
  · rw [has]
    intro y dy hy
    obtain ⟨u, hu, ru⟩ := F.vars y dy hy
    exact ⟨u, varAt_but hk hoff hu, ru.seq sk⟩
  · rw [has]
    intro p hp
    obtain ⟨q, hq, rfl⟩ := List.mem_map.mp hp
    obtain ⟨hv', vs', m, g1, g2, g3⟩ := F.own q hq
    by_cases hqx : q.1 = x
    · rw [if_pos hqx]
      have : Value.ref q.2.1 = .ref a := varAt_func (hqx ▸ hv') hv
      injection this with this
      have e2 := g1
      rw [this, h1] at e2
      have : vs = vs' := by simpa using (show vs.toArray = vs'.toArray by injection e2 with w; injection w with _ _ w; injection w)
      subst this
      refine ⟨varAt_but hk hoff hv', vs ++ ws, n', ?_, hl, ?_⟩
      · show h'.get? q.2.1 = _
        rw [‹q.2.1 = a›]; exact h2
      · exact RpAll.app (r.seq sk) (g3.seq sk)
    · rw [if_neg hqx]
      refine ⟨varAt_but hk hoff hv', vs', m, hk _ _ (fun hm => ?_) g1, g2, g3.seq sk⟩
      have hqa := List.mem_singleton.mp hm
      have : q = (x, a, ds0) := nd_inj F.nd hq hm0 hqa
      exact hqx (by rw [this])

theorem ev_varAt {M : Model} {E Q : Value → Shared → Prop} {x : Str} {p : Pos} {v : Value} (W : EnvWf env) (hn : okName x = true) (hv : VarAt s.heap env x v) (h : Q v s) : wpAny M A (eval (.Name x p) env) Q E s := by
  unfold okName at hn
  simp only [Bool.and_eq_true, Bool.not_eq_true'] at hn
  refine wpAny_Name ?_ hn.1
  rcases hv with ⟨hk, m, hns, hm⟩ | ⟨hk | hk, c, hc, hv⟩
  · exact wpAny_loadName_local W.kind hk hns hm h
  · exact wpAny_loadName_cell W.kind hk hc hv h
  · exact wpAny_loadName_free W.kind hk hc hv h hn.2

theorem om_mem {α : Al} {x : Str} {ds : List D} (h : (x, ds) ∈ α.om) : ∃ a, (x, a, ds) ∈ α := by
  obtain ⟨p, hp, e⟩ := List.mem_map.mp h
  injection e with e1 e2
  subst e1 e2
  exact ⟨p.2.1, hp⟩

theorem nx_grow {a : Addr} {h' : Heap} (ha : a ∈ α.as) (hs : Heap.SameBut a s.heap h') : Nx env α s { s with heap := h' } :=
  ⟨fun b o hb e => hs.extBut b o (fun e' => hb (.inr (.inr (e' ▸ ha)))) e, fun b o xs n hb e _ => hs.extBut b o (fun e' => hb (e' ▸ ha)) e, ⟨Nat.le_refl _, by rw [hs.1]; exact Nat.le_refl _⟩⟩

theorem few_one {e : Expr} {pos : Pos} (hst : isStarred e = false) : ((backTo pos (starEach [e] env)).all (fun x => !x.1) && (backToKw pos (keywordEach [] env)).all (fun x => x.1.isSome)
      && decide (([e] : List Expr).length + ([] : List Keyword).length + (if ([] : List Keyword).isEmpty then 0 else 1) < 30)) = true := by
  rw [noStar_all fun e' he' => by rw [List.mem_singleton.mp he']; exact hst]; rfl

theorem ex_append {x : Str} {p1 apos pos spos : Pos} {e : Expr} {d : D} {ds : List D} (hi : interactive env = false) (hn : okName x = true) (hst : isStarred e = false) (hline : apos.endLine = pos.line) (hx : (x, ds) ∈ ω) (hlen : ds.length < 1000) (he : ∀ Y, Ev c A Y env ρ e d) :
    Ex c A X s₀ env (.Expr (.Call (.Attribute (.Name x p1) "append" apos) [e] [] pos) spos) ρ ω (.next ρ (growO ω x [d])) := fun α s E Q ho F h => by
  subst ho
  obtain ⟨a, hm⟩ := om_mem hx
  have ha : a ∈ α.as := List.mem_map.mpr ⟨_, hm, rfl⟩
  refine wpAny_Expr (hi := hi) (hs := rfl) ?_
  obtain ⟨hv, vs, n, g1, g2, g3⟩ := F.own _ hm
  refine wpAny_Call_method rfl (few_one hst) (by rw [hline]; exact beq_self_eq_true _) PySem.F.plainAttrs_list slot_list_append PySem.F.type_list_append (ev_varAt F.ev.toEnvWf hn hv ⟨(rp_isList g1).typeIs, fun a' e' => by cases e'; exact ⟨_, g1, rfl⟩, ?_⟩)
  rw [starEach_cons hst]
  refine P.append_list (he _ s _ _ F.st fun v s₁ o₁ g₁ => ?_)
  have F₁ := F.keeps o₁.1 g₁
  have k1 := Keeps.heap o₁.1 _ _ g1
  have hsm : Heap.SameBut a s₁.heap (s₁.heap.update a (Obj.mapSeq fun xs => xs.push v)) := Heap.SameBut.update ..
  have hvl := g3.length
  have hll : (1000 : Nat) < sizeLine := by decide
  refine ⟨vs.toArray, n, by simpa using g2, k1, ?_⟩
  have hu := IsL.update k1 (fun xs => xs.push v)
  have F₂ := F₁.grow (ws := [v]) hm k1 hsm (by simpa using hu) (by rw [List.length_append]; simp; dsimp only at hvl; omega) (.cons o₁.2 .nil)
  exact h (growA α x [d]) _ (growA_om α x [d]) (growA_ids α x [d]) F₂ ((Nx.of_keeps o₁.1 g₁).trans rfl (nx_grow ha hsm))

theorem ex_extend {x : Str} {p1 apos pos spos : Pos} {e : Expr} {ds es : List D} (hi : interactive env = false) (hn : okName x = true) (hst : isStarred e = false) (hline : apos.endLine = pos.line) (hx : (x, ds) ∈ ω) (hlen : ds.length + es.length < 1000) (he : ∀ Y, Ev c A Y env ρ e (.lst es)) :
    Ex c A X s₀ env (.Expr (.Call (.Attribute (.Name x p1) "extend" apos) [e] [] pos) spos) ρ ω (.next ρ (growO ω x es)) := fun α s E Q ho F h => by
  subst ho
  obtain ⟨a, hm⟩ := om_mem hx
  have ha : a ∈ α.as := List.mem_map.mpr ⟨_, hm, rfl⟩
  refine wpAny_Expr (hi := hi) (hs := rfl) ?_
  obtain ⟨hv, vs, n, g1, g2, g3⟩ := F.own _ hm
  refine wpAny_Call_method rfl (few_one hst) (by rw [hline]; exact beq_self_eq_true _) PySem.F.plainAttrs_list PySem.F.slot_list_extend PySem.F.type_list_extend (ev_varAt F.ev.toEnvWf hn hv ⟨(rp_isList g1).typeIs, fun a' e' => by cases e'; exact ⟨_, g1, rfl⟩, ?_⟩)
  rw [starEach_cons hst]
  refine P.extend_list (he _ s _ _ F.st fun v s₁ o₁ g₁ => ?_)
  have F₁ := F.keeps o₁.1 g₁
  have k1 := Keeps.heap o₁.1 _ _ g1
  obtain ⟨ko, ro⟩ := o₁
  cases ro with
  | @lst b n2 ws _ hxb b1 b2 b3 =>
    have hsm : Heap.SameBut a s₁.heap (s₁.heap.update a (Obj.mapSeq fun xs => xs ++ ws.toArray)) := Heap.SameBut.update ..
    have hvl := g3.length
    have hwl := b3.length
    have hll : (1000 : Nat) < sizeLine := by decide
    dsimp only at hvl
    refine ⟨b, vs.toArray, ws.toArray, n, n2, by simpa using g2, by simp; omega, ?_, rfl, k1, b1, ?_⟩
    · unfold Builtin.List.listTooLong
      simp only [List.size_toArray, Bool.and_eq_true, Bool.not_eq_true', decide_eq_true_eq, not_and]
      intro _; omega
    · have hu := IsL.update k1 (fun xs => xs ++ ws.toArray)
      have F₂ := F₁.grow (ws := ws) hm k1 hsm (by simpa using hu) (by rw [List.length_append]; omega) b3
      exact h (growA α x es) _ (growA_om α x es) (growA_ids α x es) F₂ ((Nx.of_keeps ko g₁).trans rfl (nx_grow ha hsm))
end
end Mine
end

section
open PySem PySem.W PyProof.Rows PySem.SeqAt
set_option linter.unusedVariables false
namespace Mine

section
variable {prog : Program} {w : World} {A : Around} {R : Result → Shared → Prop} {s : Shared}

theorem forLoop_rule {target : Expr} {it : Value} {body : List Stmt} {env : Env} (I : Nat → Shared → Prop)
    (turn : ∀ n s, I n s → wpAny (model prog w) A (pyNext it) (fun r s₁ => match r with
      | none => R (.ok .next) s₁
      | some v => wpAny (model prog w) A (letOwnedTupleGo target it v) (fun _ s₂ => wpAny (model prog w) A (assign target env v) (fun _ s₃ => wpAny (model prog w) A (execs body env) (fun f s₄ => match f with
          | .next | .cont => ∃ m, m < n ∧ I m s₄
          | .brk => R (.ok .next) s₄
          | .ret v => R (.ok (.ret v)) s₄) (notedBy (model prog w) A env fun e s' => R (.error e) s') s₃) (notedBy (model prog w) A env fun e s' => R (.error e) s') s₂) (notedBy (model prog w) A env fun e s' => R (.error e) s') s₁)
          (notedBy (model prog w) A env fun e s' => R (.error e) s') s)
    (n : Nat) (h : I n s) : codeAny (model prog w) A (.forLoop target it body [] env) R s := by
  refine codeAny_loop' rfl I (fun n s hI => ?_) n h
  show wpAny _ _ ((forTurn target it body [] env).onRaise (fun x => do noteFrame x env; theTreesLotGoes x)) _ _ s
  refine wpAny_noted ?_
  simp only [forTurn]
  refine wpAny_bind (wpAny_standAt (wpAny_bind (wpAny_onRaise (wpAny_mono (turn n s hI) (fun r s₁ h₁ => ?_) fun _ _ h' => wpAny_standAt h'))))
  cases r with
  | none => exact wpAny_pure (.inr ⟨rfl, codeAny_block (wpAny_execs_nil h₁)⟩)
  | some v =>
    refine wpAny_bind (wpAny_mono h₁ (fun _ s₂ h₂ => wpAny_bind (wpAny_mono h₂ (fun _ s₃ h₃ => wpAny_bind (wpAny_mono h₃ (fun f s₄ h₄ => ?_) fun _ _ h' => h')) fun _ _ h' => h')) fun _ _ h' => h')
    cases f with
    | next => exact wpAny_pure (.inl ⟨rfl, h₄⟩)
    | cont => exact wpAny_pure (.inl ⟨rfl, h₄⟩)
    | brk => exact wpAny_pure h₄
    | ret v => exact wpAny_pure h₄
end

noncomputable def forItems (step : Rho → Om → Option Res1) (t : Target) : List D → Rho → Om → Option Res1
  | [], ρ, ω => some (.next ρ ω)
  | d :: ds, ρ, ω => match bindT t d ρ with
    | none => none
    | some ρ' => match step ρ' ω with
      | some (.next ρ'' ω') => forItems step t ds ρ'' ω'
      | some (.ret r) => some (.ret r)
      | none => none

section
variable {c : Cx} {lvl : Nat} {A : Around} {X : List Addr} {s₀ s : Shared} {env : Env} {ρ ρ' ρ'' : Rho} {ω ω' : Om} {α : Al}

/-- more is hidden: addresses that the heap does not hold -/
theorem Fr1.hideMore (F : Fr1 c X s₀ env ρ α s) {wr : List Addr} {s' : Shared} (k : Keeps s s') (g : Grows s s') (hw : ∀ b ∈ wr, s.heap.get? b = none) (hl : ∀ b ∈ wr, b < s'.heap.objs.size) : Fr1 c (wr ++ X) s₀ env ρ α s' := by
  have F' := F.keeps k g
  have hid : ∀ b ∈ (wr ++ X) ++ α.as, b ∈ X ++ α.as ∨ s.heap.get? b = none := fun b hb => by
    rcases List.mem_append.mp hb with hb | hb
    · rcases List.mem_append.mp hb with hb | hb
      · exact .inr (hw b hb)
      · exact .inl (List.mem_append_left _ hb)
    · exact .inl (List.mem_append_right _ hb)
  refine ⟨F'.same, F'.ev, F'.g0, F'.tk, ?_, ?_, F'.gr, F'.base, ?_, ?_, F'.anew, F'.nd, F'.Lnew, F'.cnew⟩
  · intro b hb
    rcases List.mem_append.mp hb with hb | hb
    · exact hl b hb
    · exact F'.low b hb
  · intro a ha hm
    rcases List.mem_append.mp hm with hm | hm
    · obtain ⟨vs, n, h⟩ := F.own_live ha
      rw [hw a hm] at h; cases h
    · exact F.ax a ha hm
  · intro x d hx
    obtain ⟨v, hv, r⟩ := F.vars x d hx
    exact ⟨v, hv.keeps (Keeps.heap k), (r.hide hid).keeps (Keeps.heap k)⟩
  · intro p hp
    obtain ⟨hv, vs, n, g1, g2, g3⟩ := F.own p hp
    exact ⟨hv.keeps (Keeps.heap k), vs, n, Keeps.heap k _ _ g1, g2, (g3.hide hid).keeps (Keeps.heap k)⟩
theorem Fr1.hideLess {wr : List Addr} (F : Fr1 c (wr ++ X) s₀ env ρ α s) : Fr1 c X s₀ env ρ α s := by
  have hid : ∀ b ∈ X ++ α.as, b ∈ (wr ++ X) ++ α.as ∨ s.heap.get? b = none := fun b hb => by
    rcases List.mem_append.mp hb with hb | hb
    · exact .inl (List.mem_append_left _ (List.mem_append_right _ hb))
    · exact .inl (List.mem_append_right _ hb)
  refine ⟨F.same, F.ev, F.g0, F.tk, fun b hb => F.low b (List.mem_append_right _ hb), fun a ha hm => F.ax a ha (List.mem_append_right _ hm), F.gr, F.base, ?_, ?_, F.anew, F.nd, F.Lnew, F.cnew⟩
  · intro x d hx
    obtain ⟨v, hv, r⟩ := F.vars x d hx
    exact ⟨v, hv, r.hide hid⟩
  · intro p hp
    obtain ⟨hv, vs, n, g1, g2, g3⟩ := F.own p hp
    exact ⟨hv, vs, n, g1, g2, g3.hide hid⟩

/-- hidden objects change -/
theorem Fr1.wrMove {wr : List Addr} (F : Fr1 c (wr ++ X) s₀ env ρ α s) {h' : Heap} {tk : Nat} (hk : ∀ b o, b ∉ wr → s.heap.get? b = some o → h'.get? b = some o) (g : Grows s { s with heap := h', toks := tk }) (hso : ∀ b, Own env α b → b ∉ wr) (h0 : ∀ b ∈ wr, s₀.heap.get? b = none) :
    Fr1 c (wr ++ X) s₀ env ρ α { s with heap := h', toks := tk } := by
  have hoff : ∀ y a, slotOf env y = some a → a ∉ wr := fun y a e => hso a (by
    unfold slotOf at e
    split at e
    · injection e with e; exact .inl e.symm
    · exact .inr (.inl ⟨y, e⟩))
  have sk : SeqKeep ((wr ++ X) ++ α.as) s.heap h' := fun b o xs n hb e _ => hk b o (fun hm => hb (List.mem_append_left _ (List.mem_append_left _ hm))) e
  refine ⟨?_, ⟨F.ev.toEnvWf, F.ev.inj, F.ev.full, fun x cc hc => ?_, ?_⟩, F.g0, Nat.lt_of_lt_of_le F.tk g.1, F.low.grows g, F.ax, F.gr.trans g, ?_, ?_, ?_, F.anew, F.nd, F.Lnew, F.cnew⟩
  · obtain ⟨h, tk', rfl⟩ := F.same; exact ⟨h', tk, rfl⟩
  · obtain ⟨v, o, ho, hd⟩ := F.ev.live x cc hc
    exact ⟨v, o, hk _ _ (hso cc (.inr (.inl ⟨x, hc⟩))) ho, hd⟩
  · obtain ⟨m, hm⟩ := F.ev.ns
    exact ⟨m, hm.at' fun o e => hk _ o (hso _ (.inl rfl)) e⟩
  · exact fun b o e => hk b o (fun hm => by rw [h0 b hm] at e; cases e) (F.base b o e)
  · intro y dy hy
    obtain ⟨u, hu, ru⟩ := F.vars y dy hy
    exact ⟨u, varAt_but hk hoff hu, ru.seq sk⟩
  · intro p hp
    obtain ⟨hv, vs, n, g1, g2, g3⟩ := F.own p hp
    exact ⟨varAt_but hk hoff hv, vs, n, hk _ _ (hso _ (.inr (.inr (List.mem_map.mpr ⟨p, hp, rfl⟩)))) g1, g2, g3.seq sk⟩

/-- a turn's target is bound -/
theorem Fr1.bound {wr : List Addr} {h₁ h' : Heap} {t : Target} {d : D} {tk : Nat} (F : Fr1 c (wr ++ X) s₀ env ρ α s) (B : Bound (X ++ α.as) h₁ env wr t d s.heap h') (hb : bindT t d ρ = some ρ') (g : Grows s { s with heap := h', toks := tk })
    (hso : ∀ b, Own env α b → b ∉ wr) (h0 : ∀ b ∈ wr, s₀.heap.get? b = none) (hw1 : ∀ b ∈ wr, h₁.get? b = none) (hx : ∀ x ∈ t.names, ∀ p ∈ α, p.1 ≠ x) (hsk : SeqKeep ((wr ++ X) ++ α.as) h₁ s.heap) :
    Fr1 c (wr ++ X) s₀ env ρ' α { s with heap := h', toks := tk } := by
  have hwY : ∀ b ∈ wr, b ∈ (wr ++ X) ++ α.as := fun b hb => List.mem_append_left _ (List.mem_append_left _ hb)
  have sk : SeqKeep ((wr ++ X) ++ α.as) s.heap h' := B.seq _ hwY
  have hid : ∀ b ∈ (wr ++ X) ++ α.as, b ∈ X ++ α.as ∨ h₁.get? b = none := fun b hb => by
    rcases List.mem_append.mp hb with hb | hb
    · rcases List.mem_append.mp hb with hb | hb
      · exact .inr (hw1 b hb)
      · exact .inl (List.mem_append_left _ hb)
    · exact .inl (List.mem_append_right _ hb)
  have slot_own : ∀ y a, slotOf env y = some a → Own env α a := fun y a e => by
    unfold slotOf at e
    split at e
    · injection e with e; exact .inl e.symm
    · exact .inr (.inl ⟨y, e⟩)
  refine ⟨?_, ⟨F.ev.toEnvWf, F.ev.inj, F.ev.full, fun x cc hc => B.live cc (hso cc (.inr (.inl ⟨x, hc⟩))) (F.ev.live x cc hc), B.ns (hso _ (.inl rfl)) F.ev.ns⟩, F.g0, Nat.lt_of_lt_of_le F.tk g.1, F.low.grows g, F.ax, F.gr.trans g, ?_, ?_, ?_, F.anew, F.nd, F.Lnew, F.cnew⟩
  · obtain ⟨h, tk', rfl⟩ := F.same; exact ⟨h', tk, rfl⟩
  · intro b o e
    refine B.keep b o (fun hm => by rw [h0 b hm] at e; cases e) (fun x _ hs => ?_) (F.base b o e)
    have := F.slot_new hs.symm
    have := ltSize e; omega
  · refine took_vars hid (hsk.trans sk) B.took hb fun x dx hx' hl => ?_
    obtain ⟨v, hv, r⟩ := F.vars x dx hl
    exact ⟨v, B.other x v hx' hv, r.seq sk⟩
  · intro p hp
    obtain ⟨hv, vs, n, g1, g2, g3⟩ := F.own p hp
    have hm : p.2.1 ∈ α.as := List.mem_map.mpr ⟨p, hp, rfl⟩
    refine ⟨B.other _ _ (fun hm' => hx p.1 hm' p hp rfl) hv, vs, n, B.keep _ _ (hso _ (.inr (.inr hm))) (fun x _ hs => ?_) g1, g2, g3.seq sk⟩
    obtain ⟨q1, q2⟩ := F.own_not_slot hm
    unfold slotOf at hs
    split at hs
    · injection hs with hs; exact q1 hs
    · exact q2 x hs.symm
end
end Mine
end

section
open PySem PySem.W PyProof.Rows PySem.SeqAt
set_option linter.unusedVariables false
namespace Mine

section
variable {c : Cx} {lvl : Nat} {A : Around} {X : List Addr} {s₀ s : Shared} {env : Env} {ρ ρ' ρ'' : Rho} {ω ω' : Om} {α : Al}

theorem Fr1.own_some (F : Fr1 c X s₀ env ρ α s) {b : Addr} (h : Own env α b) : ∃ o, s.heap.get? b = some o := by
  rcases h with rfl | ⟨x, h⟩ | h
  · obtain ⟨m, o, es, ep, ho, _⟩ := F.ev.ns; exact ⟨o, ho⟩
  · obtain ⟨v, o, ho, _⟩ := F.ev.live x b h; exact ⟨o, ho⟩
  · obtain ⟨vs, n, ho⟩ := F.own_live h; exact ⟨_, ho⟩

theorem ids_names {α α' : Al} (h : α'.ids = α.ids) {x : Str} (hx : ∀ p ∈ α, p.1 ≠ x) : ∀ p ∈ α', p.1 ≠ x := fun p hp e => by
  have : (p.1, p.2.1) ∈ α'.ids := List.mem_map.mpr ⟨p, hp, rfl⟩
  rw [h] at this
  obtain ⟨q, hq, he⟩ := List.mem_map.mp this
  injection he with h1 h2
  exact hx q hq (h1.trans e)

theorem ex_for {target iter : Expr} {body : List Stmt} {p : Pos} {t : Target} {ds : List D} {r : Res1} {step : Rho → Om → Option Res1}
    (ht : ∀ x ∈ t.names, env.kindOf x = some .local ∨ env.kindOf x = some .cell) (hx : ∀ x ∈ t.names, ω.all (fun p => p.1 != x) = true) (hs : ∀ x, foldedSetIterable iter env x = pure x)
    (hF : ∀ Y s, StOk c Y env ρ s → Feeds c.prog c.w A Y env s iter target t ds) (hstep : ∀ X' ρ' ω' r', step ρ' ω' = some r' → Exs c A X' s₀ env body ρ' ω' r') (htot : forItems step t ds ρ ω = some r) :
    Ex c A X s₀ env (.For target iter body [] p) ρ ω r := fun α s E Q ho F h => by
  subst ho
  refine wpAny_For (hs := hs) (hF _ s F.st E _ fun it fp wr St h₁ s₂ k₂ g₂ kh₁ kh₂ Fd hst hfp hfc => ?_)
  have hw : ∀ b ∈ wr, s.heap.get? b = none := fun b hb => by
    cases e : s.heap.get? b with
    | none => rfl
    | some o => have := kh₁ b o e; rw [Fd.new b hb] at this; cases this
  have hso : ∀ b, Own env α b → b ∉ wr := fun b hb hm => by
    obtain ⟨o, ho⟩ := F.own_some hb
    rw [hw b hm] at ho; cases ho
  have fpOwn : ∀ b ∈ fp, ¬ Own env α b := fun b hb ho => by
    rcases hfc b hb with hn | ⟨hnX, o, xs, n, hg, hd⟩
    · obtain ⟨o, ho'⟩ := F.own_some ho
      rw [hn] at ho'; cases ho'
    · rcases ho with rfl | ⟨x, ho⟩ | ho
      · obtain ⟨m, o', es, ep, ho', hd', _⟩ := F.ev.ns
        rw [hg] at ho'; cases ho'; rw [hd] at hd'; cases hd'
      · obtain ⟨v, o', ho', hd'⟩ := F.ev.live x b ho
        rw [hg] at ho'; cases ho'; rw [hd] at hd'; cases hd'
      · exact hnX (List.mem_append_right _ ho)
  have h0 : ∀ b ∈ wr, s₀.heap.get? b = none := fun b hb => by
    cases e : s₀.heap.get? b with
    | none => rfl
    | some o => have := F.base b o e; rw [hw b hb] at this; cases this
  have hnames : ∀ x ∈ t.names, ∀ p ∈ α, p.1 ≠ x := fun x hx' => om_names (hx x hx')
  have slot_own : ∀ y a, slotOf env y = some a → Own env α a := fun y a e => by
    unfold slotOf at e
    split at e
    · injection e with e; exact .inl e.symm
    · exact .inr (.inl ⟨y, e⟩)
  have F₂ := F.hideMore k₂ g₂ hw fun b hb => hfp b (Fd.sub b hb)
  refine forLoop_rule
    (fun k s' => ∃ ρi αi i, Fr1 c (wr ++ X) s₀ env ρi αi s' ∧ αi.ids = α.ids ∧ St i s'.heap ∧ i ≤ ds.length ∧ k = ds.length + 1 - i ∧ forItems step t (ds.drop i) ρi αi.om = some r ∧ Nx env α s s' ∧ SeqKeep ((wr ++ X) ++ α.as) h₁ s'.heap) ?_ (ds.length + 1)
    ⟨ρ, α, 0, F₂, rfl, hst, Nat.zero_le _, rfl, by simpa using htot, Nx.of_keeps k₂ g₂, kh₂.seq⟩
  rintro k s' ⟨ρi, αi, i, Fi, hids, hst', hi, rfl, hrest, nx, hsk⟩
  have has := as_of_ids hids
  have hso' : ∀ b, Own env αi b → b ∉ wr := fun b hb => hso b ((own_of_ids hids b).mp hb)
  by_cases hlt : i < ds.length
  · obtain ⟨d, hd⟩ : ∃ d, ds[i]? = some d := ⟨ds[i], List.getElem?_eq_getElem hlt⟩
    have hdrop : ds.drop i = d :: ds.drop (i + 1) := by
      rw [List.drop_eq_getElem_cons hlt]
      congr 1
      have := List.getElem?_eq_getElem hlt
      rw [hd] at this; injection this with this; exact this.symm
    rw [hdrop] at hrest
    simp only [forItems] at hrest
    cases hb : bindT t d ρi with
    | none => rw [hb] at hrest; cases hrest
    | some ρ' =>
      rw [hb] at hrest
      dsimp only at hrest
      refine Fd.turn' hd hst' Fi.ev.toEnvWf Fi.ev.inj (fun x hx' => Fi.ev.slot (ht x hx')) (fun x hx' a e hm => fpOwn a hm (slot_own x a e)) (fun y a e => hso a (slot_own y a e)) fun h₃ tk₃ Bd hst₃ g₃ => ?_
      have F₃ : Fr1 c (wr ++ X) s₀ env ρ' αi { s' with heap := h₃, toks := tk₃ } := Fi.bound (by rw [has]; exact Bd) hb g₃ hso' h0 Fd.new (fun x hx' => ids_names hids (hnames x hx')) (by rw [has]; exact hsk)
      have nx₃ : Nx env α s { s' with heap := h₃, toks := tk₃ } := by
        refine ⟨fun b o hb' e => Bd.keep b o (fun hm => by rw [hw b hm] at e; cases e) (fun x _ hs' => hb' (slot_own x b hs'.symm)) (nx.keep b o hb' e), ?_, nx.gr.trans g₃⟩
        intro b o xs n hb' e hd'
        exact Bd.seq wr (fun _ h => h) b o xs n (fun hm => by rw [hw b hm] at e; cases e) (nx.seq b o xs n hb' e hd') hd'
      have hsk₃ : SeqKeep ((wr ++ X) ++ α.as) h₁ h₃ := SeqKeep.trans hsk (Bd.seq _ fun b hb' => List.mem_append_left _ (List.mem_append_left _ hb'))
      cases hst : step ρ' αi.om with
      | none => rw [hst] at hrest; cases hrest
      | some r' =>
        rw [hst] at hrest
        refine hstep (wr ++ X) ρ' αi.om r' hst αi _ _ _ rfl F₃ ?_
        cases r' with
        | next ρ₄ ω₄ =>
          intro α₄ s₄ ho₄ hi₄ F₄ n₄
          dsimp only at hrest
          have hids₄ := hi₄.trans hids
          refine ⟨ds.length + 1 - (i + 1), by omega, ρ₄, α₄, i + 1, F₄, hids₄, Fd.frame _ _ _ hst₃ fun b hb' o e => n₄.keep b o (fun ho' => fpOwn b hb' ((own_of_ids hids b).mp ho')) e, hlt, rfl, by rw [ho₄]; exact hrest, nx₃.trans hids n₄, SeqKeep.trans hsk₃ ?_⟩
          intro b o xs n hb' e hd'
          exact n₄.seq b o xs n (fun hm => hb' (List.mem_append_right _ (by rw [← has]; exact hm))) e hd'
        | ret dr =>
          dsimp only at hrest
          cases hrest
          exact fun v s₄ hsame hk4 rv => h v s₄ hsame hk4 (rv.hide fun b hb' => .inl (List.mem_append_right _ hb'))
  · have hin : i = ds.length := by omega
    subst hin
    simp only [List.drop_length, forItems, Option.some.injEq] at hrest
    subst hrest
    refine wpAny_grows (Grows.refl s') (Fd.done _ _ _ hst' fun h₃ tk₃ hk₃ hg₃ => ?_)
    have F₃ := (Fi.wrMove hk₃ hg₃ hso' h0).hideLess
    refine h αi _ rfl hids F₃ ⟨fun b o hb e => hk₃ b o (fun hm => by rw [hw b hm] at e; cases e) (nx.keep b o hb e), fun b o xs n hb e hd => hk₃ b o (fun hm => by rw [hw b hm] at e; cases e) (nx.seq b o xs n hb e hd), nx.gr.trans hg₃⟩
end
end Mine
end

section
open PySem PySem.W PyProof.Rows PySem.SeqAt
set_option linter.unusedVariables false
namespace Mine

noncomputable def whileRun (tst : Rho → Om → Option Bool) (step : Rho → Om → Option Res1) : Nat → Rho → Om → Option Res1
  | 0, _, _ => none
  | k + 1, ρ, ω => match tst ρ ω with
    | none => none
    | some false => some (.next ρ ω)
    | some true => match step ρ ω with
      | some (.next ρ' ω') => whileRun tst step k ρ' ω'
      | some (.ret d) => some (.ret d)
      | none => none

section
variable {c : Cx} {lvl : Nat} {A : Around} {X : List Addr} {s₀ s : Shared} {env : Env} {ρ ρ' ρ'' : Rho} {ω ω' : Om} {α : Al}

theorem ex_while {test : Expr} {body : List Stmt} {p : Pos} {r : Res1} {tst : Rho → Om → Option Bool} {step : Rho → Om → Option Res1} {k : Nat}
    (htst : ∀ ρ ω b, tst ρ ω = some b → Tst c A X env (full ω ρ) test b) (hstep : ∀ ρ' ω' r', step ρ' ω' = some r' → Exs c A X s₀ env body ρ' ω' r') (htot : whileRun tst step k ρ ω = some r) :
    Ex c A X s₀ env (.While test body [] p) ρ ω r := fun α s E Q ho F h => by
  subst ho
  refine wpAny_While (codeAny_whileLoop
    (fun n s' => ∃ ρi αi, Fr1 c X s₀ env ρi αi s' ∧ αi.ids = α.ids ∧ whileRun tst step n ρi αi.om = some r ∧ Nx env α s s') ?_ k ⟨ρ, α, F, rfl, htot, Nx.refl s⟩)
  rintro n s' ⟨ρi, αi, Fi, hids, hrun, nx⟩
  cases n with
  | zero => simp [whileRun] at hrun
  | succ n =>
    simp only [whileRun] at hrun
    cases ht : tst ρi αi.om with
    | none => rw [ht] at hrun; cases hrun
    | some b =>
      rw [ht] at hrun
      refine htst ρi αi.om b ht s' _ _ Fi.stf fun s₁ k₁ g₁ => ?_
      have F₁ := Fi.keeps k₁ g₁
      have nx₁ := nx.trans hids (Nx.of_keeps (α := αi) k₁ g₁)
      cases b with
      | false =>
        rw [if_neg Bool.false_ne_true]
        simp only [Option.some.injEq] at hrun
        subst hrun
        exact wpAny_execs_nil (h αi s₁ rfl hids F₁ nx₁)
      | true =>
        rw [if_pos rfl]
        dsimp only at hrun
        cases hst : step ρi αi.om with
        | none => rw [hst] at hrun; cases hrun
        | some r' =>
          rw [hst] at hrun
          refine hstep ρi αi.om r' hst αi s₁ _ _ rfl F₁ ?_
          cases r' with
          | next ρ₄ ω₄ =>
            intro α₄ s₄ ho₄ hi₄ F₄ n₄
            exact ⟨n, Nat.lt_succ_self _, ρ₄, α₄, F₄, hi₄.trans hids, by rw [ho₄]; exact hrun, nx₁.trans hids n₄⟩
          | ret dr =>
            cases hrun
            exact fun v s₄ hsame hk4 rv => h v s₄ hsame hk4 rv

theorem own_new {x : Str} {p' pl p : Pos} {E : Value → Shared → Prop} {Q : Flow → Shared → Prop} (F : Fr1 c X s₀ env ρ α s) (hk : env.kindOf x = some .local ∨ env.kindOf x = some .cell) (hx : ∀ p ∈ α, p.1 ≠ x) (hρ : ρ.lookup x = none)
    (h : ∀ a s', Fr1 c X s₀ env ρ ((x, a, []) :: α) s' → Q .next s') : wpAny (model c.prog c.w) A (exec (.Assign [.Name x p'] (.List [] pl) p) env) Q E s := by
  refine wpAny_Assign_Name (wpAny_List_spliced (Calls.spliced_nil ⟨Nat.zero_le _, ?_⟩))
  generalize hH : s.heap.push { cls := .type "list", data := .seq ([] : List Value).toArray } = H
  have hkH : HKeep s.heap H := hH ▸ HKeep.push _ _
  have hHs : H.objs.size = s.heap.objs.size + 1 := by rw [← hH, Heap.size_push]
  have ha : H.get? s.heap.objs.size = some { cls := .type "list", data := .seq ([] : List Value).toArray } := hH ▸ Heap.get?_push_size _ rfl
  have han : s.heap.get? s.heap.objs.size = none := fresh_none _ (Nat.le_refl _)
  have k₁ : Keeps s { s with heap := H } := ⟨H, s.toks, rfl, hkH⟩
  have g₁ : Grows s { s with heap := H } := ⟨Nat.le_refl _, by show s.heap.objs.size ≤ H.objs.size; omega⟩
  have F₁ := F.keeps k₁ g₁
  refine store_ok F₁.ev.toEnvWf F₁.ev.inj (F₁.ev.slot hk) fun h' tk S ht => h s.heap.objs.size _ ?_
  have hid : ∀ b ∈ X ++ Al.as ((x, s.heap.objs.size, []) :: α), b ∈ X ++ α.as ∨ s.heap.get? b = none := fun b hb => by
    rcases List.mem_append.mp hb with hb | hb
    · exact .inl (List.mem_append_left _ hb)
    · rcases List.mem_cons.mp hb with hb | hb
      · rw [hb]; exact .inr han
      · exact .inl (List.mem_append_right _ hb)
  have nslot : some s.heap.objs.size ≠ slotOf env x := fun e => by
    obtain ⟨a, h1, o, h2⟩ := slot_ns (F.ev.slot hk)
    rw [h1] at e; injection e with e
    rw [← e, han] at h2; cases h2
  refine ⟨?_, F₁.ev.stored S, F.g0, Nat.lt_of_lt_of_le F.tk ht, ?_, ?_, F₁.gr.trans ⟨ht, by show H.objs.size ≤ h'.objs.size; rw [S.size]; exact Nat.le_refl _⟩, ?_, ?_, ?_, ?_, ?_, F.Lnew, F.cnew⟩
  · obtain ⟨h1, t1, rfl⟩ := F.same; exact ⟨h', tk, rfl⟩
  · intro b hb
    show b < h'.objs.size
    rw [S.size]; exact F₁.low b hb
  · intro b hb hX
    rcases List.mem_cons.mp hb with hb | hb
    · rw [hb] at hX; exact Nat.lt_irrefl _ (F.low _ hX)
    · exact F.ax b hb hX
  · intro b o e
    refine S.keep b o (fun hb => ?_) (F₁.base b o e)
    have := F.slot_new hb.symm
    have := ltSize e; omega
  · intro y dy hy
    obtain ⟨u, hu, ru⟩ := F.vars y dy hy
    have hyx : y ≠ x := fun e => by rw [e, hρ] at hy; cases hy
    exact ⟨u, S.other y u hyx (hu.keeps hkH), ((ru.hide hid).keeps hkH).seq (S.seq _)⟩
  · intro q hq
    rcases List.mem_cons.mp hq with rfl | hq
    · exact ⟨S.var, [], _, S.keep _ _ nslot ha, Nat.zero_le _, .nil⟩
    · obtain ⟨hv, vs, n, g1, g2, g3⟩ := F.own q hq
      have hm : q.2.1 ∈ α.as := List.mem_map.mpr ⟨q, hq, rfl⟩
      refine ⟨S.other _ _ (hx q hq) (hv.keeps hkH), vs, n, S.keep _ _ (fun hs => ?_) (hkH _ _ g1), g2, ((g3.hide hid).keeps hkH).seq (S.seq _)⟩
      obtain ⟨q1, q2⟩ := F.own_not_slot hm
      unfold slotOf at hs
      split at hs
      · injection hs with hs; exact q1 hs
      · exact q2 x hs.symm
  · intro a ham
    rcases List.mem_cons.mp ham with ham | ham
    · rw [ham]; exact F.gr.2
    · exact F.anew a ham
  · show (s.heap.objs.size :: α.as).Nodup
    rw [List.nodup_cons]
    refine ⟨fun hm => ?_, F.nd⟩
    obtain ⟨vs, n, ho⟩ := F.own_live hm
    rw [han] at ho; cases ho
end
end Mine
end

section
open PySem PySem.W PyProof.Rows PySem.SeqAt
set_option linter.unusedVariables false
namespace Mine

noncomputable def slotK (sc : Scope) (x : Str) : Bool := sc.names.lookup x == some .local || sc.names.lookup x == some .cell

noncomputable def execsL (ex : Rho → Om → Stmt → Option Res1) : List Stmt → Rho → Om → Option Res1
  | [], ρ, ω => some (.next ρ ω)
  | st :: rest, ρ, ω => match ex ρ ω st with
    | some (.next ρ' ω') => execsL ex rest ρ' ω'
    | some (.ret d) => some (.ret d)
    | none => none

noncomputable def freeO (ω : Om) (x : Str) : Bool := ω.all fun p => p.1 != x

noncomputable def execP (P : PW) : Nat → Scope → Rho → Om → Stmt → Option Res1
  | 0, _, _, _, _ => none
  | n + 1, sc, ρ, ω, st => match st with
    | .Assign [.Name x _] e _ => if slotK sc x && freeO ω x then (match evalP P n sc ρ e with
        | some d => some (.next ((x, d) :: ρ) ω)
        | none => none) else none
    | .Assign [.Tuple es _ _] e _ => (match namesOf es with
      | none => none
      | some l => if isTup e || !(l.map (·.1)).all (fun x => slotK sc x && freeO ω x) then none else (match evalP P n sc ρ e with
        | some (.lst ds) => if ds.length = l.length then some (.next (storeAll (l.map (·.1)) ds ρ) ω) else none
        | some (.tup ds) => if ds.length = l.length then some (.next (storeAll (l.map (·.1)) ds ρ) ω) else none
        | _ => none))
    | .If t b o _ => (match testE (evalP P n sc (full ω ρ)) n t with
      | some true => execsL (execP P n sc) b ρ ω
      | some false => execsL (execP P n sc) o ρ ω
      | none => none)
    | .For target iter body [] _ => (match targetOf target with
      | none => none
      | some t => if !t.names.all (fun x => slotK sc x && freeO ω x) then none else (match iterE sc (evalP P n sc ρ) t iter with
        | some ds => forItems (fun ρ' ω' => execsL (execP P n sc) body ρ' ω') t ds ρ ω
        | none => none))
    | .While test body [] _ => whileRun (fun ρ' ω' => testE (evalP P n sc (full ω' ρ')) n test) (fun ρ' ω' => execsL (execP P n sc) body ρ' ω') n ρ ω
    | .Return (some e) _ => (match evalP P n sc (full ω ρ) e with
      | some d => some (.ret d)
      | none => none)
    | .Expr (.Call (.Attribute (.Name x _) m apos) [e] [] pos) _ => if okName x && !isStarred e && apos.endLine == pos.line then (match ω.lookup x, evalP P n sc ρ e with
        | some ds, some d =>
          if m = ("append" : Str) then (if ds.length < 999 then some (.next ρ (growO ω x [d])) else none)
          else if m = ("extend" : Str) then (match d with
            | .lst es => if ds.length + es.length < 999 then some (.next ρ (growO ω x es)) else none
            | _ => none)
          else none
        | _, _ => none) else none
    | _ => none

section
variable {c : Cx} {lvl : Nat} {A : Around} {X : List Addr} {s₀ s : Shared} {env : Env} {ρ ρ' ρ'' : Rho} {ω ω' : Om} {α : Al}

theorem slotK_kind {x : Str} (h : slotK env.scope x = true) : env.kindOf x = some .local ∨ env.kindOf x = some .cell := by
  unfold slotK at h
  simp only [Bool.or_eq_true, beq_iff_eq] at h
  exact h

theorem execsL_ok {ex : Rho → Om → Stmt → Option Res1} (hex : ∀ ρ ω st r, ex ρ ω st = some r → Ex c A X s₀ env st ρ ω r) : ∀ {sts : List Stmt} {ρ : Rho} {ω : Om} {r : Res1}, execsL ex sts ρ ω = some r → Exs c A X s₀ env sts ρ ω r
  | [], ρ, ω, r, h => by simp [execsL] at h; subst h; exact exs_nil
  | st :: rest, ρ, ω, r, h => by
    simp only [execsL] at h
    split at h
    · rename_i h1; exact exs_cons (hex _ _ _ _ h1) (execsL_ok hex h)
    · rename_i h1; cases h; exact exs_ret (hex _ _ _ _ h1)
    · cases h

/-- the parts of a comprehension that has a value -/
theorem comp_parts {P : PW} (hP : PWOk c lvl P) (R : Room A lvl) {n : Nat} {elt : Expr} {gens : List Comprehension} {sc' : Scope} {pos : Pos} {d : D} (h : evalP P n env.scope ρ (.ListComp elt gens sc' pos) = some d) :
    ∃ target iter ifs t ds outs tst el, gens = [⟨target, iter, ifs, 0⟩] ∧ d = .lst outs ∧ compOk sc' env.scope t = true ∧ (∀ x, foldedSetIterable iter env x = pure x) ∧ (∀ Y s, StOk c Y env ρ s → Feeds c.prog c.w A Y env s iter target t ds) ∧
      InnerOk c A (relabel sc' env) ifs elt tst el ∧ compItems tst el t (restr sc' t ρ) ds = some outs ∧ ds.length ≤ sizeLine := by
  cases n with
  | zero => exact nomatch (show (none : Option D) = some d from h)
  | succ n =>
    cases gens with
    | nil => exact nomatch (show (none : Option D) = some d from h)
    | cons g gt =>
      obtain ⟨target, iter, ifs, isA⟩ := g
      cases gt with
      | cons _ _ => exact nomatch (show (none : Option D) = some d from h)
      | nil =>
          change ite _ _ _ = _ at h
          split at h
          · cases h
          · rename_i hA
            have hA := Decidable.not_not.mp hA
            subst hA
            split at h
            · cases h
            · rename_i t ht
              split at h
              · cases h
              · rename_i hok
                split at h
                · cases h
                · rename_i ds hds
                  split at h
                  · rename_i hlen
                    obtain ⟨outs, houts, rfl⟩ := Option.map_eq_some_iff.mp h
                    have io := fun Y => iter_ok (X := Y) R (fun e d => eval_ok hP R n env.scope ρ e d Y env rfl) (fun e d he => evalP_star he) ht hds
                    refine ⟨_, _, _, t, ds, outs, _, _, rfl, rfl, by simpa using hok, (io []).2, fun Y => (io Y).1, ⟨fun cenv Y ρ' b hsc' e => ?_, fun cenv Y ρ' d hsc' e => eval_ok hP R n _ ρ' _ d Y cenv (hsc'.trans rfl) e⟩, houts, hlen⟩
                    split at e
                    · cases e; exact .inl ⟨rfl, rfl⟩
                    · exact .inr ⟨_, rfl, test_ok R (fun e d he => eval_ok hP R n _ ρ' e d Y cenv (hsc'.trans rfl) he) n _ _ e⟩
                    · cases e
                  · cases h

theorem exec_ok {P : PW} (hP : PWOk c lvl P) (R : Room A lvl) (hi : interactive env = false) : ∀ (n : Nat) (st : Stmt) (ρ : Rho) (ω : Om) (r : Res1) (X : List Addr), execP P n env.scope ρ ω st = some r → Ex c A X s₀ env st ρ ω r := by
  intro n
  induction n with
  | zero => intro st ρ ω r X h; exact nomatch (show (none : Option Res1) = some r from h)
  | succ n ih =>
    intro st ρ ω r X h
    have ev : ∀ Y ρ e d, evalP P n env.scope ρ e = some d → Ev c A Y env ρ e d := fun Y ρ e d => eval_ok hP R n env.scope ρ e d Y env rfl
    cases st with
    | Assign ts e p =>
      cases ts with
      | nil => exact nomatch (show (none : Option Res1) = some r from h)
      | cons t0 tt =>
        cases tt with
        | cons _ _ => cases t0 <;> exact nomatch (show (none : Option Res1) = some r from h)
        | nil =>
          cases t0 with
          | Name x p' =>
            change ite _ _ _ = _ at h
            split at h
            · rename_i hc
              simp only [Bool.and_eq_true] at hc
              split at h
              · rename_i d hd
                cases h
                cases hcomp : isComp e with
                | false => exact ex_assign (slotK_kind hc.1) hc.2 (swaps_plain hcomp) fun Y => ev Y ρ e d hd
                | true =>
                  cases e with
                  | ListComp elt gens sc' pos =>
                    obtain ⟨target, iter, ifs, t, ds, outs, tst, el, rfl, rfl, h1, h2, h3, h4, h5, h6⟩ := comp_parts hP R hd
                    exact ex_assign_comp (slotK_kind hc.1) hc.2 h1 h2 h3 h4 h5 h6
                  | SetComp =>
                    cases n with
                    | zero => exact nomatch (show (none : Option D) = some d from hd)
                    | succ n => exact nomatch (show (none : Option D) = some d from hd)
                  | DictComp =>
                    cases n with
                    | zero => exact nomatch (show (none : Option D) = some d from hd)
                    | succ n => exact nomatch (show (none : Option D) = some d from hd)
                  | _ => cases hcomp
              · cases h
            · cases h
          | Tuple es k tp =>
            conv at h => lhs; whnf
            split at h
            · cases h
            · rename_i l hl
              split at h
              · cases h
              · rename_i hc
                simp only [Bool.or_eq_true, Bool.not_eq_true', not_or, Bool.not_eq_true, Bool.not_eq_false, List.all_eq_true, Bool.and_eq_true] at hc
                obtain ⟨ht, hn⟩ := hc
                split at h
                · rename_i ds hd
                  split at h
                  · rename_i hlen; cases h
                    exact ex_unpack R hl (fun x hx => slotK_kind (hn x hx).1) (fun x hx => (hn x hx).2) ht hlen (.inl rfl) fun Y => ev Y ρ e _ hd
                  · cases h
                · rename_i ds hd
                  split at h
                  · rename_i hlen; cases h
                    exact ex_unpack R hl (fun x hx => slotK_kind (hn x hx).1) (fun x hx => (hn x hx).2) ht hlen (.inr rfl) fun Y => ev Y ρ e _ hd
                  · cases h
                · cases h
          | _ => exact nomatch (show (none : Option Res1) = some r from h)
    | If t b o p =>
      conv at h => lhs; whnf
      split at h
      · rename_i ht; exact ex_if (test_ok R (ev X _) n _ _ ht) (by rw [if_pos rfl]; exact execsL_ok (fun ρ ω st r => ih st ρ ω r X) h)
      · rename_i ht; exact ex_if (test_ok R (ev X _) n _ _ ht) (by rw [if_neg Bool.false_ne_true]; exact execsL_ok (fun ρ ω st r => ih st ρ ω r X) h)
      · cases h
    | For target iter body oe p =>
      cases oe with
      | cons _ _ => exact nomatch (show (none : Option Res1) = some r from h)
      | nil =>
        conv at h => lhs; whnf
        split at h
        · cases h
        · rename_i t ht
          split at h
          · cases h
          · rename_i hn
            simp only [Bool.not_eq_true', Bool.not_eq_false, List.all_eq_true, Bool.and_eq_true] at hn
            split at h
            · rename_i ds hds
              have io := fun Y => iter_ok (X := Y) R (ev Y ρ) (fun e d he => evalP_star he) ht hds
              exact ex_for (fun x hx => slotK_kind (hn x hx).1) (fun x hx => (hn x hx).2) (io []).2 (fun Y => (io Y).1) (fun X' ρ' ω' r' hr => execsL_ok (fun ρ ω st r => ih st ρ ω r X') hr) h
            · cases h
    | While test body oe p =>
      cases oe with
      | cons _ _ => exact nomatch (show (none : Option Res1) = some r from h)
      | nil =>
        exact ex_while (fun ρ ω b hb => test_ok R (ev X _) n _ _ hb) (fun ρ' ω' r' hr => execsL_ok (fun ρ ω st r => ih st ρ ω r X) hr) h
    | Return e p =>
      cases e with
      | none => exact nomatch (show (none : Option Res1) = some r from h)
      | some e =>
        conv at h => lhs; whnf
        split at h
        · rename_i hd; cases h; exact ex_ret (ev X _ _ _ hd)
        · cases h
    | Expr e p =>
      cases e with
      | Call f args kws pos =>
        cases f with
        | Attribute o m apos =>
          cases o with
          | Name x p' =>
            cases args with
            | nil => exact nomatch (show (none : Option Res1) = some r from h)
            | cons e t =>
              cases t with
              | cons _ _ => exact nomatch (show (none : Option Res1) = some r from h)
              | nil =>
                cases kws with
                | cons _ _ => exact nomatch (show (none : Option Res1) = some r from h)
                | nil =>
                  change ite _ _ _ = _ at h
                  split at h
                  · rename_i hc
                    simp only [Bool.and_eq_true, Bool.not_eq_true', beq_iff_eq] at hc
                    split at h
                    · rename_i ds d hω hd
                      split at h
                      · rename_i hm
                        subst hm
                        split at h
                        · rename_i hlen; cases h
                          exact ex_append hi hc.1.1 hc.1.2 hc.2 (mem_of_lookup' hω) (by omega) fun Y => ev Y ρ _ _ hd
                        · cases h
                      · split at h
                        · rename_i hm
                          subst hm
                          split at h
                          · rename_i es
                            split at h
                            · rename_i hlen; cases h
                              exact ex_extend hi hc.1.1 hc.1.2 hc.2 (mem_of_lookup' hω) (by omega) fun Y => ev Y ρ _ _ hd
                            · cases h
                          · cases h
                        · cases h
                    · cases h
                  · cases h
          | _ => exact nomatch (show (none : Option Res1) = some r from h)
        | _ => exact nomatch (show (none : Option Res1) = some r from h)
      | _ => exact nomatch (show (none : Option Res1) = some r from h)
    | _ => exact nomatch (show (none : Option Res1) = some r from h)
end
end Mine
end

section
open PySem PySem.W PyProof.Rows PySem.SeqAt PySem.Calls
set_option linter.unusedVariables false
namespace Mine

/-- a def of the text -/
structure FnRec where
  name : Str
  params : Arguments
  body : List Stmt
  scope : Scope

noncomputable def FnRec.xs (f : FnRec) : List Str := f.params.args.map (·.arg)

noncomputable def FnAt (mg : Str → Option Value) (h : Heap) (f : FnRec) (a : Addr) (pm cd doc : Value) : Prop :=
  mg f.name = some (.ref a) ∧ ∃ o, h.get? a = some o ∧ o.data = .func (docDef f.name f.params f.body f.scope pm cd doc) ∧ h.CodeRec cd f.name

noncomputable def ownName : Stmt → Option Str
  | .Assign ts e _ => match ts with
    | [t] => (match t with
      | .Name x _ => (match e with
        | .List es _ => (match es with
          | [] => some x
          | _ => none)
        | _ => none)
      | _ => none)
    | _ => none
  | _ => none
theorem ownName_inv {st : Stmt} {x : Str} (h : ownName st = some x) : ∃ p' pl p, st = .Assign [.Name x p'] (.List [] pl) p := by
  cases st with
  | Assign ts e p =>
    cases ts with
    | nil => exact nomatch (show (none : Option Str) = some x from h)
    | cons t r =>
      cases r with
      | cons _ _ => exact nomatch (show (none : Option Str) = some x from h)
      | nil =>
        cases t with
        | Name y p' =>
          cases e with
          | List es pl =>
            cases es with
            | nil => cases h; exact ⟨_, _, _, rfl⟩
            | cons _ _ => exact nomatch (show (none : Option Str) = some x from h)
          | _ => exact nomatch (show (none : Option Str) = some x from h)
        | _ => exact nomatch (show (none : Option Str) = some x from h)
  | _ => exact nomatch (show (none : Option Str) = some x from h)
noncomputable def ownPre : List Stmt → List Str × List Stmt
  | [] => ([], [])
  | st :: r => match ownName st with
    | some x => (x :: (ownPre r).1, (ownPre r).2)
    | none => ([], st :: r)

noncomputable def fnOk (f : FnRec) (os : List Str) : Bool :=
  f.scope.kind == .function && !f.scope.isCoroutine && !f.scope.isGenerator && f.xs.all (slotK f.scope) && os.all (fun x => slotK f.scope x && !f.xs.contains x) && decide os.Nodup

noncomputable def runP (P : PW) (n : Nat) (f : FnRec) (ds : List D) : Option D :=
  if ds.length = f.xs.length ∧ fnOk f (ownPre f.body).1 then
    match execsL (execP P n f.scope) (ownPre f.body).2 (f.xs.zip ds).reverse ((ownPre f.body).1.reverse.map fun x => (x, [])) with
    | some (.ret d) => some d
    | _ => none
  else none

section
variable {c : Cx} {lvl : Nat} {A : Around} {X : List Addr} {s₀ s : Shared} {env : Env} {ρ ρ' ρ'' : Rho} {ω ω' : Om} {α : Al}

theorem bindL_lookup {kindOf : Str → Option NameKind} {x : Str} (hk : kindOf x = some .local) : ∀ (binds : List (Str × Value)) (m : Str → Option Value), bindL kindOf binds m x = (binds.reverse.lookup x).or (m x)
  | [], m => by simp [bindL]
  | (n, v) :: r, m => by
    unfold bindL
    rw [bindL_lookup hk r, List.reverse_cons, List.lookup_append]
    cases h1 : r.reverse.lookup x with
    | some u => simp
    | none =>
      simp only [Option.none_or]
      by_cases hn : x = n
      · subst hn; rw [if_pos hk]; simp
      · have : (x == n) = false := by simpa using hn
        simp only [List.lookup_cons, this, List.lookup_nil, Option.none_or]
        split
        · exact if_neg hn
        · rfl
theorem bindC_lookup {kindOf : Str → Option NameKind} {x : Str} (hk : kindOf x ≠ some .local) : ∀ (binds : List (Str × Value)) (m : Str → Option Value), bindC kindOf binds m x = (binds.reverse.lookup x).or (m x)
  | [], m => by simp [bindC]
  | (n, v) :: r, m => by
    unfold bindC
    rw [bindC_lookup hk r, List.reverse_cons, List.lookup_append]
    cases h1 : r.reverse.lookup x with
    | some u => simp
    | none =>
      simp only [Option.none_or]
      by_cases hn : x = n
      · subst hn; rw [if_neg hk]; simp
      · have : (x == n) = false := by simpa using hn
        simp only [List.lookup_cons, this, List.lookup_nil, Option.none_or]
        split
        · rfl
        · exact if_neg hn

theorem zip_both {h : Heap} (x : Str) : ∀ (xs : List Str) {vs : List Value} {ds : List D}, RpAll X h vs ds →
    ((xs.zip vs).reverse.lookup x = none ∧ (xs.zip ds).reverse.lookup x = none) ∨ ∃ v d, (xs.zip vs).reverse.lookup x = some v ∧ (xs.zip ds).reverse.lookup x = some d ∧ Rp X h v d
  | [], _, _, _ => by simp
  | _ :: _, _, _, .nil => by simp
  | y :: ys, v :: vs, d :: ds, .cons r rs => by
    simp only [List.zip_cons_cons, List.reverse_cons, List.lookup_append]
    rcases zip_both x ys rs with ⟨h1, h2⟩ | ⟨v', d', h1, h2, r'⟩
    · rw [h1, h2]
      simp only [Option.none_or, List.lookup_cons, List.lookup_nil]
      cases hb : x == y with
      | true => exact .inr ⟨v, d, rfl, rfl, r⟩
      | false => exact .inl ⟨rfl, rfl⟩
    · rw [h1, h2]; exact .inr ⟨v', d', rfl, rfl, r'⟩

theorem zip_name {β : Type} {x : Str} {d : β} : ∀ {xs : List Str} {ds : List β}, (xs.zip ds).reverse.lookup x = some d → x ∈ xs := fun {xs ds} h => by
  have := PySem.mem_of_lookup h
  rw [List.mem_reverse] at this
  exact (List.of_mem_zip this).1

/-- the frame of a call that has just begun -/
theorem Fr1.start {f : FnRec} {a : Addr} {pm cd doc : Value} {vals : List Value} {ds : List D} {s s₁ : Shared} (hkind : f.scope.kind = .function) (hsl : ∀ x ∈ f.xs, slotK f.scope x = true) (hG : c.G s.heap) (htk : 0 < s.toks) (L : Low X s.heap) (r : RpAll X s.heap vals ds)
    (x : InCallC s (callEnvC (docDef f.name f.params f.body f.scope pm cd doc) s.heap.objs.size a).locals (bindL (callEnvC (docDef f.name f.params f.body f.scope pm cd doc) s.heap.objs.size a).kindOf (f.xs.zip vals) fun _ => none)
      (callEnvC (docDef f.name f.params f.body f.scope pm cd doc) s.heap.objs.size a).cells (bindC (callEnvC (docDef f.name f.params f.body f.scope pm cd doc) s.heap.objs.size a).kindOf (f.xs.zip vals) fun _ => none) s₁) (g : Grows s s₁) :
    Fr1 c X s (callEnvC (docDef f.name f.params f.body f.scope pm cd doc) s.heap.objs.size a) (f.xs.zip ds).reverse [] s₁ := by
  generalize henv : callEnvC (docDef f.name f.params f.body f.scope pm cd doc) s.heap.objs.size a = env at x ⊢
  have hsc : env.scope = f.scope := by rw [← henv]; rfl
  have hl : env.locals = s.heap.objs.size := by rw [← henv]; rfl
  have hcells : env.cells = cellsFrom (s.heap.objs.size + 1) f.scope.names [] := by rw [← henv]; rfl
  have hX : X ++ Al.as [] = X := by simp [Al.as]
  refine ⟨x.toInCall.same, ⟨⟨by rw [hsc]; exact hkind, by rw [← henv]; rfl, by rw [← henv]; rfl⟩, ?_, ?_, fun y cc hc => ⟨_, x.cell y cc hc⟩, ⟨_, x.toInCall.ns⟩⟩, hG, Nat.lt_of_lt_of_le htk g.1, L.grows g, (fun a h => nomatch h), g, x.toInCall.keep, ?_, (fun p h => nomatch h), (fun a h => nomatch h), List.nodup_nil, ?_, ?_⟩
  · intro y z cc h1 h2
    exact name_of_addr x.apart (mem_of_lookup h1) (mem_of_lookup h2)
  · intro y hy
    rw [hcells]
    refine cellsFrom_some (.inl (mem_of_lookup' ?_))
    rw [← hsc]; exact hy
  · rw [hX]
    intro y d hy
    rcases zip_both (X := X) (h := s.heap) y f.xs r with ⟨h1, h2⟩ | ⟨v, d', h1, h2, rv⟩
    · rw [h2] at hy; cases hy
    · rw [h2] at hy; cases hy
      refine ⟨v, ?_, rv.keeps x.toInCall.keep⟩
      have hs := slotK_kind (env := env) (x := y) (by rw [hsc]; exact hsl y (zip_name h2))
      rcases hs with hs | hs
      · exact .inl ⟨hs, _, x.toInCall.ns, by rw [bindL_lookup hs, h1]; rfl⟩
      · have hnl : env.kindOf y ≠ some .local := by rw [hs]; decide
        obtain ⟨cc, hc⟩ : ∃ cc, env.cells.lookup y = some cc := by
          rw [hcells]
          refine cellsFrom_some (.inl (mem_of_lookup' ?_))
          rw [← hsc]; exact hs
        refine .inr ⟨.inl hs, cc, hc, ?_⟩
        have := x.cell y cc hc
        rw [bindC_lookup hnl, h1] at this
        exact this
  · rw [hl]; exact Nat.le_refl _
  · intro y cc hc
    have := x.above y cc (mem_of_lookup hc)
    have q : @LT.lt Nat _ env.locals cc := this
    have hl' : @Eq Nat env.locals s.heap.objs.size := hl
    omega
end

theorem pre_ok {c : Cx} {A : Around} {X : List Addr} {s₀ : Shared} {env : Env} {ρ : Rho} {R : Flow → Shared → Prop} {E : Value → Shared → Prop} : ∀ {body : List Stmt} {α : Al} {s : Shared}, Fr1 c X s₀ env ρ α s → (∀ x ∈ (ownPre body).1, slotK env.scope x = true ∧ ρ.lookup x = none ∧ ∀ p ∈ α, p.1 ≠ x) → (ownPre body).1.Nodup →
    (∀ α' s', α'.om = (ownPre body).1.reverse.map (fun x => (x, [])) ++ α.om → Fr1 c X s₀ env ρ α' s' → wpAny (model c.prog c.w) A (execs (ownPre body).2 env) R E s') → wpAny (model c.prog c.w) A (execs body env) R E s := by
  intro body
  induction body with
  | nil => intro α s F _ _ h; exact h α s (by rfl) F
  | cons st r ih =>
    intro α s F hn hnd h
    cases hst : ownName st with
    | some x =>
      obtain ⟨p', pl, p, rfl⟩ := ownName_inv hst
      have e1 : (ownPre (.Assign [.Name x p'] (.List [] pl) p :: r)).1 = x :: (ownPre r).1 := rfl
      have e2 : (ownPre (.Assign [.Name x p'] (.List [] pl) p :: r)).2 = (ownPre r).2 := rfl
      rw [e1] at hn hnd h
      rw [e2] at h
      rw [List.nodup_cons] at hnd
      obtain ⟨q1, q2, q3⟩ := hn x List.mem_cons_self
      refine wpAny_execs_cons (own_new F (slotK_kind q1) q3 q2 fun a s' F' => ih F' (fun y hy => ?_) hnd.2 fun α' s'' ho F'' => h α' s'' ?_ F'')
      · obtain ⟨u1, u2, u3⟩ := hn y (List.mem_cons_of_mem _ hy)
        refine ⟨u1, u2, fun p hp => ?_⟩
        rcases List.mem_cons.mp hp with rfl | hp
        · intro e
          have e : x = y := e
          exact hnd.1 (by rw [e]; exact hy)
        · exact u3 p hp
      · rw [ho]; simp [Al.om]
    | none =>
      have e1 : ownPre (st :: r) = ([], st :: r) := by
        conv => lhs; whnf
        rw [hst]
      rw [e1] at h
      exact h α s (by simp) F

theorem run_ok {c : Cx} {lvl : Nat} {P : PW} (hP : PWOk c lvl P) {n : Nat} {f : FnRec} {a : Addr} {pm cd doc : Value} (hat : ∀ h, c.G h → ∃ o, h.get? a = some o ∧ o.data = .func (docDef f.name f.params f.body f.scope pm cd doc) ∧ h.CodeRec cd f.name ∧ h.NoLimit)
    (hbind : ∀ vals : List Value, vals.length = f.xs.length → bindArgs (docDef f.name f.params f.body f.scope pm cd doc) ⟨vals, []⟩ = pure (f.xs.zip vals)) : Meets1 c (lvl + 1) (.ref a) (runP P n f) := by
  intro A X s vals ds d E Q R hG htk L r hr h
  obtain ⟨o, ho, hd, hcd, hlim⟩ := hat _ hG
  unfold runP at hr
  split at hr
  · rename_i hc
    obtain ⟨hlen, hok⟩ := hc
    simp only [fnOk, Bool.and_eq_true, beq_iff_eq, Bool.not_eq_true', List.all_eq_true, decide_eq_true_eq, List.contains_eq_mem, decide_eq_false_iff_not] at hok
    obtain ⟨⟨⟨⟨⟨hkind, hco⟩, hgen⟩, hsl⟩, hos⟩, hnd⟩ := hok
    split at hr
    · rename_i d' hex
      cases hr
      have hdp : A.depth < recursionLimit := by have := R.dp; omega
      refine wpAny_call (codeAny_call_function hdp ho hd hco hgen rfl hcd ?_)
      have hvl : vals.length = f.xs.length := r.length.trans hlen
      rw [hbind vals hvl]
      refine wpAny_pure (wpAny_grows (Grows.refl s) (wpAny_newFunctionEnv_cells hkind (fun x hx => ?_) fun env he s' x g => ?_))
      · have hx' : x.1 ∈ f.xs := (List.of_mem_zip hx).1
        have hk := hsl x.1 hx'
        unfold slotK at hk
        simp only [Bool.or_eq_true, beq_iff_eq] at hk
        rcases hk with hk | hk
        · exact .inl hk
        · refine .inr ⟨hk, ?_⟩
          obtain ⟨cc, hcc⟩ := cellsFrom_some (n := s.heap.objs.size + 1) (acc := []) (.inl (mem_of_lookup' hk))
          show ((cellsFrom (s.heap.objs.size + 1) f.scope.names []).lookup x.1).isSome = true
          rw [hcc]; rfl
      · subst he
        refine ⟨hlim.keeps x.toInCall.keep, codeAny_func ?_⟩
        have F := Fr1.start (c := c) (X := X) (f := f) (a := a) (pm := pm) (cd := cd) (doc := doc) hkind hsl hG htk L r x g
        have hRd : Room (A.deeper (callEnvC (docDef f.name f.params f.body f.scope pm cd doc) s.heap.objs.size a)) lvl := ⟨R.hd, by
          show A.depth + 1 + lvl < recursionLimit
          have := R.dp; omega, by
          show A.units + 3 + 20 * lvl + 1000 < cLine
          have := R.un; omega⟩
        refine pre_ok (body := f.body) F (fun y hy => ⟨(hos y hy).1, ?_, fun p hp => nomatch hp⟩) hnd fun α' s'' ho' F' => ?_
        · cases e : (f.xs.zip ds).reverse.lookup y with
          | none => rfl
          | some d => exact absurd (zip_name e) (hos y hy).2
        · refine execsL_ok (fun ρ ω st r => exec_ok hP hRd (by unfold interactive; show (f.scope.kind == .module && _) = false; rw [hkind]; rfl) n st ρ ω r X) hex α' s'' _ _ (by rw [ho']; simp [Al.om]) F' ?_
          intro v s₃ hsame hk rv
          obtain ⟨h3, t3, rfl⟩ := hsame
          exact h v _ ⟨⟨h3, t3, rfl, hk⟩, rv⟩
    · cases hr
  · cases hr
end Mine
end

section
open PySem PySem.W PyProof.Rows PySem.SeqAt PySem.Calls
open PySem.Builtin.Str
set_option linter.unusedVariables false
set_option linter.unusedSimpArgs false
namespace Mine

noncomputable def asInts : List D → Option (List Int)
  | [] => some []
  | .int i :: r => (asInts r).map (i :: ·)
  | _ :: _ => none
noncomputable def asFlts : List D → Option (List UInt64)
  | [] => some []
  | .flt b :: r => (asFlts r).map (b :: ·)
  | _ :: _ => none
noncomputable def asStrs : List D → Option (List Str)
  | [] => some []
  | .str x :: r => (asStrs r).map (x :: ·)
  | _ :: _ => none

theorem ints_are {X : List Addr} {h : Heap} : ∀ {ds : List D} {vs : List Value} {ns : List Int}, RpAll X h vs ds → asInts ds = some ns → IntsAre vs ns := by
  intro ds
  induction ds with
  | nil => intro vs ns r e; cases r; cases e; exact .nil
  | cons d ds ih =>
    intro vs ns r e
    cases d with
    | int i =>
      cases r with
      | cons r0 rs =>
        cases r0
        obtain ⟨ns', h1, rfl⟩ := Option.map_eq_some_iff.mp e
        exact .cons i _ (ih rs h1)
    | _ => cases e
theorem flts_are {X : List Addr} {h : Heap} : ∀ {ds : List D} {vs : List Value} {ns : List UInt64}, RpAll X h vs ds → asFlts ds = some ns → Flt.FloatsAre vs ns := by
  intro ds
  induction ds with
  | nil => intro vs ns r e; cases r; cases e; exact .nil
  | cons d ds ih =>
    intro vs ns r e
    cases d with
    | flt i =>
      cases r with
      | cons r0 rs =>
        cases r0
        obtain ⟨ns', h1, rfl⟩ := Option.map_eq_some_iff.mp e
        exact .cons i _ (ih rs h1)
    | _ => cases e
theorem strs_are {X : List Addr} {h : Heap} : ∀ {ds : List D} {vs : List Value} {ns : List Str}, RpAll X h vs ds → asStrs ds = some ns → ∃ l, vs = strValues l ∧ l.map (·.1) = ns := by
  intro ds
  induction ds with
  | nil => intro vs ns r e; cases r; cases e; exact ⟨[], rfl, rfl⟩
  | cons d ds ih =>
    intro vs ns r e
    cases d with
    | str i =>
      cases r with
      | cons r0 rs =>
        cases r0 with
        | str _ t =>
          obtain ⟨ns', h1, rfl⟩ := Option.map_eq_some_iff.mp e
          obtain ⟨l, rfl, h2⟩ := ih rs h1
          exact ⟨(i, t) :: l, rfl, by simp [h2]⟩
    | _ => cases e
theorem rp_strs {X : List Addr} {h : Heap} : ∀ (l : List (Str × Tok)), RpAll X h (strValues l) ((l.map (·.1)).map .str)
  | [] => .nil
  | (x, t) :: r => .cons (.str x t) (rp_strs r)

noncomputable def lenF : Fn
  | [.lst ds] => some (.int ds.length)
  | [.str x] => if x.length ≤ sizeLine then some (.int x.length) else none
  | _ => none
noncomputable def intF : Fn
  | [.flt b] => match Float64.decode b with
    | .fin sg m e => some (.int (Float64.truncOf sg m e))
    | _ => none
  | _ => none
noncomputable def strF : Fn
  | [.int i] => if i.natAbs < 1000 then some (.str (toString i)) else none
  | _ => none
noncomputable def minF : Fn
  | [.int a, .int b] => some (.int (if b < a then b else a))
  | [.flt x, .flt y, .flt z] => some (.flt (
      let p := if Float64.cmp y x == some .lt then y else x
      if Float64.cmp z p == some .lt then z else p))
  | _ => none
noncomputable def maxF : Fn
  | [.flt x, .flt y, .flt z] => some (.flt (
      let p := if Float64.cmp x y == some .lt then y else x
      if Float64.cmp p z == some .lt then z else p))
  | _ => none
noncomputable def countF : Fn
  | [.lst ds, .int k] => (asInts ds).map fun ns => .int (ns.count k : Nat)
  | _ => none
noncomputable def joinF : Fn
  | [.str x, .lst ds] => match asStrs ds with
    | some ts => if JoinOk x ts then some (.str (Txt.join x ts)) else none
    | none => none
  | _ => none
noncomputable def splitF : Fn
  | [.str x, .str y] => if (y.length == 0) = false ∧ x.length ≤ sizeLine ∧ (partsBetween x (occurrences x y 0 x.length (x.length + 1)) y.length).length ≤ sizeLine then some (.lst ((Txt.split x y).map .str)) else none
  | _ => none

section
variable {c : Cx} {lvl : Nat}

theorem sl63 : (sizeLine : Int) < 2 ^ 63 := by rw [sizeLine_eq]; decide

theorem meets_len : Meets1 c lvl (.builtin "len") lenF := by
  intro A X s vals ds d E Q R hG htk L r hr h
  cases r with
  | nil => cases hr
  | cons r0 rs =>
    cases r0 with
    | lst hx h1 h2 h3 =>
      cases rs with
      | cons _ _ => cases hr
      | nil =>
        cases hr
        have := sl63
        refine call_len_list (items := (_ : List Value).toArray) ⟨_, h1, rfl, _, rfl⟩ (by simp; omega) (h _ _ ?_)
        simp only [List.size_toArray, h3.length]
        exact ⟨Keeps.tok _ _, .int _ _⟩
    | str x t =>
      cases rs with
      | cons _ _ => cases hr
      | nil =>
        change ite _ _ _ = _ at hr
        split at hr
        · rename_i hl
          cases hr
          have := sl63
          exact len_str (by omega) (h _ _ ⟨Keeps.tok _ _, .int _ _⟩)
        · cases hr
    | _ => cases hr

theorem meets_int : Meets1 c lvl (.type "int") intF := by
  intro A X s vals ds d E Q R hG htk L r hr h
  cases r with
  | nil => cases hr
  | cons r0 rs =>
    cases r0 with
    | flt b t ht =>
      cases rs with
      | cons _ _ => cases hr
      | nil =>
        change (match Float64.decode b with
          | .fin sg m e => some (D.int (Float64.truncOf sg m e))
          | _ => none) = _ at hr
        split at hr
        · rename_i hd
          cases hr
          exact call_int_float hd (h _ _ ⟨Keeps.tok _ _, .int _ _⟩)
        · cases hr
    | _ => cases hr

theorem meets_str : Meets1 c lvl (.type "str") strF := by
  intro A X s vals ds d E Q R hG htk L r hr h
  cases r with
  | nil => cases hr
  | cons r0 rs =>
    cases r0 with
    | int i t =>
      cases rs with
      | cons _ _ => cases hr
      | nil =>
        change ite _ _ _ = _ at hr
        split at hr
        · rename_i hi
          cases hr
          exact str_of_int_fit (N := 1000) (by split <;> omega) (by decide) fun _ => h _ _ ⟨Keeps.tok _ _, .str _ _⟩
        · cases hr
    | _ => cases hr

theorem meets_count : Meets1 c lvl (.builtin "list.count") countF := by
  intro A X s vals ds d E Q R hG htk L r hr h
  cases r with
  | nil => cases hr
  | cons r0 rs =>
    cases r0 with
    | lst hx g1 g2 g3 =>
      cases rs with
      | nil => cases hr
      | cons r1 rs =>
        cases r1 with
        | int k t =>
          cases rs with
          | cons _ _ => cases hr
          | nil =>
            obtain ⟨ns, h1, rfl⟩ := Option.map_eq_some_iff.mp hr
            exact count_list_ints ⟨_, g1, rfl, _, rfl⟩ (ints_are g3 h1) (h _ _ ⟨Keeps.tok _ _, .int _ _⟩)
        | _ => cases hr
    | _ => cases hr

theorem meets_join : Meets1 c lvl (.builtin "str.join") joinF := by
  intro A X s vals ds d E Q R hG htk L r hr h
  cases r with
  | nil => cases hr
  | cons r0 rs =>
    cases r0 with
    | str x t =>
      cases rs with
      | nil => cases hr
      | cons r1 rs =>
        cases r1 with
        | @lst _ _ _ ds hx g1 g2 g3 =>
          cases rs with
          | cons _ _ => cases hr
          | nil =>
            change (match asStrs ds with
              | some ts => if JoinOk x ts then some (D.str (Txt.join x ts)) else none
              | none => none) = _ at hr
            split at hr
            · rename_i ts hts
              split at hr
              · rename_i hok
                cases hr
                obtain ⟨l, rfl, hl⟩ := strs_are g3 hts
                exact SC.join ⟨_, g1, rfl, _, rfl⟩ hl hok fun t' k => h _ _ ⟨Keeps.tok _ _, .str _ _⟩
              · cases hr
            · cases hr
        | _ => cases hr
    | _ => cases hr

theorem out_strs {X : List Addr} {s : Shared} {l : List (Str × Tok)} {tk : Nat} {ts : List Str} (L : Low X s.heap) (hl : l.map (·.1) = ts) (hn : ts.length ≤ sizeLine) :
    Out X s (.lst (ts.map .str)) (.ref s.heap.objs.size) { s with toks := tk, heap := s.heap.push { cls := .type "list", data := .seq (strValues l).toArray } } := by
  subst hl
  exact ⟨Keeps.mk' (HKeep.push _ _), .lst L.new (Heap.get?_push_size _ rfl) (by unfold strValues; simpa using hn) (rp_strs l)⟩

theorem meets_split : Meets1 c lvl (.builtin "str.split") splitF := by
  intro A X s vals ds d E Q R hG htk L r hr h
  cases r with
  | nil => cases hr
  | cons r0 rs =>
    cases r0 with
    | str x t =>
      cases rs with
      | nil => cases hr
      | cons r1 rs =>
        cases r1 with
        | str y u =>
          cases rs with
          | cons _ _ => cases hr
          | nil =>
            change ite _ _ _ = _ at hr
            split at hr
            · rename_i hc
              obtain ⟨hy, hx, hp⟩ := hc
              cases hr
              have one : (1 : Nat) ≤ sizeLine := by rw [sizeLine_eq]; decide
              cases h1 : (decide (x.length < y.length) || decide (strKind x < strKind y))
              · cases hf : (occurrences x y 0 x.length (x.length + 1)).isEmpty
                · refine call_meets F.slot_str_split (typeIs_str _ _ _) F.entry_str_split (F.args_str_split_2 _ _) (meets_str_split_sep x y t u h1 hy hf hx hp) ?_
                  show wants Q E _ { s with toks := _, heap := s.heap.push { cls := .type "list", data := .seq (strsFrom s.toks (partsBetween x (occurrences x y 0 x.length (x.length + 1)) y.length)).toArray } }
                  rw [strsFrom_eq]
                  have ht : Txt.split x y = partsBetween x (occurrences x y 0 x.length (x.length + 1)) y.length := (if_neg (ne_true_of_eq_false h1)).trans (if_neg (ne_true_of_eq_false hf))
                  refine h _ _ (out_strs L ((numbered_texts _ _).trans ht.symm) ?_)
                  rw [ht]; exact hp
                · have ht : Txt.split x y = [x] := (if_neg (ne_true_of_eq_false h1)).trans (if_pos hf)
                  refine call_meets F.slot_str_split (typeIs_str _ _ _) F.entry_str_split (F.args_str_split_2 _ _) (meets_str_split_not_found x y t u h1 hy hf) (h _ _ (out_strs (l := [(x, t)]) (tk := s.toks) L ht.symm ?_))
                  rw [ht]; exact one
              · have ht : Txt.split x y = [x] := if_pos h1
                refine call_meets F.slot_str_split (typeIs_str _ _ _) F.entry_str_split (F.args_str_split_2 _ _) (meets_str_split_cannot_occur x y t u h1) (h _ _ (out_strs (l := [(x, t)]) (tk := s.toks) L ht.symm ?_))
                rw [ht]; exact one
            · cases hr
        | _ => cases hr
    | _ => cases hr

theorem ltV_flt {x y : UInt64} {t u : Tok} : Flt.ltV (.float x t) (.float y u) = (Float64.cmp x y == some .lt) := rfl
theorem max_three_num {prog : Program} {w : World} {A : Around} {E : Value → Shared → Prop} {s : Shared} {Q : Value → Shared → Prop} {x y z : UInt64} {t u v : Tok} (hh : A.handled = none)
    (h : ∀ h' tk, HKeep s.heap h' → Q (
      let p := if Float64.cmp x y == some .lt then Value.float y u else .float x t
      if Flt.ltV p (.float z v) then .float z v else p) { s with heap := h', toks := tk }) :
    wpAny (model prog w) A (call (.builtin "max") [.float x t, .float y u, .float z v]) Q E s := by
  have hT : (s.heap.push { cls := .type "tuple", data := .seq #[.float x t, .float y u, .float z v] }).IsTuple s.heap.objs.size #[.float x t, .float y u, .float z v] := ⟨_, Heap.get?_push_size _ rfl, rfl, 0, rfl⟩
  refine call_max_three (wpAny_pyIter_tuple hT ?_)
  have hsz : (s.heap.push { cls := .type "tuple", data := .seq #[.float x t, .float y u, .float z v] }).objs.size = s.heap.objs.size + 1 := Heap.size_push ..
  refine ⟨_, [_, s.heap.objs.size], [_], _, _, _, _, rfl, Walks.tuple (A := A.in1) hh _ s.heap.objs.size (by rw [hsz]; exact Nat.ne_of_lt (Nat.lt_succ_self _)) #[.float x t, .float y u, .float z v],
    ⟨⟨_, Heap.get?_push_size _ rfl, rfl, rfl⟩, hT.push _⟩, fun c hc => ?_, by simp, Flt.cmpOf_gt #[.float x t, .float y u, .float z v] (by simp [Flt.NumV.float]), fun r h' tk hP hk => ?_⟩
  · show c < ((s.heap.push _).push _).objs.size
    rw [Heap.size_push, hsz]
    rcases List.mem_cons.mp hc with rfl | hc
    · rw [hsz]; exact Nat.lt_succ_self _
    · rcases List.mem_cons.mp hc with rfl | hc
      · exact Nat.lt_succ_of_lt (Nat.lt_succ_self _)
      · cases hc
  · have hold : HKeep s.heap h' := fun c o e => by
      refine hk c o (fun hm => ?_) (Heap.get?_push_of_some _ (Heap.get?_push_of_some _ e))
      rcases List.mem_cons.mp hm with e1 | hm
      · have := Heap.lt_size e; rw [e1, hsz] at this; exact Nat.lt_irrefl _ (Nat.lt_of_succ_lt this)
      · cases hm
    have := h h' tk hold
    have hv : r = (let p := if Float64.cmp x y == some .lt then Value.float y u else .float x t
      if Flt.ltV p (.float z v) then .float z v else p) := by
      cases hc : (Float64.cmp x y == some .lt)
      · cases hd : (Float64.cmp x z == some .lt) <;> simp [argBest, ltV_flt, hc, hd] at hP <;> subst hP <;> simp [ltV_flt, hd]
      · cases hd : (Float64.cmp y z == some .lt) <;> simp [argBest, ltV_flt, hc, hd] at hP <;> subst hP <;> simp [ltV_flt, hd]
    rw [hv]; exact this

theorem min_three_num {prog : Program} {w : World} {A : Around} {E : Value → Shared → Prop} {s : Shared} {Q : Value → Shared → Prop} {x y z : UInt64} {t u v : Tok} (hh : A.handled = none)
    (h : ∀ h' tk, HKeep s.heap h' → Q (
      let p := if Float64.cmp y x == some .lt then Value.float y u else .float x t
      if Flt.ltV (.float z v) p then .float z v else p) { s with heap := h', toks := tk }) :
    wpAny (model prog w) A (call (.builtin "min") [.float x t, .float y u, .float z v]) Q E s := by
  have hT : (s.heap.push { cls := .type "tuple", data := .seq #[.float x t, .float y u, .float z v] }).IsTuple s.heap.objs.size #[.float x t, .float y u, .float z v] := ⟨_, Heap.get?_push_size _ rfl, rfl, 0, rfl⟩
  refine call_min_three (wpAny_pyIter_tuple hT ?_)
  have hsz : (s.heap.push { cls := .type "tuple", data := .seq #[.float x t, .float y u, .float z v] }).objs.size = s.heap.objs.size + 1 := Heap.size_push ..
  refine ⟨_, [_, s.heap.objs.size], [_], _, _, _, _, rfl, Walks.tuple (A := A.in1) hh _ s.heap.objs.size (by rw [hsz]; exact Nat.ne_of_lt (Nat.lt_succ_self _)) #[.float x t, .float y u, .float z v],
    ⟨⟨_, Heap.get?_push_size _ rfl, rfl, rfl⟩, hT.push _⟩, fun c hc => ?_, by simp, Flt.cmpOf_lt #[.float x t, .float y u, .float z v] (by simp [Flt.NumV.float]), fun r h' tk hP hk => ?_⟩
  · show c < ((s.heap.push _).push _).objs.size
    rw [Heap.size_push, hsz]
    rcases List.mem_cons.mp hc with rfl | hc
    · rw [hsz]; exact Nat.lt_succ_self _
    · rcases List.mem_cons.mp hc with rfl | hc
      · exact Nat.lt_succ_of_lt (Nat.lt_succ_self _)
      · cases hc
  · have hold : HKeep s.heap h' := fun c o e => by
      refine hk c o (fun hm => ?_) (Heap.get?_push_of_some _ (Heap.get?_push_of_some _ e))
      rcases List.mem_cons.mp hm with e1 | hm
      · have := Heap.lt_size e; rw [e1, hsz] at this; exact Nat.lt_irrefl _ (Nat.lt_of_succ_lt this)
      · cases hm
    have := h h' tk hold
    have hv : r = (let p := if Float64.cmp y x == some .lt then Value.float y u else .float x t
      if Flt.ltV (.float z v) p then .float z v else p) := by
      cases hc : (Float64.cmp y x == some .lt)
      · cases hd : (Float64.cmp z x == some .lt) <;> simp [argBest, ltV_flt, hc, hd] at hP <;> subst hP <;> simp [ltV_flt, hd]
      · cases hd : (Float64.cmp z y == some .lt) <;> simp [argBest, ltV_flt, hc, hd] at hP <;> subst hP <;> simp [ltV_flt, hd]
    rw [hv]; exact this

theorem meets_max : Meets1 c lvl (.builtin "max") maxF := by
  intro A X s vals ds d E Q R hG htk L r hr h
  cases r with
  | nil => cases hr
  | cons r0 rs =>
    cases r0 with
    | flt x t ht =>
      cases rs with
      | nil => cases hr
      | cons r1 rs =>
        cases r1 with
        | flt y u hu =>
          cases rs with
          | nil => cases hr
          | cons r2 rs =>
            cases r2 with
            | flt z v hv =>
              cases rs with
              | cons _ _ => cases hr
              | nil =>
                cases hr
                refine max_three_num R.hd fun h' tk hk => h _ _ ⟨Keeps.mk' hk, ?_⟩
                cases hc : (Float64.cmp x y == some .lt)
                · cases hd : (Float64.cmp x z == some .lt) <;> simp [ltV_flt, hd] <;> exact .flt _ _ (by assumption)
                · cases hd : (Float64.cmp y z == some .lt) <;> simp [ltV_flt, hd] <;> exact .flt _ _ (by assumption)
            | _ => cases hr
        | _ => cases hr
    | _ => cases hr

theorem meets_min : Meets1 c lvl (.builtin "min") minF := by
  intro A X s vals ds d E Q R hG htk L r hr h
  cases r with
  | nil => cases hr
  | cons r0 rs =>
    cases r0 with
    | int a t =>
      cases rs with
      | nil => cases hr
      | cons r1 rs =>
        cases r1 with
        | int b u =>
          cases rs with
          | cons _ _ => cases hr
          | nil =>
            cases hr
            refine min_two_ints R.hd fun h' tk hk => h _ _ ⟨Keeps.mk' hk, ?_⟩
            split <;> exact .int _ _
        | _ => cases hr
    | flt x t ht =>
      cases rs with
      | nil => cases hr
      | cons r1 rs =>
        cases r1 with
        | flt y u hu =>
          cases rs with
          | nil => cases hr
          | cons r2 rs =>
            cases r2 with
            | flt z v hv =>
              cases rs with
              | cons _ _ => cases hr
              | nil =>
                cases hr
                refine min_three_num R.hd fun h' tk hk => h _ _ ⟨Keeps.mk' hk, ?_⟩
                cases hc : (Float64.cmp y x == some .lt)
                · cases hd : (Float64.cmp z x == some .lt) <;> simp [ltV_flt, hd] <;> exact .flt _ _ (by assumption)
                · cases hd : (Float64.cmp z y == some .lt) <;> simp [ltV_flt, hd] <;> exact .flt _ _ (by assumption)
            | _ => cases hr
        | _ => cases hr
    | _ => cases hr

end
end Mine
end

section
open PySem PySem.W PyProof.Rows PySem.SeqAt PySem.Calls
set_option linter.unusedVariables false
set_option linter.unusedSimpArgs false
set_option maxRecDepth 100000
namespace Mine

noncomputable def sumF : Fn
  | [.lst ds] => match asInts ds with
    | some ns => some (.int ns.sum)
    | none => match asFlts ds with
      | some (b :: bs) => some (.flt (Flt.sumOf (b :: bs)))
      | _ => none
  | _ => none

section
variable {prog : Program} {w : World} {A : Around} {R : Result → Shared → Prop} {I : Addr} {fp wr : List Addr} {G : Array GenState → Array GenState → Prop} {P : Nat → Value → Prop} {St : Nat → Shared → Prop}

/-- the loop of sum once the total is a float: the total's token is not 0 -/
theorem sum_loop_flt {bs : List UInt64} (W : WalksS prog w A.in1 I fp wr G bs.length P St) (hval : ∀ i v, P i v → ∃ b t, v = .float b t ∧ bs[i]? = some b) (S : Addr) (hSf : S ∉ fp) :
    ∀ (k i : Nat) (s : Shared) (b : UInt64) (t : Tok) (c : UInt64) (cap : Nat), 0 < s.toks → bs.length - i = k → i ≤ bs.length → St i s → s.heap.get? S = some { cls := .type "list", data := .seq #[.float b t] cap } →
    (∀ s' t', t' ≠ 0 → Moved (S :: wr) G s s' → R (.ok (.ret (.float (Flt.sumBits (bs.drop i) b c) t'))) s') →
    codeAny (model prog w) A (.builtin "sum.loop" ⟨[.ref I, .ref S, rawInt 1, rawInt (c.toNat : Int)], []⟩) R s := by
  have hSw : S ∉ wr := fun h => hSf (W.sub _ h)
  have hsub : ∀ b ∈ wr, b ∈ S :: wr := fun b hb => List.mem_cons_of_mem _ hb
  intro k
  induction k with
  | zero =>
    intro i s b t c cap htk hk hi hst hS hR
    have hin : i = bs.length := by omega
    subst hin
    rw [List.drop_length] at hR
    refine codeAny_builtin F.entry_sum_loop ?_
    rw [Around.under_plainId F.plain_sum_loop _]
    show wpAny _ A.in1 (seqItems? (.ref S) >>= _) _ _ s
    refine wpAny_bind (wpAny_seqItems hS rfl ?_)
    show wpAny _ A.in1 (tryCatch (pyNext (.ref I)) _ >>= _) _ _ s
    refine wpAny_bind (wpAny_tryCatch (W.done s _ _ hst fun s' hm => ?_))
    show wpAny _ A.in1 (mkFloat (Num.settled b ((c.toNat : Int)).toNat.toUInt64) >>= _) _ _ s'
    rw [Flt.comp_back]
    exact wpAny_bind (Flt.wp_mkFloat (wpAny_pure (hR { s' with toks := s'.toks + 1 } _ (Nat.ne_of_gt (Nat.lt_of_lt_of_le htk hm.toks)) ((hm.mono hsub).then_heap (Nat.le_succ _) fun _ _ _ e => e))))
  | succ k ih =>
    intro i s b t c cap htk hk hi hst hS hR
    have hlt : i < bs.length := by omega
    refine codeAny_builtin F.entry_sum_loop ?_
    rw [Around.under_plainId F.plain_sum_loop _]
    show wpAny _ A.in1 (seqItems? (.ref S) >>= _) _ _ s
    refine wpAny_bind (wpAny_seqItems hS rfl ?_)
    show wpAny _ A.in1 (tryCatch (pyNext (.ref I)) _ >>= _) _ _ s
    refine wpAny_bind (wpAny_tryCatch (W.item i s _ _ hlt hst fun v s' hP hst' hm => ?_))
    obtain ⟨x, u, rfl, hx⟩ := hval i v hP
    have hdrop : bs.drop i = x :: bs.drop (i + 1) := by rw [List.drop_eq_getElem_cons hlt]; congr 1; exact Option.some.inj ((List.getElem?_eq_getElem hlt).symm.trans hx)
    rw [hdrop] at hR
    have hS' := hm.heap S _ hSw hS
    refine wpAny_bind (wpAny_rule ?_)
    simp only [Flt.comp_back]
    refine wpAny_bind (Flt.wp_mkFloat ?_)
    refine wpAny_bind (wpAny_updateSeq hS' rfl (wpAny_pure ⟨plainId_quiet F.plain_sum_loop _, ?_⟩))
    refine ih (i + 1) _ _ _ _ _ (Nat.lt_succ_of_le (Nat.zero_le _)) (by omega) hlt (W.frame _ s' _ _ hst' (Nat.le_succ _) fun b hb o e => (Heap.get?_update_other _ _ (fun h : S = b => hSf (by rw [h]; exact hb))).trans e) (Heap.get?_update_self _ hS' rfl) ?_
    intro s'' t'' ht'' hm''
    exact hR s'' t'' ht'' (Moved.trans W.gtrans ((hm.mono hsub).then_heap (Nat.le_succ _) fun b o hb e => (Heap.get?_update_other _ _ (fun h : S = b => hb (by rw [h]; exact List.mem_cons_self))).trans e) hm'')

/-- the first round of sum's loop over floats: 0 + the first -/
theorem sum_loop_first {x : UInt64} {bs : List UInt64} (W : WalksS prog w A.in1 I fp wr G (x :: bs).length P St) (hval : ∀ i v, P i v → ∃ b t, v = .float b t ∧ (x :: bs)[i]? = some b) (S : Addr) (hSf : S ∉ fp)
    (s : Shared) (t : Tok) (cap : Nat) (htk : 0 < s.toks) (hst : St 0 s) (hS : s.heap.get? S = some { cls := .type "list", data := .seq #[.int 0 t] cap })
    (hR : ∀ s' t', t' ≠ 0 → Moved (S :: wr) G s s' → R (.ok (.ret (.float (Flt.sumOf (x :: bs)) t'))) s') :
    codeAny (model prog w) A (.builtin "sum.loop" ⟨[.ref I, .ref S, rawInt 0, rawInt 0], []⟩) R s := by
  have hSw : S ∉ wr := fun h => hSf (W.sub _ h)
  have hsub : ∀ b ∈ wr, b ∈ S :: wr := fun b hb => List.mem_cons_of_mem _ hb
  refine codeAny_builtin F.entry_sum_loop ?_
  rw [Around.under_plainId F.plain_sum_loop _]
  show wpAny _ A.in1 (seqItems? (.ref S) >>= _) _ _ s
  refine wpAny_bind (wpAny_seqItems hS rfl ?_)
  show wpAny _ A.in1 (tryCatch (pyNext (.ref I)) _ >>= _) _ _ s
  refine wpAny_bind (wpAny_tryCatch (W.item 0 s _ _ (Nat.succ_pos _) hst fun v s' hP hst' hm => ?_))
  obtain ⟨y, u, rfl, hy⟩ := hval 0 v hP
  cases hy
  have hS' := hm.heap S _ hSw hS
  have f0 : ¬ Float64.isInf (Float64.ofInt 0) = true := by decide +kernel
  refine wpAny_bind (wpAny_rule ?_)
  refine wpAny_bind (wpAny_attempt (wpAny_holding (AutoFloatOps.add_if_1 f0 ?_)))
  show wpAny _ A.in1 (updateSeq S (fun _ => #[_]) >>= _) _ _ _
  refine wpAny_bind (wpAny_updateSeq hS' rfl ?_)
  have hS₂ := Heap.get?_update_self (Obj.mapSeq fun _ => #[Value.float (Float64.add (Float64.ofInt 0) x) s'.toks]) hS' rfl
  refine wpAny_bind (wpAny_letGo ?_)
  refine wpAny_bind (wpAny_updateSeq hS₂ rfl (wpAny_pure ⟨plainId_quiet F.plain_sum_loop _, ?_⟩))
  have key := sum_loop_flt (R := R) W hval S hSf bs.length 1 { s' with heap := ((s'.heap.update S (Obj.mapSeq fun _ => #[Value.float (Float64.add (Float64.ofInt 0) x) s'.toks])).update S (Obj.mapSeq fun _ => #[Value.float (Float64.add (Float64.ofInt 0) x) s'.toks])), toks := s'.toks + 1 } (Float64.add (Float64.ofInt 0) x) s'.toks 0 _ (Nat.succ_pos _) (by simp) (by simp)
    (W.frame _ s' _ _ hst' (Nat.le_succ _) fun b hb o e => (Heap.get?_update_other _ _ (fun h : S = b => hSf (by rw [h]; exact hb))).trans ((Heap.get?_update_other _ _ (fun h : S = b => hSf (by rw [h]; exact hb))).trans e)) (Heap.get?_update_self _ hS₂ rfl) ?_
  · exact key
  · intro s'' t'' ht'' hm''
    exact hR s'' t'' ht'' (Moved.trans W.gtrans ((hm.mono hsub).then_heap (Nat.le_succ _) fun b o hb e => (Heap.get?_update_other _ _ (fun h : S = b => hb (by rw [h]; exact List.mem_cons_self))).trans ((Heap.get?_update_other _ _ (fun h : S = b => hb (by rw [h]; exact List.mem_cons_self))).trans e)) hm'')
end

section
variable {prog : Program} {w : World} {A : Around} {E : Value → Shared → Prop} {s : Shared}
theorem call_sum_flts {v : Value} {x : UInt64} {bs : List UInt64} {Q : Value → Shared → Prop} (htk : 0 < s.toks)
    (h : wpAny (model prog w) A.in1 (pyIter v) (fun it s₂ => ∃ I fp wr G P St, it = .ref I ∧ WalksS prog w A.in1 I fp wr G (x :: bs).length P St ∧ St 0 s₂ ∧ (∀ b ∈ fp, b < s₂.heap.objs.size) ∧
      (∀ i v, P i v → ∃ b t, v = .float b t ∧ (x :: bs)[i]? = some b) ∧ ∀ s' t', t' ≠ 0 → Moved wr G s₂ s' → Q (.float (Flt.sumOf (x :: bs)) t') s') E s) :
    wpAny (model prog w) A (call (.builtin "sum") [v]) Q E s := by
  refine call_function_tree F.kind_sum F.plain_sum F.entry_sum (F.args_sum1 _) ?_
  unfold Builtin.«sum»
  simp only [List.length_cons, List.length_nil]
  rw [if_neg (by decide)]
  refine wpAny_bind (wpAny_of_eq (show Builtin.Builtins.bindParams "sum" ["start"] 0 { } = pure [none] from rfl) ?_)
  refine wpAny_bind (wpAny_mono h (fun it s₂ h₂ => ?_) fun _ _ e => e)
  obtain ⟨I, fp, wr, G, P, St, rfl, W, hst, hfp, hval, hQ⟩ := h₂
  refine wpAny_bind (wpAny_mkInt ?_)
  refine wpAny_bind (wpAny_pure ?_)
  simp only [List.forIn_cons, List.forIn_nil]
  refine wpAny_bind (wpAny_bind (wpAny_bind (wpAny_isInstance (T := "int") (b := false) (typeIs_int _ _ _) PySem.sub_int_str ?_)))
  simp only [Bool.false_eq_true, if_false]
  refine wpAny_pure (wpAny_bind (wpAny_bind (wpAny_isInstance (T := "int") (b := false) (typeIs_int _ _ _) PySem.sub_int_bytes ?_)))
  simp only [Bool.false_eq_true, if_false]
  refine wpAny_pure (wpAny_bind (wpAny_bind (wpAny_isInstance (T := "int") (b := false) (typeIs_int _ _ _) PySem.sub_int_bytearray ?_)))
  simp only [Bool.false_eq_true, if_false]
  refine wpAny_pure (wpAny_pure ?_)
  refine wpAny_bind (wpAny_newObj_type ?_)
  have hSf : s₂.heap.objs.size ∉ fp := fun hm => Nat.lt_irrefl _ (hfp _ hm)
  refine wpAny_pure ⟨plainId_quiet F.plain_sum_loop _, sum_loop_first W hval s₂.heap.objs.size hSf _ _ 0 (Nat.succ_pos _) (W.frame 0 s₂ _ _ hst (Nat.le_succ _) fun b _ o e => Heap.get?_push_of_some _ e) (Heap.get?_push_size _ rfl) fun s' t' ht' hm => ?_⟩
  exact hQ s' t' ht' (hm.drop_new (Nat.le_succ _))
end

section
variable {c : Cx} {lvl : Nat}
theorem preSum_ints : ∀ (ns : List Int), preSum (fun i => (ns[i]?).getD 0) ns.length = ns.sum := by
  intro ns
  have : ∀ (k : Nat), k ≤ ns.length → preSum (fun i => (ns[i]?).getD 0) k = (ns.take k).sum := by
    intro k
    induction k with
    | zero => intro _; rfl
    | succ k ih =>
      intro hk
      rw [List.take_add_one, List.sum_append_int]
      show preSum _ k + _ = _
      rw [ih (by omega), List.getElem?_eq_getElem (by omega)]
      simp [List.getElem?_eq_getElem (show k < ns.length by omega)]
  rw [this _ (Nat.le_refl _), List.take_length]

theorem keeps_moved {s s' : Shared} {l : Addr} (hm : Moved [s.heap.objs.size] (fun a b => b = a) { s with heap := s.heap.push { cls := .type "list_iterator", data := .fields #[.ref l, .int 0 0] } } s') : Keeps s s' := by
  obtain ⟨hp, g, d, tk, os⟩ := s'
  have e1 : g = s.gens := hm.gens
  have e2 : d = s.drawn := hm.drawn
  have e3 : os = s.os := hm.os
  subst e1 e2 e3
  exact ⟨hp, tk, rfl, Flt.kept_iter hm.heap⟩

theorem ints_at : ∀ {vs : List Value} {ns : List Int}, IntsAre vs ns → ∀ (i : Nat) (v : Value), vs[i]? = some v → ∃ n t, v = .int n t ∧ ns[i]? = some n
  | _, _, .nil, i, v, h => by simp at h
  | _, _, .cons n t _, 0, v, h => ⟨n, t, (Option.some.inj h).symm, rfl⟩
  | _, _, .cons _ _ k, i + 1, v, h => ints_at k i v h

theorem meets_sum : Meets1 c lvl (.builtin "sum") sumF := by
  intro A X s vals ds d E Q R hG htk L r hr h
  unfold sumF at hr
  split at hr
  · cases r with
    | cons r0 rs =>
      cases rs
      cases r0 with
      | @lst a n vs ds hx h1 h2 h3 =>
        have hl : s.heap.IsList a vs.toArray := ⟨_, h1, rfl, _, rfl⟩
        split at hr
        · rename_i ns hns
          cases hr
          have hi := ints_are h3 hns
          refine call_sum_walkAnyS (Flt.iter_list_ hl fun s₂ e st hfp hlI => ?_)
          subst e
          have W := (Walks.list (prog := c.prog) (w := c.w) (A := A.in1) R.hd _ a hlI vs.toArray).toS
          refine ⟨_, _, _, _, _, _, _, fun i => (ns[i]?).getD 0, rfl, W, st, hfp, fun i v hP => ?_, fun s' t' hm => h _ _ ⟨keeps_moved hm, ?_⟩⟩
          · obtain ⟨m, t, rfl, e⟩ := ints_at hi i v (by simpa using hP)
            exact ⟨t, by simp [e]⟩
          · have : vs.toArray.size = ns.length := by simpa using hi.length
            rw [this, preSum_ints]
            exact .int _ _
        · split at hr
          · rename_i b bs hbs
            cases hr
            have hf := flts_are h3 hbs
            refine call_sum_flts (x := b) (bs := bs) htk (Flt.iter_list_ hl fun s₂ e st hfp hlI => ?_)
            subst e
            have W := (Walks.list (prog := c.prog) (w := c.w) (A := A.in1) R.hd _ a hlI vs.toArray).toS
            have hlen : vs.toArray.size = (b :: bs).length := by simpa using hf.length
            rw [hlen] at W
            refine ⟨_, _, _, _, _, _, rfl, W, st, hfp, fun i v hP => ?_, fun s' t' ht' hm => h _ _ ⟨keeps_moved hm, .flt _ _ ht'⟩⟩
            obtain ⟨b', t, rfl, e⟩ := hf.at i v (by simpa using hP)
            exact ⟨b', t, rfl, e⟩
          · cases hr
  · cases hr
end
end Mine
end

section
open PySem PySem.W PyProof.Rows
set_option maxRecDepth 100000
set_option maxHeartbeats 4000000
namespace Mine
open Float64

/-- the float x is the number (-1)^neg * n / 32 -/
noncomputable def Is32 (neg : Bool) (x : UInt64) (n : Nat) : Prop := ∃ t, x = pack neg t ∧ t < infMag ∧ V t = n * 2 ^ 1069

theorem V_inj {a b : Nat} (h : V a = V b) : a = b := by
  rcases Nat.lt_trichotomy a b with h' | h' | h'
  · have := V_lt h'; omega
  · exact h'
  · have := V_lt h'; omega
theorem Is32.uniq {neg : Bool} {x y : UInt64} {n : Nat} (a : Is32 neg x n) (b : Is32 neg y n) : x = y := by
  obtain ⟨t, rfl, _, h1⟩ := a
  obtain ⟨u, rfl, _, h2⟩ := b
  rw [V_inj (h1.trans h2.symm)]
theorem Is32.dec {neg : Bool} {x : UInt64} {n : Nat} (a : Is32 neg x n) : (∃ m e, decode x = .fin neg m e) ∧ val x = sgn neg (n * 2 ^ 1069) := by
  obtain ⟨t, rfl, h, h1⟩ := a
  obtain ⟨m, e, hd, _⟩ := decode_pack neg h
  exact ⟨⟨m, e, hd⟩, by rw [val_pack neg h, h1]⟩
theorem big32 : 8192 * 2 ^ 1069 < (2 ^ 54 - 1) * 2 ^ 2045 := by decide +kernel
theorem right_is {neg : Bool} {r : UInt64} {W n : Nat} {t : Nat} (R : Right r neg W 1) (hV : V t = W) (hn : W = n * 2 ^ 1069) (hs : n ≤ 4096) : Is32 neg r n := by
  obtain ⟨t0, rfl, h1, h2, h3⟩ := R
  have hlt : t0 < infMag := by
    rcases Nat.lt_or_ge t0 infMag with h | h
    · exact h
    · exfalso
      have h4 := h2.mp (Nat.le_antisymm h1 h)
      have b := big32
      rw [hn, Nat.one_mul] at h4
      generalize (2 ^ 54 - 1) * 2 ^ 2045 = B at *
      have : n * 2 ^ 1069 ≤ 4096 * 2 ^ 1069 := Nat.mul_le_mul_right _ hs
      generalize 2 ^ 1069 = K at *
      omega
  refine ⟨t0, rfl, hlt, ?_⟩
  have := (h3 hlt t).1
  rw [hV, Nat.one_mul, Nat.one_mul] at this
  unfold Float64.dist at this
  omega
theorem sgnF (n : Nat) : sgn false n = n := rfl
theorem sgnT (n : Nat) : sgn true n = -(n : Int) := rfl
theorem zero_is : Is32 false 0 0 := ⟨0, by decide, by decide, by unfold V; simp⟩
theorem is_zero {x : UInt64} (h : Is32 false x 0) : x = 0 := h.uniq zero_is

theorem add_is {x y z : UInt64} {a b : Nat} (hx : Is32 false x a) (hy : Is32 false y b) (hz : Is32 false z (a + b)) (hs : a + b ≤ 4096) : add x y = z := by
  obtain ⟨⟨m, e, dx⟩, vx⟩ := hx.dec
  obtain ⟨⟨k, f, dy⟩, vy⟩ := hy.dec
  obtain ⟨h0, h1⟩ := add_right dx dy
  rw [vx, vy, sgnF, sgnF] at h0 h1
  by_cases hab : a + b = 0
  · have ha : a = 0 := by omega
    have hb : b = 0 := by omega
    subst ha hb
    rw [h0 (by simp), is_zero hz]; rfl
  · have hne : ((a * 2 ^ 1069 : Nat) : Int) + ((b * 2 ^ 1069 : Nat) : Int) ≠ 0 := by
      have : 0 < 2 ^ 1069 := Nat.two_pow_pos _
      have h5 : 0 < (a + b) * 2 ^ 1069 := Nat.mul_pos (by omega) this
      rw [Nat.add_mul] at h5
      generalize a * 2 ^ 1069 = A at *
      generalize b * 2 ^ 1069 = B at *
      omega
    have R := h1 hne
    have e1 : (((a * 2 ^ 1069 : Nat) : Int) + ((b * 2 ^ 1069 : Nat) : Int)).natAbs = (a + b) * 2 ^ 1069 := by
      rw [Nat.add_mul]
      generalize a * 2 ^ 1069 = A at *
      generalize b * 2 ^ 1069 = B at *
      omega
    have e2 : decide (((a * 2 ^ 1069 : Nat) : Int) + ((b * 2 ^ 1069 : Nat) : Int) < 0) = false := by
      generalize a * 2 ^ 1069 = A at *
      generalize b * 2 ^ 1069 = B at *
      simp; omega
    rw [e1, e2] at R
    obtain ⟨t, _, _, ht⟩ := id hz
    exact (right_is R ht rfl hs).uniq hz
theorem zeroF : zero false = 0 := by decide
/-- (p - r) + q = 0 when r = p + q -/
theorem comp_is {p q r : UInt64} {a b : Nat} (hp : Is32 false p a) (hq : Is32 false q b) (hr : Is32 false r (a + b)) (hs : a + b ≤ 4096) : add (sub p r) q = 0 := by
  obtain ⟨⟨m, e, dp⟩, vp⟩ := hp.dec
  obtain ⟨⟨k, f, dr⟩, vr⟩ := hr.dec
  obtain ⟨h0, h1⟩ := sub_right dp dr
  rw [vp, vr, sgnF, sgnF] at h0 h1
  by_cases hb : b = 0
  · subst hb
    rw [h0 (by simp), is_zero hq]
    exact add_is (a := 0) (b := 0) (by rw [show zero (false && !false) = 0 from by decide]; exact zero_is) zero_is zero_is (by decide)
  · have hpos : 0 < b * 2 ^ 1069 := Nat.mul_pos (by omega) (Nat.two_pow_pos _)
    rw [Nat.add_mul] at h1
    obtain ⟨t, _, _, ht⟩ := id hq
    have R := h1 (by
      generalize a * 2 ^ 1069 = A at *
      generalize b * 2 ^ 1069 = B at *
      omega)
    have e1 : (((a * 2 ^ 1069 : Nat) : Int) - ((a * 2 ^ 1069 + b * 2 ^ 1069 : Nat) : Int)).natAbs = b * 2 ^ 1069 := by
      generalize a * 2 ^ 1069 = A at *
      generalize b * 2 ^ 1069 = B at *
      omega
    have e2 : decide (((a * 2 ^ 1069 : Nat) : Int) - ((a * 2 ^ 1069 + b * 2 ^ 1069 : Nat) : Int) < 0) = true := by
      generalize a * 2 ^ 1069 = A at *
      generalize b * 2 ^ 1069 = B at *
      simp; omega
    rw [e1, e2] at R
    have S := right_is R ht rfl (by omega)
    obtain ⟨⟨m', e', ds⟩, vs⟩ := S.dec
    obtain ⟨⟨k', f', dq⟩, vq⟩ := hq.dec
    have := (add_right ds dq).1 (by rw [vs, vq, sgnF, sgnT]; omega)
    rw [this]; decide

noncomputable def qf (n m : Nat) : UInt64 := Float64.ofFrac false n m
theorem qf_is {n : Nat} (h : n ≤ 4096) : Is32 false (qf n 32) n := by
  have R := ofFrac_right (neg := false) (n := n) (d := 32) (W := n * 2 ^ 1069) (D := 1) (by decide) (by
    have : 2 ^ 1074 = 2 ^ 1069 * 32 := by decide +kernel
    rw [this, Nat.mul_one, Nat.mul_assoc]) (by decide)
  obtain ⟨k, q, hkq⟩ : ∃ k q, V (k * 2 ^ 52 + q) = n * 2 ^ 1069 := by
    by_cases hn : n = 0
    · exact ⟨0, 0, by subst hn; unfold V; simp⟩
    · refine ⟨1069 + n.log2 - 52, n * 2 ^ (52 - n.log2), ?_⟩
      have hl : n.log2 ≤ 12 := by
        have := Nat.log2_lt (n := n) (k := 13) hn
        omega
      have h1 : 2 ^ n.log2 ≤ n := Nat.log2_self_le hn
      have h2 : n < 2 ^ (n.log2 + 1) := Nat.lt_log2_self
      rw [V_at]
      · rw [Nat.mul_assoc, ← Nat.pow_add]
        congr 2
        omega
      · calc n * 2 ^ (52 - n.log2) ≤ 2 ^ (n.log2 + 1) * 2 ^ (52 - n.log2) := Nat.mul_le_mul_right _ (Nat.le_of_lt h2)
          _ = 2 ^ 53 := by rw [← Nat.pow_add]; congr 1; omega
      · left
        calc 2 ^ 52 = 2 ^ n.log2 * 2 ^ (52 - n.log2) := by rw [← Nat.pow_add]; congr 1; omega
          _ ≤ n * 2 ^ (52 - n.log2) := Nat.mul_le_mul_right _ h1
  exact right_is R hkq rfl h

theorem sum_step : ∀ (l : List Nat) (a : Nat), a + l.sum ≤ 4096 → Flt.sumBits (l.map fun n => qf n 32) (qf a 32) 0 = qf (a + l.sum) 32
  | [], a, _ => by
    show Num.settled (qf a 32) 0 = _
    unfold Num.settled
    rw [if_neg (by decide +kernel)]; rfl
  | b :: l, a, h => by
    simp only [List.sum_cons] at h ⊢
    rw [List.map_cons, Flt.sumBits]
    have ha := qf_is (n := a) (by omega)
    have hb := qf_is (n := b) (by omega)
    have hc := qf_is (n := a + b) (by omega)
    rw [add_is ha hb hc (by omega)]
    have c1 := comp_is ha hb hc (by omega)
    have c2 := comp_is hb ha (by rw [Nat.add_comm]; exact hc) (by omega)
    rw [c1, c2]
    have z : add 0 0 = 0 := add_is zero_is zero_is zero_is (by decide)
    simp only [ite_self, z]
    rw [sum_step l (a + b) (by omega), Nat.add_assoc]
theorem sum_is {l : List Nat} (h : l.sum ≤ 4096) (hl : l ≠ []) : Flt.sumOf (l.map fun n => qf n 32) = qf l.sum 32 := by
  cases l with
  | nil => exact absurd rfl hl
  | cons a l =>
    simp only [List.sum_cons] at h
    rw [List.map_cons, Flt.sumOf]
    have e : Float64.add (Float64.ofInt 0) (qf a 32) = qf a 32 := by
      rw [show Float64.ofInt 0 = 0 by decide +kernel]
      exact add_is zero_is (qf_is (by omega)) (by rw [Nat.zero_add]; exact qf_is (by omega)) (by omega)
    rw [e, sum_step l a (by omega)]; rfl
noncomputable def divChk : Bool := [1, 2, 4, 8].all fun n => (List.range 33).all fun s => Float64.div (qf (n * s) 32) (Float64.ofInt (n : Nat)) == qf s 32
theorem divChk_ok : divChk = true := by decide +kernel
theorem mean_is {l : List Nat} {n s : Nat} (hn : l.length = n) (h4 : n ∈ [1, 2, 4, 8]) (hs : s ≤ 32) (hsum : l.sum = n * s) : Float64.div (Flt.sumOf (l.map fun n => qf n 32)) (Float64.ofInt (l.length : Nat)) = qf s 32 := by
  have hl : l ≠ [] := fun e => by subst e; simp at hn; subst hn; simp at h4
  have hb : n ≤ 8 := by simp only [List.mem_cons, List.not_mem_nil, or_false] at h4; omega
  rw [sum_is (by rw [hsum]; exact Nat.le_trans (Nat.mul_le_mul hb hs) (by decide)) hl, hsum, hn]
  have := divChk_ok
  unfold divChk at this
  rw [List.all_eq_true] at this
  have := this n h4
  rw [List.all_eq_true] at this
  exact beq_iff_eq.mp (this s (List.mem_range.mpr (by omega)))
end Mine
end

section
open PySem PySem.W PyProof.Rows
set_option maxRecDepth 100000
set_option maxHeartbeats 4000000
set_option linter.unusedSimpArgs false
namespace Mine
open PySem.Sre

noncomputable def code2 : Array Nat := #[14, 9, 4, 1, 2, 16, 10, 16, 13, 0, 7, 7, 16, 13, 16, 10, 15, 18, 5, 16, 10, 15, 13, 11, 16, 13, 5, 5, 0, 16, 10, 1, 15, 2, 0, 1]
noncomputable def code1 : Array Nat := #[14, 4, 0, 1, 1, 6, 1, 16, 46, 1]

section
variable {m : M}
/-- m comes to m' by some steps -/
noncomputable def Comes (n : Nat) (m m' : M) : Prop := M.runFor n m = m'
theorem runFor_add : ∀ (a b : Nat) (m : M), M.runFor (a + b) m = M.runFor b (M.runFor a m)
  | 0, b, m => by rw [Nat.zero_add]; rfl
  | a + 1, b, m => by
    rw [Nat.succ_add, M.runFor, M.runFor]
    split
    · rename_i h
      cases b with
      | zero => rfl
      | succ b => rw [M.runFor, if_pos h]
    · exact runFor_add a b _
theorem one_step (h : m.outcome = none) {m' : M} (e : m.step = m') : Comes 1 m m' := by
  unfold Comes
  rw [M.runFor, h]
  simp only [Option.isSome_none, Bool.false_eq_true, if_false]
  rw [e]; rfl
theorem Comes.then {a b : Nat} {m m' m'' : M} (x : Comes a m m') (y : Comes b m' m'') : Comes (a + b) m m'' := by
  unfold Comes at *
  rw [runFor_add, x, y]

theorem step_exec (h : m.outcome = none) (ha : m.answer = none) (hp : m.pc < m.code.size) : m.step = m.exec := by
  unfold M.step
  rw [h, ha]
  simp [hp]
theorem step_back (h : m.outcome = none) {y : Bool} {f : Sre.Frame} {rest : List Sre.Frame} (ha : m.answer = some y) (hf : m.frames = f :: rest) :
    m.step = M.resume { m with answer := none, frames := rest, weight := m.weight - (1 + f.kept.marks.size), pc := f.pc, pos := f.pos, outermost := f.outermost } f y := by
  unfold M.step
  rw [h, ha, hf]
  simp
theorem step_end (h : m.outcome = none) {y : Bool} (ha : m.answer = some y) (hf : m.frames = []) : m.step = { m with outcome := some (if y then .matched else .failed) } := by
  unfold M.step
  rw [h, ha, hf]
  simp

theorem exec_lit (ho : ops[m.word 0]? = some .LITERAL) (hl : m.pos < m.lim) (hc : m.text.getD m.pos 0 = m.word 1) : m.exec = { m with seen := m.seen.add (m.word 0), pc := m.pc + 2, pos := m.pos + 1 } := by
  unfold M.exec
  rw [ho]
  have h1 : ¬ m.pos ≥ m.lim := by omega
  have ho' : ops[m.code.getD m.pc 0]? = some .LITERAL := ho
  have hw : m.code.getD (m.pc + 1) 0 = m.word 1 := rfl
  simp only [h1, if_false, accepts, ho', hw, hc, beq_self_eq_true, itemWidth]
theorem exec_lit_no (ho : ops[m.word 0]? = some .LITERAL) (hl : m.pos ≥ m.lim ∨ m.text.getD m.pos 0 ≠ m.word 1) : m.exec = M.say { m with seen := m.seen.add (m.word 0) } false := by
  unfold M.exec
  rw [ho]
  have ho' : ops[m.code.getD m.pc 0]? = some .LITERAL := ho
  have hw : m.code.getD (m.pc + 1) 0 = m.word 1 := rfl
  by_cases h1 : m.pos ≥ m.lim
  · simp only [h1, if_true]
  · have h2 := hl.resolve_left h1
    have h3 : (m.text.getD m.pos 0 == m.word 1) = false := by simpa using h2
    simp only [h1, if_false, accepts, ho', hw, h3]
theorem exec_jump (ho : ops[m.word 0]? = some .JUMP) : m.exec = { m with seen := m.seen.add (m.word 0), pc := m.pc + 1 + m.word 1 } := by
  unfold M.exec
  rw [ho]; rfl
theorem exec_succ (ho : ops[m.word 0]? = some .SUCCESS) (hw : m.wholeText = false) (hm : m.mustAdvance = false) : m.exec = M.say { m with seen := m.seen.add (m.word 0), handed := m.pos } true := by
  unfold M.exec
  rw [ho]
  simp only [hw, hm, Bool.false_and, Bool.or_self, Bool.and_false, Bool.false_eq_true, if_false]
end

noncomputable def mk2 (t : Array Nat) (i : Nat) (sn : Sre.Seen) (pc pos handed : Nat) (o : Bool) (fr : List Sre.Frame) (w : Nat) (an : Option Bool) : M :=
  { code := code2, text := t, lim := t.size, start := i, lastStart := t.size, pc, pos, handed, outermost := o, marks := #[], frames := fr, weight := w, answer := an, seen := sn }
noncomputable def fr0 (i : Nat) (o : Bool) : Sre.Frame := { wait := .nextStart, pc := 10, pos := i, outermost := o }
noncomputable def frB (i : Nat) (o : Bool) (pc : Nat) : Sre.Frame := { wait := .nextBranch, pc := pc, pos := i, outermost := o, kept := { lastmark := -1, lastindex := -1, whole := false, marks := #[] } }
noncomputable def frN (i : Nat) (o : Bool) : Sre.Frame := { wait := .lookNot, pc := 26, pos := i, outermost := o, kept := { lastmark := -1, lastindex := -1, whole := false, marks := #[] } }
noncomputable def done2 (t : Array Nat) (i e : Nat) (sn : Sre.Seen) (o : Bool) : M := { mk2 t i sn 10 i e o [] 0 (some true) with outcome := some .matched }

section
variable {t : Array Nat} {i : Nat} {sn : Sre.Seen} {o : Bool}
theorem go_branch : Comes 1 (mk2 t i sn 10 i i o [fr0 i o] 1 none) (mk2 t i (sn.add 7) 12 i i o [frB i o 11, fr0 i o] 2 none) := by
  refine one_step rfl ((step_exec rfl rfl (by show 10 < code2.size; decide)).trans ?_)
  kernel_rfl
theorem go_lit {pc pos hd : Nat} {fr : List Sre.Frame} {w : Nat} (hp : pc < 36) (ho : ops[code2.getD pc 0]? = some .LITERAL) (hl : pos < t.size) (hc : t.getD pos 0 = code2.getD (pc + 1) 0) :
    Comes 1 (mk2 t i sn pc pos hd o fr w none) (mk2 t i (sn.add (code2.getD pc 0)) (pc + 2) (pos + 1) hd o fr w none) :=
  one_step rfl ((step_exec rfl rfl hp).trans (exec_lit (m := mk2 t i sn pc pos hd o fr w none) ho hl hc))
theorem go_litNo {pc pos hd : Nat} {fr : List Sre.Frame} {w : Nat} (hp : pc < 36) (ho : ops[code2.getD pc 0]? = some .LITERAL) (hl : pos ≥ t.size ∨ t.getD pos 0 ≠ code2.getD (pc + 1) 0) :
    Comes 1 (mk2 t i sn pc pos hd o fr w none) (mk2 t i (sn.add (code2.getD pc 0)) pc pos hd o fr w (some false)) :=
  one_step rfl ((step_exec rfl rfl hp).trans (exec_lit_no (m := mk2 t i sn pc pos hd o fr w none) ho hl))
theorem go_jump {pc pos hd k : Nat} {fr : List Sre.Frame} {w : Nat} (hp : pc < 36) (ho : ops[code2.getD pc 0]? = some .JUMP) (hk : pc + 1 + code2.getD (pc + 1) 0 = k) :
    Comes 1 (mk2 t i sn pc pos hd o fr w none) (mk2 t i (sn.add (code2.getD pc 0)) k pos hd o fr w none) := by
  subst hk
  exact one_step rfl ((step_exec rfl rfl hp).trans (exec_jump (m := mk2 t i sn pc pos hd o fr w none) ho))
theorem go_ok {pos hd : Nat} {fr : List Sre.Frame} {w : Nat} : Comes 1 (mk2 t i sn 35 pos hd o fr w none) (mk2 t i (sn.add 1) 35 pos pos o fr w (some true)) :=
  one_step rfl ((step_exec rfl rfl (by show 35 < code2.size; decide)).trans (exec_succ (m := mk2 t i sn 35 pos hd o fr w none) rfl rfl rfl))
/-- the end, from a branch that has matched -/
theorem go_out {e k pos : Nat} : Comes 3 (mk2 t i sn 35 pos e o [frB i o k, fr0 i o] 2 (some true)) (done2 t i e sn o) := by
  refine Comes.then (a := 1) (b := 2) (one_step rfl ((step_back rfl rfl rfl).trans rfl)) (Comes.then (a := 1) (b := 1) (one_step rfl ((step_back rfl rfl rfl).trans rfl)) (one_step rfl ((step_end rfl rfl rfl).trans rfl)))
theorem go_next1 {pc pos : Nat} : Comes 1 (mk2 t i sn pc pos i o [frB i o 11, fr0 i o] 2 (some false)) (mk2 t i sn 19 i i o [frB i o 18, fr0 i o] 2 none) := by
  refine one_step rfl ((step_back rfl rfl rfl).trans ?_)
  kernel_rfl
theorem go_next2 {pc pos : Nat} : Comes 1 (mk2 t i sn pc pos i o [frB i o 18, fr0 i o] 2 (some false)) (mk2 t i sn 24 i i o [frB i o 23, fr0 i o] 2 none) := by
  refine one_step rfl ((step_back rfl rfl rfl).trans ?_)
  kernel_rfl
theorem go_not {pos hd : Nat} : Comes 1 (mk2 t i sn 26 pos hd o [frB i o 23, fr0 i o] 2 none) (mk2 t i (sn.add 5) 29 pos pos false [frN pos o, frB i o 23, fr0 i o] 3 none) := by
  refine one_step rfl ((step_exec rfl rfl (by show 26 < code2.size; decide)).trans ?_)
  kernel_rfl
theorem go_notBack {pc pos p hd : Nat} : Comes 1 (mk2 t i sn pc pos hd false [frN p o, frB i o 23, fr0 i o] 3 (some false)) (mk2 t i sn 32 p hd o [frB i o 23, fr0 i o] 2 none) := by
  refine one_step rfl ((step_back rfl rfl rfl).trans ?_)
  kernel_rfl

theorem try2_crlf (h1 : i + 1 < t.size) (c0 : t.getD i 0 = 13) (c1 : t.getD (i + 1) 0 = 10) : ∃ sn', Comes 8 (mk2 t i sn 10 i i o [fr0 i o] 1 none) (done2 t i (i + 2) sn' o) :=
  ⟨_, (go_branch.then ((go_lit (pc := 12) (by decide) rfl (by omega) c0).then ((go_lit (pc := 14) (by decide) rfl h1 c1).then ((go_jump (pc := 16) (by decide) rfl rfl).then (go_ok.then go_out)))))⟩
theorem try2_lf (h1 : i < t.size) (c0 : t.getD i 0 = 10) : ∃ sn', Comes 9 (mk2 t i sn 10 i i o [fr0 i o] 1 none) (done2 t i (i + 1) sn' o) :=
  ⟨_, (go_branch.then ((go_litNo (pc := 12) (by decide) rfl (.inr (by rw [c0]; decide))).then (go_next1.then ((go_lit (pc := 19) (by decide) rfl h1 c0).then ((go_jump (pc := 21) (by decide) rfl rfl).then (go_ok.then go_out))))))⟩
theorem try2_cr (h1 : i < t.size) (c0 : t.getD i 0 = 13) (c1 : i + 1 ≥ t.size ∨ t.getD (i + 1) 0 ≠ 10) : ∃ sn', Comes 15 (mk2 t i sn 10 i i o [fr0 i o] 1 none) (done2 t i (i + 1) sn' o) :=
  ⟨_, (go_branch.then ((go_lit (pc := 12) (by decide) rfl h1 c0).then ((go_litNo (pc := 14) (by decide) rfl c1).then (go_next1.then ((go_litNo (pc := 19) (by decide) rfl (.inr (by rw [c0]; decide))).then (go_next2.then ((go_lit (pc := 24) (by decide) rfl h1 c0).then (go_not.then
    ((go_litNo (pc := 29) (by decide) rfl c1).then (go_notBack.then ((go_jump (pc := 32) (by decide) rfl rfl).then (go_ok.then go_out))))))))))))⟩
end
end Mine
end

section
open PySem PySem.W PyProof.Rows
set_option maxRecDepth 100000
set_option maxHeartbeats 4000000
set_option linter.unusedSimpArgs false
namespace Mine
open PySem.Sre

noncomputable def isEol (c : Nat) : Bool := c == 10 || c == 13
theorem inSet2 (c : Nat) (sn : Sre.Seen) : ∃ sn', inSet code2 c 36 5 true sn = .ok (isEol c, sn') := by
  rw [show inSet code2 c 36 5 true sn = (if c == 10 then .ok (true, sn.add 16) else if c == 13 then .ok (true, (sn.add 16).add 16) else .ok (false, ((sn.add 16).add 16).add 0)) by kernel_rfl]
  unfold isEol
  by_cases h1 : c = 10
  · subst h1; exact ⟨_, rfl⟩
  · by_cases h2 : c = 13
    · subst h2; exact ⟨_, rfl⟩
    · have e1 : (c == 10) = false := by simpa using h1
      have e2 : (c == 13) = false := by simpa using h2
      rw [e1, e2]; exact ⟨_, rfl⟩

theorem admitted_none {m : M} (hc : m.code = code2) : ∀ (f s : Nat) (sn : Sre.Seen), (∀ j, s ≤ j → j < m.lim → isEol (m.text.getD j 0) = false) → ∃ sn', M.admitted m f s sn = .ok (none, sn')
  | 0, s, sn, _ => ⟨_, rfl⟩
  | f + 1, s, sn, h => by
    unfold M.admitted
    by_cases hs : s ≥ m.lim
    · rw [if_pos hs]; exact ⟨_, rfl⟩
    · rw [if_neg hs, hc]
      obtain ⟨sn1, e1⟩ := inSet2 (m.text.getD s 0) sn
      rw [h s (Nat.le_refl _) (by omega)] at e1
      rw [show code2.size = 36 from rfl, e1]
      exact admitted_none hc f (s + 1) sn1 fun j h1 h2 => h j (by omega) h2
theorem admitted_some {m : M} (hc : m.code = code2) {i : Nat} (hi : i < m.lim) (he : isEol (m.text.getD i 0) = true) : ∀ (f s : Nat) (sn : Sre.Seen), s ≤ i → i - s < f → (∀ j, s ≤ j → j < i → isEol (m.text.getD j 0) = false) → ∃ sn', M.admitted m f s sn = .ok (some i, sn')
  | 0, s, sn, _, h, _ => by omega
  | f + 1, s, sn, hs, hf, h => by
    unfold M.admitted
    rw [if_neg (show ¬ s ≥ m.lim by omega), hc]
    obtain ⟨sn1, e1⟩ := inSet2 (m.text.getD s 0) sn
    rw [show code2.size = 36 from rfl, e1]
    by_cases hsi : s = i
    · subst hsi; rw [he]; exact ⟨_, rfl⟩
    · rw [h s (Nat.le_refl _) (by omega)]
      exact admitted_some hc hi he f (s + 1) sn1 (by omega) (by omega) fun j h1 h2 => h j (by omega) h2

/-- the end of a search -/
noncomputable def Found (m : M) (r : Option (Nat × Nat)) : Prop := ∃ n m', n ≤ 8 * (m.text.size + 16) ∧ Comes n m m' ∧ match r with
  | none => m'.outcome = some .failed
  | some (i, e) => m'.outcome = some .matched ∧ m'.start = i ∧ m'.handed = e

noncomputable def base2 (t : Array Nat) (s : Nat) (sn : Sre.Seen) : M := { code := code2, text := t, lim := t.size, start := s, lastStart := t.size, pc := 10, pos := s, handed := s, marks := #[], seen := sn }
theorem search2_eq (t : Array Nat) (s : Nat) (h : s < t.size) : ∃ sn, forSearch code2 t 0 s t.size false = (base2 t s sn).attemptFrom s true := by
  refine ⟨({} : Sre.Seen).add 14, ?_⟩
  have h2 : (decide (s > t.size) || decide (t.size - s < 1)) = false := by simp; omega
  show (if (decide (s > t.size) || decide (t.size - s < 1)) = true then _ else _) = _
  rw [h2]
  rfl
theorem search2_over (t : Array Nat) (s : Nat) (h : s ≥ t.size) : Found (forSearch code2 t 0 s t.size false) none := by
  have h2 : (decide (s > t.size) || decide (t.size - s < 1)) = true := by simp; omega
  have e : forSearch code2 t 0 s t.size false = (if (decide (s > t.size) || decide (t.size - s < 1)) = true then M.say { base2 t s (({} : Sre.Seen).add 14) with lastStart := 0 } false else (base2 t s (({} : Sre.Seen).add 14)).attemptFrom s true) := rfl
  rw [e, if_pos h2]
  exact ⟨1, _, by omega, one_step rfl (step_end rfl rfl rfl), rfl⟩
theorem from2 (t : Array Nat) (s : Nat) (sn : Sre.Seen) : (base2 t s sn).attemptFrom s true = match M.admitted (base2 t s sn) (t.size + 1 - s) s sn with
  | .ok (some s', seen) => M.attemptAt { base2 t s sn with mustAdvance := false, seen := seen } s' true
  | .ok (none, seen) => M.say { base2 t s sn with seen := seen } false
  | .error why => M.stick (base2 t s sn) why := rfl
theorem search2_none (t : Array Nat) (s : Nat) (h : ∀ j, s ≤ j → j < t.size → isEol (t.getD j 0) = false) : Found (forSearch code2 t 0 s t.size false) none := by
  by_cases hs : s ≥ t.size
  · exact search2_over t s hs
  · obtain ⟨sn, e⟩ := search2_eq t s (by omega)
    obtain ⟨sn', e'⟩ := admitted_none (m := base2 t s sn) rfl (t.size + 1 - s) s sn h
    rw [e, from2, e']
    exact ⟨1, _, by omega, one_step rfl (step_end rfl rfl rfl), rfl⟩
/-- how far a line end at i goes -/
noncomputable def eolEnd (t : Array Nat) (i : Nat) : Nat := if t.getD i 0 = 13 ∧ i + 1 < t.size ∧ t.getD (i + 1) 0 = 10 then i + 2 else i + 1
theorem search2_some (t : Array Nat) (s i : Nat) (hs : s ≤ i) (hi : i < t.size) (he : isEol (t.getD i 0) = true) (h : ∀ j, s ≤ j → j < i → isEol (t.getD j 0) = false) : Found (forSearch code2 t 0 s t.size false) (some (i, eolEnd t i)) := by
  obtain ⟨sn, e⟩ := search2_eq t s (by omega)
  obtain ⟨sn', e'⟩ := admitted_some (m := base2 t s sn) rfl (i := i) hi he (t.size + 1 - s) s sn hs (by omega) h
  rw [e, from2, e']
  have hm : M.attemptAt { base2 t s sn with mustAdvance := false, seen := sn' } i true = mk2 t i sn' 10 i i true [fr0 i true] 1 none := by kernel_rfl
  show Found (M.attemptAt { base2 t s sn with mustAdvance := false, seen := sn' } i true) _
  rw [hm]
  unfold eolEnd
  have hc : t.getD i 0 = 10 ∨ t.getD i 0 = 13 := by simpa [isEol] using he
  rcases hc with hc | hc
  · rw [if_neg (by rw [hc]; omega)]
    obtain ⟨q, c⟩ := try2_lf (sn := sn') (o := true) hi hc
    exact ⟨9, _, by show 9 ≤ 8 * (t.size + 16); omega, c, rfl, rfl, rfl⟩
  · by_cases h2 : i + 1 < t.size ∧ t.getD (i + 1) 0 = 10
    · rw [if_pos ⟨hc, h2⟩]
      obtain ⟨q, c⟩ := try2_crlf (sn := sn') (o := true) h2.1 hc h2.2
      exact ⟨8, _, by show 8 ≤ 8 * (t.size + 16); omega, c, rfl, rfl, rfl⟩
    · rw [if_neg (fun x => h2 x.2)]
      obtain ⟨q, c⟩ := try2_cr (sn := sn') (o := true) hi hc (by
        by_cases h3 : i + 1 < t.size
        · exact .inr fun e => h2 ⟨h3, e⟩
        · exact .inl (by omega))
      exact ⟨15, _, by show 15 ≤ 8 * (t.size + 16); omega, c, rfl, rfl, rfl⟩

/- the first pattern -/
noncomputable def mk1 (t : Array Nat) (i : Nat) (sn : Sre.Seen) (pc pos handed : Nat) (o : Bool) (fr : List Sre.Frame) (w : Nat) (an : Option Bool) : M :=
  { code := code1, text := t, lim := t.size, start := i, lastStart := t.size, pc, pos, handed, outermost := o, marks := #[], frames := fr, weight := w, answer := an, seen := sn }
noncomputable def fr1 (i : Nat) (o : Bool) : Sre.Frame := { wait := .nextStart, pc := 5, pos := i, outermost := o }
noncomputable def atBol (t : Array Nat) (i : Nat) : Bool := i == 0 || t.getD (i - 1) 0 == 10
noncomputable def isDot (t : Array Nat) (i : Nat) : Bool := atBol t i && t.getD i 0 == 46

section
variable {t : Array Nat} {i : Nat} {sn : Sre.Seen} {o : Bool} {fr : List Sre.Frame} {w hd : Nat}
theorem one_at (b : Bool) (hb : atBol t i = b) : Comes 1 (mk1 t i sn 5 i hd o fr w none) (mk1 t i ((sn.add 6).add 44) (if b then 7 else 5) i hd o fr w (if b then none else some false)) := by
  refine one_step rfl ((step_exec rfl rfl (by show 5 < code1.size; decide)).trans ?_)
  have e : M.exec (mk1 t i sn 5 i hd o fr w none) = (if atBol t i then mk1 t i ((sn.add 6).add 44) 7 i hd o fr w none else M.say (mk1 t i ((sn.add 6).add 44) 5 i hd o fr w none) false) := by kernel_rfl
  rw [e, hb]
  cases b <;> rfl
theorem one_lit (hl : i < t.size) (hc : t.getD i 0 = 46) : Comes 1 (mk1 t i sn 7 i hd o fr w none) (mk1 t i (sn.add 16) 9 (i + 1) hd o fr w none) :=
  one_step rfl ((step_exec rfl rfl (by show 7 < code1.size; decide)).trans (exec_lit (m := mk1 t i sn 7 i hd o fr w none) rfl hl hc))
theorem one_litNo (hl : i ≥ t.size ∨ t.getD i 0 ≠ 46) : Comes 1 (mk1 t i sn 7 i hd o fr w none) (mk1 t i (sn.add 16) 7 i hd o fr w (some false)) :=
  one_step rfl ((step_exec rfl rfl (by show 7 < code1.size; decide)).trans (exec_lit_no (m := mk1 t i sn 7 i hd o fr w none) rfl hl))
theorem one_ok {pos : Nat} : Comes 1 (mk1 t i sn 9 pos hd o fr w none) (mk1 t i (sn.add 1) 9 pos pos o fr w (some true)) :=
  one_step rfl ((step_exec rfl rfl (by show 9 < code1.size; decide)).trans (exec_succ (m := mk1 t i sn 9 pos hd o fr w none) rfl rfl rfl))
theorem one_fail {pc pos hd : Nat} (h : i < t.size) : Comes 1 (mk1 t i sn pc pos hd o [fr1 i o] 1 (some false)) (mk1 t (i + 1) sn 5 (i + 1) (i + 1) false [fr1 (i + 1) false] 1 none) := by
  refine one_step rfl ((step_back rfl rfl rfl).trans ?_)
  have e : M.resume (mk1 t i sn 5 i hd o [] 0 none) (fr1 i o) false = (if i < t.size then mk1 t (i + 1) sn 5 (i + 1) (i + 1) false [fr1 (i + 1) false] 1 none else M.say (mk1 t i sn 5 i hd o [] 0 none) false) := by kernel_rfl
  exact e.trans (if_pos h)
theorem one_over {pc pos hd : Nat} (h : i ≥ t.size) : ∃ m', Comes 2 (mk1 t i sn pc pos hd o [fr1 i o] 1 (some false)) m' ∧ m'.outcome = some .failed := by
  have e : M.resume (mk1 t i sn 5 i hd o [] 0 none) (fr1 i o) false = (if i < t.size then mk1 t (i + 1) sn 5 (i + 1) (i + 1) false [fr1 (i + 1) false] 1 none else M.say (mk1 t i sn 5 i hd o [] 0 none) false) := by kernel_rfl
  have q : M.step (mk1 t i sn pc pos hd o [fr1 i o] 1 (some false)) = M.say (mk1 t i sn 5 i hd o [] 0 none) false := (step_back (m := mk1 t i sn pc pos hd o [fr1 i o] 1 (some false)) (f := fr1 i o) (rest := []) rfl rfl rfl).trans (e.trans (if_neg (by omega)))
  exact ⟨_, Comes.then (a := 1) (b := 1) (one_step rfl q) (one_step rfl (step_end rfl rfl rfl)), rfl⟩
/-- one try that fails -/
theorem try1_no (h : isDot t i = false ∨ i ≥ t.size) : ∃ n pc sn', n ≤ 2 ∧ Comes n (mk1 t i sn 5 i i o [fr1 i o] 1 none) (mk1 t i sn' pc i i o [fr1 i o] 1 (some false)) := by
  cases hb : atBol t i with
  | false => exact ⟨1, 5, _, by omega, one_at false hb⟩
  | true =>
    refine ⟨2, 7, _, by omega, (one_at true hb).then (one_litNo ?_)⟩
    rcases h with h | h
    · right; simpa [isDot, hb] using h
    · exact .inl h
theorem try1_yes (hl : i < t.size) (h : isDot t i = true) : ∃ m', Comes 5 (mk1 t i sn 5 i i o [fr1 i o] 1 none) m' ∧ m'.outcome = some .matched ∧ m'.start = i ∧ m'.handed = i + 1 := by
  simp only [isDot, Bool.and_eq_true, beq_iff_eq] at h
  exact ⟨_, (one_at true h.1).then ((one_lit hl h.2).then (one_ok.then (Comes.then (a := 1) (b := 1) (one_step rfl ((step_back rfl rfl rfl).trans rfl)) (one_step rfl (step_end rfl rfl rfl))))), rfl, rfl, rfl⟩
end
theorem run1_none {t : Array Nat} : ∀ (k s : Nat) (sn : Sre.Seen) (o : Bool), t.size - s = k → (∀ j, s ≤ j → j < t.size → isDot t j = false) → ∃ n m', n ≤ 3 * k + 6 ∧ Comes n (mk1 t s sn 5 s s o [fr1 s o] 1 none) m' ∧ m'.outcome = some .failed
  | 0, s, sn, o, hk, h => by
    obtain ⟨n, pc, sn', hn, c⟩ := try1_no (t := t) (i := s) (sn := sn) (o := o) (.inr (by omega))
    obtain ⟨m', c', e⟩ := one_over (t := t) (i := s) (sn := sn') (o := o) (pc := pc) (pos := s) (hd := s) (by omega)
    exact ⟨n + 2, m', by omega, c.then c', e⟩
  | k + 1, s, sn, o, hk, h => by
    obtain ⟨n, pc, sn', hn, c⟩ := try1_no (t := t) (i := s) (sn := sn) (o := o) (.inl (h s (Nat.le_refl _) (by omega)))
    obtain ⟨n2, m', h2, c2, e⟩ := run1_none k (s + 1) sn' false (by omega) fun j h1 h2 => h j (by omega) h2
    exact ⟨n + (1 + n2), m', by omega, c.then ((one_fail (by omega)).then c2), e⟩
theorem run1_some {t : Array Nat} {i : Nat} (hi : i < t.size) (hd : isDot t i = true) : ∀ (k s : Nat) (sn : Sre.Seen) (o : Bool), i - s = k → s ≤ i → (∀ j, s ≤ j → j < i → isDot t j = false) →
    ∃ n m', n ≤ 3 * k + 6 ∧ Comes n (mk1 t s sn 5 s s o [fr1 s o] 1 none) m' ∧ m'.outcome = some .matched ∧ m'.start = i ∧ m'.handed = i + 1
  | 0, s, sn, o, hk, hs, h => by
    have : s = i := by omega
    subst this
    obtain ⟨m', c, e⟩ := try1_yes (sn := sn) (o := o) hi hd
    exact ⟨5, m', by omega, c, e⟩
  | k + 1, s, sn, o, hk, hs, h => by
    obtain ⟨n, pc, sn', hn, c⟩ := try1_no (t := t) (i := s) (sn := sn) (o := o) (.inl (h s (Nat.le_refl _) (by omega)))
    obtain ⟨n2, m', h2, c2, e⟩ := run1_some hi hd k (s + 1) sn' false (by omega) (by omega) fun j h1 h2 => h j (by omega) h2
    exact ⟨n + (1 + n2), m', by omega, c.then ((one_fail (by omega)).then c2), e⟩
theorem search1_over (t : Array Nat) (s : Nat) (h : s ≥ t.size) : Found (forSearch code1 t 0 s t.size false) none := by
  have h2 : (decide (s > t.size) || decide (t.size - s < 1)) = true := by simp; omega
  have e : forSearch code1 t 0 s t.size false = (if (decide (s > t.size) || decide (t.size - s < 1)) = true then M.say { mk1 t s (({} : Sre.Seen).add 14) 5 s s true [] 0 none with lastStart := 0 } false else mk1 t s (({} : Sre.Seen).add 14) 5 s s true [fr1 s true] 1 none) := by kernel_rfl
  rw [e, if_pos h2]
  exact ⟨1, _, by omega, one_step rfl (step_end rfl rfl rfl), rfl⟩
theorem search1_eq (t : Array Nat) (s : Nat) (h : s < t.size) : forSearch code1 t 0 s t.size false = mk1 t s (({} : Sre.Seen).add 14) 5 s s true [fr1 s true] 1 none := by
  have h2 : (decide (s > t.size) || decide (t.size - s < 1)) = false := by simp; omega
  have e : forSearch code1 t 0 s t.size false = (if (decide (s > t.size) || decide (t.size - s < 1)) = true then M.say { mk1 t s (({} : Sre.Seen).add 14) 5 s s true [] 0 none with lastStart := 0 } false else mk1 t s (({} : Sre.Seen).add 14) 5 s s true [fr1 s true] 1 none) := by kernel_rfl
  rw [e, h2, if_neg Bool.false_ne_true]
theorem search1_none (t : Array Nat) (s : Nat) (h : ∀ j, s ≤ j → j < t.size → isDot t j = false) : Found (forSearch code1 t 0 s t.size false) none := by
  by_cases hs : s ≥ t.size
  · exact search1_over t s hs
  · rw [search1_eq t s (by omega)]
    obtain ⟨n, m', hn, c, e⟩ := run1_none (t := t) (t.size - s) s (({} : Sre.Seen).add 14) true rfl h
    exact ⟨n, m', by show n ≤ 8 * (t.size + 16); omega, c, e⟩
theorem search1_some (t : Array Nat) (s i : Nat) (hs : s ≤ i) (hi : i < t.size) (hd : isDot t i = true) (h : ∀ j, s ≤ j → j < i → isDot t j = false) : Found (forSearch code1 t 0 s t.size false) (some (i, i + 1)) := by
  rw [search1_eq t s (by omega)]
  obtain ⟨n, m', hn, c, e⟩ := run1_some hi hd (i - s) s (({} : Sre.Seen).add 14) true rfl hs h
  exact ⟨n, m', by show n ≤ 8 * (t.size + 16); omega, c, e⟩
end Mine
end

section
open PySem PySem.W PyProof.Rows
open PySem.Builtin.Re
set_option maxRecDepth 100000
set_option maxHeartbeats 4000000
set_option linter.unusedSimpArgs false
namespace Mine

theorem plainAttrs_pat : PlainAttrs "re.Pattern" :=
  ⟨⟨"object.__getattribute__", by rw [typeLookup_type, builtinLookup_eq_fast]; kernel_rfl, F.canon_object_ga⟩, by rw [typeLookup_type, builtinLookup_eq_fast]; kernel_rfl⟩
theorem slot_sub : Slot "re.Pattern" (Str.ofString "sub") "re.Pattern.sub" :=
  .of (owner := "re.Pattern") (n := "sub") (by rw [typeLookup_type, builtinLookup_eq_fast]; kernel_rfl) (by decide +kernel) (by decide +kernel) (by decide +kernel)
    (by first | exact .inl (by decide +kernel) | exact .inr (by decide +kernel)) (by rw [isSubtype_type]; kernel_rfl)
theorem type_sub : typeOf (.builtin "re.Pattern.sub") = pure (.type "method_descriptor") := by show builtinType _ = _; rw [builtinType_eq_fast]; kernel_rfl
theorem entry_sub : entryFor table "re.Pattern.sub" = some Builtin.«re.Pattern.sub» := entryFor_of_tree (by kernel_rfl)
theorem entry_sub_loop : entryFor table "re.Pattern.sub.loop" = some Builtin.«re.Pattern.sub.loop» := entryFor_of_tree (by kernel_rfl)
theorem plain_sub_loop : plainId "re.Pattern.sub.loop" = true := by decide +kernel
theorem args_sub (a b c : Value) : argsOk "re.Pattern.sub" ⟨[a, b, c], []⟩ := by
  unfold argsOk
  kernel_rfl

section
variable {Mo : Model} {A : Around} {E : Value → Shared → Prop} {s : Shared}
open PySem.Sre

theorem runFor_done {m : Sre.M} (h : m.outcome.isSome = true) : ∀ k, Sre.M.runFor k m = m
  | 0 => rfl
  | k + 1 => by rw [Sre.M.runFor, if_pos h]

theorem wp_reDrive {m' : Sre.M} {Q : Sre.M → Shared → Prop} (ho : m'.outcome.isSome = true) (h : Q m' s) : ∀ (turns n : Nat) (m : Sre.M), n < 4 * turns → Comes n m m' → wpAny Mo A (reDrive turns m) Q E s
  | 0, n, m, hn, _ => by omega
  | turns + 1, n, m, hn, c => by
    unfold reDrive
    dsimp only
    unfold reTurnSteps
    by_cases hd : (Sre.M.runFor 4 m).outcome.isSome = true
    · rw [if_pos hd]
      have e : Sre.M.runFor 4 m = m' := by
        unfold Comes at c
        by_cases h4 : n ≤ 4
        · have : Sre.M.runFor (n + (4 - n)) m = m' := by rw [runFor_add, c, runFor_done ho]
          rwa [show n + (4 - n) = 4 by omega] at this
        · have : Sre.M.runFor (4 + (n - 4)) m = m' := by rw [show 4 + (n - 4) = n by omega]; exact c
          rw [runFor_add, runFor_done hd] at this
          exact this
      rw [e]
      exact wpAny_pure h
    · rw [if_neg hd]
      refine wpAny_bind (wpAny_rule (wp_reDrive ho h turns (n - 4) _ ?_ ?_))
      · by_cases h4 : n ≤ 4
        · exfalso
          apply hd
          have : Sre.M.runFor (n + (4 - n)) m = m' := by unfold Comes at c; rw [runFor_add, c, runFor_done ho]
          rw [show n + (4 - n) = 4 by omega] at this
          rw [this]; exact ho
        · omega
      · unfold Comes at c ⊢
        by_cases h4 : n ≤ 4
        · exfalso
          apply hd
          have : Sre.M.runFor (n + (4 - n)) m = m' := by rw [runFor_add, c, runFor_done ho]
          rw [show n + (4 - n) = 4 by omega] at this
          rw [this]; exact ho
        · rw [← runFor_add, show 4 + (n - 4) = n by omega]; exact c

theorem wp_says {m : Sre.M} {Q : PUnit → Shared → Prop} (h : Q ⟨⟩ s) : ∀ (l : List Nat), wpAny Mo A (forIn l PUnit.unit fun i r => do
    if m.seen.has i = true then do rule (Sre.names.getD i ""); pure (ForInStep.yield PUnit.unit) else pure (ForInStep.yield PUnit.unit)) Q E s
  | [] => wpAny_pure h
  | a :: l => by
    rw [List.forIn_cons]
    refine wpAny_bind ?_
    cases hc : m.seen.has a with
    | true => rw [if_pos rfl]; exact wpAny_bind (wpAny_rule (wpAny_pure (wp_says h l)))
    | false => rw [if_neg Bool.false_ne_true]; exact wpAny_pure (wp_says h l)

theorem wp_runToEnd {m m' : Sre.M} {n : Nat} {r : Option Sre.M} {Q : Option Sre.M → Shared → Prop} (hn : n < 2 ^ 64) (c : Comes n m m') (hr : (m'.outcome = some .matched ∧ r = some m') ∨ (m'.outcome = some .failed ∧ r = none)) (h : Q r s) : wpAny Mo A (reRunToEnd m) Q E s := by
  unfold reRunToEnd
  have ho : m'.outcome.isSome = true := by rcases hr with ⟨e, _⟩ | ⟨e, _⟩ <;> rw [e] <;> rfl
  refine wpAny_bind (wp_reDrive ho ?_ (2 ^ 64) n m (by omega) c)
  refine wpAny_bind ?_
  refine wpAny_mono (wp_says (m := m') (Q := fun _ s' => s' = s) rfl (List.range Sre.names.size)) (fun _ s' e => ?_) fun _ _ x => x
  subst e
  rcases hr with ⟨e, rfl⟩ | ⟨e, rfl⟩
  · rw [e]; exact wpAny_pure h
  · rw [e]; exact wpAny_pure h
noncomputable def Hit : Option (Nat × Nat) → Option Sre.M → Prop
  | none, none => True
  | some (i, e), some m => m.start = i ∧ m.handed = e
  | _, _ => False
theorem wp_next {t : ReTarget} {st : Nat} {r : Option (Nat × Nat)} {Q : Option Sre.M → Shared → Prop} (hk : t.text.size < 2 ^ 59) (f : Found (Sre.forSearch t.code t.text t.groups st t.lim false) r) (ht : (Sre.forSearch t.code t.text t.groups st t.lim false).text = t.text)
    (h : ∀ r', Hit r r' → Q r' s) : wpAny Mo A (reNextFound t st false) Q E s := by
  obtain ⟨n, m', hn, c, hr⟩ := f
  rw [ht] at hn
  unfold reNextFound
  cases r with
  | none => exact wp_runToEnd (r := none) (by omega) c (.inr ⟨hr, rfl⟩) (h none trivial)
  | some p => exact wp_runToEnd (r := some m') (by omega) c (.inl ⟨hr.1, rfl⟩) (h (some m') hr.2)
end
end Mine
end

section
open PySem PySem.W PyProof.Rows
open PySem.Builtin.Re
set_option maxRecDepth 100000
set_option maxHeartbeats 4000000
set_option linter.unusedSimpArgs false
set_option linter.unusedVariables false
namespace Mine

noncomputable def PatAt (h : Heap) (P : Addr) (code : Array Nat) : Prop := ∃ o vs C oc items n, h.get? P = some o ∧ o.cls = .type "re.Pattern" ∧ o.dict = none ∧ o.data = .fields vs ∧ reRawNat (vs.getD 6 .none) = 0 ∧ reRawNat (vs.getD 2 .none) = 0 ∧ vs.getD 5 .none = .ref C ∧
  h.get? C = some oc ∧ oc.data = .seq items n ∧ (items.map reRawOf).map (·.toNat) = code
theorem PatAt.keeps {h h' : Heap} {P : Addr} {code : Array Nat} (k : ∀ b o, h.get? b = some o → h'.get? b = some o) (p : PatAt h P code) : PatAt h' P code :=
  let ⟨o, vs, C, oc, items, n, h1, h2, h2', h3, h4, h5, h6, h7, h8⟩ := p
  ⟨o, vs, C, oc, items, n, k _ _ h1, h2, h2', h3, h4, h5, h6, k _ _ h7, h8⟩
noncomputable def target (P : Addr) (x : Str) (u : Tok) (code : Array Nat) : ReTarget := { pattern := .ref P, string := .str x u, code, text := x.cps, kind := 0, groups := 0, pos := 0, lim := x.cps.size }

section
variable {Mo : Model} {A : Around} {E : Value → Shared → Prop} {s : Shared}
theorem wp_whole {P : Addr} {x : Str} {u : Tok} {code : Array Nat} {Q : ReTarget → Shared → Prop} (hp : PatAt s.heap P code) (h : Q (target P x u code) s) : wpAny Mo A (reWholeTarget (.ref P) (.str x u)) Q E s := by
  obtain ⟨o, vs, C, oc, items, n, h1, h2, h2', h3, h4, h5, h6, h7, h8, h9⟩ := hp
  unfold reWholeTarget
  refine wpAny_bind (wpAny_fieldsOf h1 h3 ?_)
  refine wpAny_bind (wpAny_of_eq (a := (x.cps, 0)) rfl ?_)
  dsimp only
  rw [h4, h5, h6]
  refine wpAny_bind (wpAny_of_eq (a := PUnit.unit) rfl ?_)
  unfold reRawItems
  refine wpAny_bind (wpAny_bind (wpAny_seqItems h7 h8 (wpAny_pure ?_)))
  refine wpAny_pure ?_
  dsimp only [Option.getD_some]
  rw [h9]
  exact h

noncomputable def loopArgs (P L : Addr) (x : Str) (u : Tok) (rp : Str) (v : Tok) (n st : Int) : Args := ⟨[.ref P, .str x u, .str rp v, rawInt 0, rawInt 0, rawInt n, rawInt st, rawInt st, .bool false, .ref L, .bool false], []⟩

/-- the pieces so far, and what the state has kept -/
noncomputable def Acc (s₀ : Shared) (L : Addr) (l : List (Str × Tok)) (s' : Shared) : Prop :=
  (∃ n, s'.heap.get? L = some { cls := .type "list", data := .seq (strValues l).toArray n }) ∧ (∀ b o, s₀.heap.get? b = some o → s'.heap.get? b = some o) ∧ ∃ h tk, s' = { s₀ with heap := h, toks := tk }
noncomputable def flat (l : List (Str × Tok)) : List Nat := l.flatMap fun p => p.1.cps.toList
theorem flat_app (l : List (Str × Tok)) (y : Str) (t : Tok) : flat (l ++ [(y, t)]) = flat l ++ y.cps.toList := by simp [flat]
theorem strValues_app (l : List (Str × Tok)) (y : Str) (t : Tok) : (strValues l).toArray.push (.str y t) = (strValues (l ++ [(y, t)])).toArray := by simp [strValues]

theorem push_ok {s₀ : Shared} {L : Addr} {l : List (Str × Tok)} {y : Str} {t : Tok} {Q : Unit → Shared → Prop} (hL : s₀.heap.get? L = none) (a : Acc s₀ L l s) (hl : l.length ≤ 200000) (h : ∀ s', Acc s₀ L (l ++ [(y, t)]) s' → Q () s') :
    wpAny Mo A (updateSeq L (·.push (.str y t))) Q E s := by
  obtain ⟨⟨n, hg⟩, hk, h₁, tk, rfl⟩ := a
  have hz : (strValues l).toArray.size = l.length := by simp [strValues]
  refine wpAny_updateSeq hg rfl (h _ ⟨?_, ?_, _, _, rfl⟩) (by rw [hz, sizeLine_eq]; omega) (by rw [Array.size_push, hz, sizeLine_eq]; omega)
  · have := Heap.get?_update_self (Obj.mapSeq (·.push (.str y t))) hg rfl
    rw [this]
    unfold Obj.mapSeq
    dsimp only
    rw [strValues_app]
    exact ⟨_, rfl⟩
  · exact fun b o e => (Heap.get?_update_other _ _ (fun hb => by subst hb; rw [hL] at e; cases e)).trans (hk b o e)

theorem glued_flat : ∀ (l : List (Str × Tok)), (Txt.join ⟨#[]⟩ (l.map (·.1))).cps.toList = flat l := by
  have fold : ∀ (ts : List Str) (acc : Array Nat), (ts.foldl (fun acc p => acc ++ (#[] : Array Nat) ++ p.cps) acc).toList = acc.toList ++ ts.flatMap (·.cps.toList) := by
    intro ts
    induction ts with
    | nil => intro acc; simp
    | cons a ts ih => intro acc; rw [List.foldl_cons, ih]; simp
  intro l
  cases l with
  | nil => rfl
  | cons p l =>
    show ((List.drop 1 ((p :: l).map (·.1))).foldl (fun acc p => acc ++ (#[] : Array Nat) ++ p.cps) (List.headD ((p :: l).map (·.1)) Str.empty).cps).toList = _
    rw [fold]
    simp [flat, List.flatMap_map]
theorem joinOk_flat (l : List (Str × Tok)) (h : (flat l).length ≤ 200000) : JoinOk ⟨#[]⟩ (l.map (·.1)) = true := by
  have fold : ∀ (l : List (Str × Tok)) (a : Nat), (l.map (·.1)).foldl (fun x y => x + y.length + Str.length ⟨#[]⟩) a = a + (flat l).length := by
    intro l
    induction l with
    | nil => intro a; simp [flat]
    | cons p l ih =>
      intro a
      rw [List.map_cons, List.foldl_cons, ih]
      simp only [flat, List.flatMap_cons, List.length_append]
      have : p.1.length = p.1.cps.toList.length := by simp [Str.length]
      rw [this]
      have : Str.length ⟨#[]⟩ = 0 := rfl
      omega
  unfold JoinOk
  rw [List.foldl_toArray', fold]
  · unfold Builtin.Str.tooLong
    rw [sizeLine_eq]
    simp; omega
  · simp
end

noncomputable def endTree (t : ReTarget) (L : Addr) : Sem PySem.Fin := do
  let joiner ← reSlice t.text t.kind 0 0
  let xs ← seqItems? (Value.ref L)
  if (xs.getD #[]).isEmpty = true then do
    let y ← pure joiner
    ret y
  else do
    let y ← call (Value.builtin (if (t.kind == 0) = true then "str.join" else "bytes.join")) [joiner, Value.ref L]
    ret y
noncomputable def itemTree (P L : Addr) (x : Str) (u : Tok) (rp : Str) (v : Tok) (n : Int) (i e : Nat) : Sem PySem.Fin := do
  let item ← pure (Value.str rp v)
  if (item != Value.none) = true then do
    updateSeq L fun x => x.push item
    again (Code.builtin "re.Pattern.sub.loop" ⟨[Value.ref P, Value.str x u, Value.str rp v, Value.int 0 0, Value.int 0 0, Value.int (n + 1) 0, Value.int e 0, Value.int e 0, Value.bool (e == i), Value.ref L, Value.bool false], []⟩)
  else again (Code.builtin "re.Pattern.sub.loop" ⟨[Value.ref P, Value.str x u, Value.str rp v, Value.int 0 0, Value.int 0 0, Value.int (n + 1) 0, Value.int e 0, Value.int e 0, Value.bool (e == i), Value.ref L, Value.bool false], []⟩)
noncomputable def postFin (prog : Program) (w : World) (A : Around) (R : Result → Shared → Prop) (fin : PySem.Fin) (s' : Shared) : Prop := match fin with
  | .done f => R (Except.ok f) s'
  | .again c' => c'.quiet = true ∧ codeAny (model prog w) A c' R s'
section
variable {prog : Program} {w : World} {A : Around} {E : Value → Shared → Prop} {s : Shared}
theorem ext_len {x : Array Nat} {a b : Nat} (h : b ≤ x.size) : (x.extract a b).toList.length = b - a := by rw [Array.length_toList, Array.size_extract, Nat.min_eq_left h]
theorem sub_loop {P L : Addr} {x rp : Str} {u v : Tok} {code : Array Nat} {s₀ : Shared} {nx : Nat → Option (Nat × Nat)} {res : Nat → List Nat} {R : Result → Shared → Prop}
    (hL : s₀.heap.get? L = none) (hp : PatAt s₀.heap P code) (hx : x.cps.size ≤ 100000) (h0 : (res 0).length ≤ 100000) (hrp : rp.cps.size ≠ 0)
    (hf : ∀ st, st ≤ x.cps.size → Found (Sre.forSearch code x.cps 0 st x.cps.size false) (nx st)) (ht : ∀ st, (Sre.forSearch code x.cps 0 st x.cps.size false).text = x.cps)
    (hs : ∀ st i e, nx st = some (i, e) → st ≤ i ∧ i < e ∧ e ≤ x.cps.size ∧ res st = (x.cps.extract st i).toList ++ rp.cps.toList ++ res e)
    (hn : ∀ st, st ≤ x.cps.size → nx st = none → res st = (x.cps.extract st x.cps.size).toList)
    (hR : ∀ s' t, (∀ b o, s₀.heap.get? b = some o → s'.heap.get? b = some o) → (∃ h tk, s' = { s₀ with heap := h, toks := tk }) → R (.ok (.ret (.str ⟨(res 0).toArray⟩ t))) s') :
    ∀ (k st : Nat) (n : Int) (l : List (Str × Tok)) (s : Shared), x.cps.size - st = k → st ≤ x.cps.size → Acc s₀ L l s → flat l ++ res st = res 0 → l.length ≤ (flat l).length →
      codeAny (model prog w) A (.builtin "re.Pattern.sub.loop" (loopArgs P L x u rp v n st)) R s := by
  intro k
  induction k using Nat.strongRecOn with
  | ind k ih =>
    intro st n l s hk hst ha hfl hll
    have hfl2 : (flat l).length ≤ 100000 := by
      have := congrArg List.length hfl
      rw [List.length_append] at this; omega
    refine codeAny_builtin entry_sub_loop ?_
    rw [Around.under_plainId plain_sub_loop _]
    unfold Builtin.«re.Pattern.sub.loop» loopArgs rawInt
    dsimp only
    refine wpAny_bind (wp_whole (hp.keeps ha.2.1) ?_)
    simp only [show ((0 : Int) == 0) = true from rfl, show ((0 : Int) != 0) = false from rfl, if_true, Bool.false_and, Bool.false_eq_true, if_false, Int.toNat_natCast]
    refine wpAny_bind (wpAny_of_eq (a := PUnit.unit) rfl ?_)
    have hfd := hf st hst
    refine wpAny_bind (wp_next (r := nx st) (by show x.cps.size < 2 ^ 59; omega) hfd (ht st) fun r' hr' => ?_)
    have slice : ∀ (a b : Nat) (Q : Value → Shared → Prop) (E : Value → Shared → Prop) (s : Shared), (∀ t, Q (.str ⟨x.cps.extract a b⟩ t) { s with toks := s.toks + 1 }) → wpAny (model prog w) A.in1 (reSlice (target P x u code).text (target P x u code).kind a b) Q E s := by
      intro a b Q E s h
      show wpAny _ _ (mkStr ⟨x.cps.extract a b⟩) Q E s
      refine wpAny_mkStr (h _) ?_
      rw [sizeLine_eq]
      show (x.cps.extract a b).size ≤ _
      rw [Array.size_extract]; omega
    have accT : ∀ {s : Shared} {l : List (Str × Tok)} {t : Nat}, Acc s₀ L l s → Acc s₀ L l { s with toks := t } := fun {_ _ t} ⟨a1, a2, h, tk, a3⟩ => ⟨a1, a2, h, t, by subst a3; rfl⟩
    cases hnx : nx st with
    | none =>
      rw [hnx] at hr'
      cases r' with
      | some m => exact hr'.elim
      | none =>
        dsimp only
        have hend := hn st hst hnx
        have fin : ∀ (l : List (Str × Tok)) (s : Shared), Acc s₀ L l s → flat l = res 0 → l.length ≤ (flat l).length → wpAny (model prog w) A.in1 (endTree (target P x u code) L) (postFin prog w A R) (fun e s' => R (Except.error e) s') s := by
          intro l s ha hfl hll
          unfold endTree
          refine wpAny_bind (slice 0 0 _ _ _ fun t => ?_)
          have ha' := accT (t := s.toks + 1) ha
          obtain ⟨⟨n', hg⟩, hk', hh⟩ := ha'
          refine wpAny_bind (wpAny_seqItems hg rfl ?_)
          have e0 : x.cps.extract 0 0 = #[] := by simp
          rw [e0]
          cases l with
          | nil =>
            rw [if_pos (by rfl)]
            refine wpAny_bind (wpAny_pure (wpAny_pure ?_))
            have e1 : res 0 = [] := hfl.symm
            rw [show (#[] : Array Nat) = (res 0).toArray by rw [e1]]
            exact hR _ _ hk' hh
          | cons p l =>
            rw [if_neg (by simp [strValues])]
            refine wpAny_bind (SC.join ⟨_, hg, rfl, _, rfl⟩ rfl (joinOk_flat _ (by rw [hfl]; omega)) fun t' k' => wpAny_pure ?_)
            have e1 : Txt.join ⟨#[]⟩ ((p :: l).map (·.1)) = ⟨(res 0).toArray⟩ := by
              have := glued_flat (p :: l)
              rw [hfl] at this
              rw [← this]
            rw [e1]
            obtain ⟨h1, t1, e2⟩ := hh
            exact hR _ _ hk' ⟨h1, _, by rw [e2]⟩
        by_cases hlt : st < (target P x u code).lim
        · rw [if_pos hlt]
          refine wpAny_bind (slice _ _ _ _ _ fun t => ?_)
          refine wpAny_bind (push_ok hL (accT ha) (by omega) fun s' ha' => fin _ s' ha' ?_ ?_)
          · rw [flat_app, ← hfl, hend]; rfl
          · rw [flat_app, List.length_append, List.length_append]
            have : 1 ≤ (x.cps.extract st (target P x u code).lim).toList.length := by
              have q := ext_len (x := x.cps) (a := st) (Nat.le_refl x.cps.size)
              exact Nat.le_of_lt_succ (Nat.succ_lt_succ (q ▸ Nat.sub_pos_of_lt hlt))
            exact Nat.add_le_add hll this
        · rw [if_neg hlt]
          refine fin l s ha ?_ hll
          have hlt' : ¬ st < x.cps.size := hlt
          have : (x.cps.extract st x.cps.size).toList = [] := by
            have : (x.cps.extract st x.cps.size).toList.length = 0 := (ext_len (Nat.le_refl _)).trans (Nat.sub_eq_zero_of_le (Nat.le_of_not_lt hlt'))
            exact List.eq_nil_of_length_eq_zero this
          rw [hend, this, List.append_nil] at hfl
          exact hfl
    | some p =>
      obtain ⟨i, e⟩ := p
      rw [hnx] at hr'
      cases r' with
      | none => exact hr'.elim
      | some m =>
        obtain ⟨hi, he⟩ := hr'
        obtain ⟨h1, h2, h3, h4⟩ := hs _ _ _ hnx
        dsimp only
        rw [hi, he]
        have hrl : rp.cps.toList.length = rp.cps.size := Array.length_toList
        have tot : (flat l).length + (i - st) + rp.cps.size ≤ 100000 := by
          have := congrArg List.length hfl
          rw [h4] at this
          rw [List.length_append, List.length_append, List.length_append, ext_len (Nat.le_trans (Nat.le_of_lt h2) h3), hrl] at this
          clear hs hn hR ih hf ht slice accT hp hL hll hfl2 hst hk
          omega
        have fin : ∀ (l' : List (Str × Tok)) (s : Shared), Acc s₀ L l' s → flat l' = flat l ++ (x.cps.extract st i).toList → l'.length ≤ (flat l').length → wpAny (model prog w) A.in1 (itemTree P L x u rp v n i e) (postFin prog w A R) (fun e s' => R (Except.error e) s') s := by
          intro l' s ha hfl' hll
          unfold itemTree
          have hl' : (flat l').length ≤ 100000 := by
            rw [hfl', List.length_append, ext_len (Nat.le_trans (Nat.le_of_lt h2) h3)]
            exact Nat.le_trans (Nat.le_add_right _ _) tot
          refine wpAny_bind (wpAny_pure ?_)
          rw [if_pos (by rfl)]
          refine wpAny_bind (push_ok hL ha (by omega) fun s' ha' => wpAny_pure ⟨plainId_quiet plain_sub_loop _, ?_⟩)
          rw [show (e == i) = false by simp; omega]
          refine ih (x.cps.size - e) (by omega) e (n + 1) _ s' rfl h3 ha' ?_ ?_
          · rw [flat_app, hfl', ← hfl, h4]; simp
          · rw [flat_app, List.length_append, List.length_append, hrl]
            exact Nat.add_le_add hll (Nat.pos_of_ne_zero hrp)
        by_cases hlt : st < i
        · rw [if_pos hlt]
          refine wpAny_bind (slice _ _ _ _ _ fun t => ?_)
          refine wpAny_bind (push_ok hL (accT ha) (by omega) fun s' ha' => fin _ s' ha' (flat_app _ _ _) ?_)
          rw [flat_app, List.length_append, List.length_append]
          have : 1 ≤ (x.cps.extract st i).toList.length := by
            rw [ext_len (Nat.le_trans (Nat.le_of_lt h2) h3)]; exact Nat.sub_pos_of_lt hlt
          exact Nat.add_le_add hll this
        · rw [if_neg hlt]
          refine fin l s ha ?_ hll
          have : (x.cps.extract st i).toList = [] := by
            have : (x.cps.extract st i).toList.length = 0 := (ext_len (Nat.le_trans (Nat.le_of_lt h2) h3)).trans (Nat.sub_eq_zero_of_le (Nat.le_of_not_lt hlt))
            exact List.eq_nil_of_length_eq_zero this
          rw [this, List.append_nil]
end
end Mine
end

section
open PySem PySem.W PyProof.Rows
open PySem.Builtin.Re
set_option maxRecDepth 100000
set_option maxHeartbeats 4000000
set_option linter.unusedSimpArgs false
set_option linter.unusedVariables false
namespace Mine

theorem named_sub (rp x : Value) : reNamed "re.Pattern.sub" "sub" ["repl", "string", "count"] 2 [rp, x] [] = pure [some rp, some x, none] := by kernel_rfl
theorem look_call : typeLookup (.type "str") (Str.ofString "__call__") = pure none := by rw [typeLookup_type, builtinLookup_eq_fast]; kernel_rfl

section
variable {prog : Program} {w : World} {A : Around} {E : Value → Shared → Prop} {s : Shared}
theorem sub_tree {P : Addr} {x rp : Str} {u v : Tok} {code : Array Nat} {Q : PySem.Fin → Shared → Prop} (hp : PatAt s.heap P code) (h92 : rp.cps.contains 92 = false)
    (h : Q (.again (.builtin "re.Pattern.sub.loop" (loopArgs P s.heap.objs.size x u rp v 0 ((0 : Nat) : Int)))) { s with heap := s.heap.push { cls := .type "list", data := .seq #[] } }) :
    wpAny (model prog w) A (Builtin.«re.Pattern.sub» ⟨[.ref P, .str rp v, .str x u], []⟩) Q E s := by
  unfold Builtin.«re.Pattern.sub» reSubstitute
  dsimp only
  rw [named_sub]
  refine wpAny_bind (wpAny_pure ?_)
  dsimp only
  refine wpAny_bind (wpAny_pure ?_)
  refine wpAny_bind (wpAny_specialOf_val (T := "str") (r := none) rfl look_call ?_)
  simp only [Option.isSome_none, Bool.false_eq_true, if_false]
  refine wpAny_bind (wpAny_bind (wpAny_of_eq (a := some rp) rfl (wpAny_pure ?_)))
  simp only [h92, Bool.not_false, if_true]
  refine wpAny_bind (wpAny_pure ?_)
  rw [if_pos rfl]
  refine wpAny_bind (wpAny_pure ?_)
  dsimp only
  refine wpAny_bind (wpAny_holding (wp_whole hp ?_))
  simp only [show ((0 : Int) == 1) = false from rfl, Bool.false_eq_true, if_false]
  refine wpAny_bind (wpAny_newList ?_)
  exact wpAny_pure h
/-- the pattern's sub: what it gives is a text -/
theorem call_sub {P : Addr} {x rp : Str} {u v : Tok} {code : Array Nat} {nx : Nat → Option (Nat × Nat)} {res : Nat → List Nat} {Q : Value → Shared → Prop}
    (hp : PatAt s.heap P code) (h92 : rp.cps.contains 92 = false) (hx : x.cps.size ≤ 100000) (h0 : (res 0).length ≤ 100000) (hrp : rp.cps.size ≠ 0)
    (hf : ∀ st, st ≤ x.cps.size → Found (Sre.forSearch code x.cps 0 st x.cps.size false) (nx st)) (ht : ∀ st, (Sre.forSearch code x.cps 0 st x.cps.size false).text = x.cps)
    (hs : ∀ st i e, nx st = some (i, e) → st ≤ i ∧ i < e ∧ e ≤ x.cps.size ∧ res st = (x.cps.extract st i).toList ++ rp.cps.toList ++ res e)
    (hn : ∀ st, st ≤ x.cps.size → nx st = none → res st = (x.cps.extract st x.cps.size).toList)
    (hQ : ∀ s' t, Keeps s s' → Q (.str ⟨(res 0).toArray⟩ t) s') :
    wpAny (model prog w) A (call (.builtin "re.Pattern.sub") [.ref P, .str rp v, .str x u]) Q E s := by
  have hT : s.TypeIs (.ref P) "re.Pattern" := by
    obtain ⟨o, vs, C, oc, items, n, h1, h2, r⟩ := hp
    exact ⟨o, h1, h2⟩
  refine wpAny_call (codeAny_call_builtin slot_sub.plain entry_sub (slot_sub.check _ _ _ _ _ _ _ _ hT (args_sub _ _ _) (sub_tree hp h92 ?_)))
  refine ⟨plainId_quiet plain_sub_loop _, ?_⟩
  have hL : s.heap.get? s.heap.objs.size = none := Heap.get?_none_of_le (Nat.le_refl _)
  refine sub_loop (s₀ := s) (nx := nx) (res := res) hL hp hx h0 hrp hf ht hs hn (fun s' t hk ⟨h, tk, e⟩ => hQ s' t ⟨h, tk, e, by subst e; exact hk⟩) x.cps.size 0 0 [] _ rfl (Nat.zero_le _) ⟨⟨_, Heap.get?_push_size _ rfl⟩, fun b o e => Heap.get?_push_of_some _ e, _, s.toks, rfl⟩ rfl (Nat.le_refl _)
end
end Mine
end

section
open PySem PySem.W PyProof.Rows
open PySem.Builtin.Re
set_option maxRecDepth 100000
set_option maxHeartbeats 4000000
set_option linter.unusedSimpArgs false
set_option linter.unusedVariables false
namespace Mine

noncomputable def firstAt (p : Nat → Bool) : Nat → Nat → Option Nat
  | 0, _ => none
  | k + 1, j => if p j then some j else firstAt p k (j + 1)
theorem firstAt_some {p : Nat → Bool} : ∀ {k j i : Nat}, firstAt p k j = some i → j ≤ i ∧ i < j + k ∧ p i = true ∧ ∀ m, j ≤ m → m < i → p m = false
  | 0, j, i, h => by simp [firstAt] at h
  | k + 1, j, i, h => by
    unfold firstAt at h
    split at h
    · cases h; rename_i hp; exact ⟨Nat.le_refl _, by omega, hp, fun m h1 h2 => by omega⟩
    · rename_i hp
      obtain ⟨h1, h2, h3, h4⟩ := firstAt_some h
      refine ⟨by omega, by omega, h3, fun m m1 m2 => ?_⟩
      by_cases e : m = j
      · subst e; simpa using hp
      · exact h4 m (by omega) m2
theorem firstAt_none {p : Nat → Bool} : ∀ {k j : Nat}, firstAt p k j = none → ∀ m, j ≤ m → m < j + k → p m = false
  | 0, j, h, m, h1, h2 => by omega
  | k + 1, j, h, m, h1, h2 => by
    unfold firstAt at h
    split at h
    · cases h
    · rename_i hp
      by_cases e : m = j
      · subst e; simpa using hp
      · exact firstAt_none h m (by omega) (by omega)

noncomputable def norm : List Nat → List Nat
  | [] => []
  | [c] => if isEol c then [13, 10] else [c]
  | c :: d :: r => if c = 13 ∧ d = 10 then 13 :: 10 :: norm r else if isEol c then 13 :: 10 :: norm (d :: r) else c :: norm (d :: r)
noncomputable def dots : Bool → List Nat → List Nat
  | _, [] => []
  | b, c :: r => (if b && c == 46 then [46, 46] else [c]) ++ dots (c == 10) r

theorem norm_cons {c : Nat} {r : List Nat} (h : isEol c = false) : norm (c :: r) = c :: norm r := by
  have h13 : c ≠ 13 := fun e => by subst e; simp [isEol] at h
  cases r with
  | nil => simp [norm, h]
  | cons d r => rw [norm, if_neg (fun x => h13 x.1), h]; simp
theorem norm_eol {c : Nat} {r : List Nat} (h : isEol c = true) (hn : ∀ r', ¬ (c = 13 ∧ r = 10 :: r')) : norm (c :: r) = 13 :: 10 :: norm r := by
  cases r with
  | nil => simp [norm, h]
  | cons d r => rw [norm, if_neg (fun x => hn r ⟨x.1, by rw [x.2]⟩), if_pos h]
theorem norm_crlf {r : List Nat} : norm (13 :: 10 :: r) = 13 :: 10 :: norm r := by rw [norm, if_pos ⟨rfl, rfl⟩]

theorem drop_cons (t : Array Nat) {i : Nat} (h : i < t.size) : t.toList.drop i = t.getD i 0 :: t.toList.drop (i + 1) := by
  rw [List.drop_eq_getElem_cons (by simpa using h)]
  congr 1
  simp [Array.getD, h]
theorem norm_run (t : Array Nat) (i : Nat) (hi : i ≤ t.size) : ∀ (k st : Nat), i - st = k → st ≤ i → (∀ j, st ≤ j → j < i → isEol (t.getD j 0) = false) → norm (t.toList.drop st) = (t.extract st i).toList ++ norm (t.toList.drop i)
  | 0, st, hk, hs, h => by
    have : st = i := by omega
    subst this; simp
  | k + 1, st, hk, hs, h => by
    rw [drop_cons t (by omega), norm_cons (h st (Nat.le_refl _) (by omega)), norm_run t i hi k (st + 1) (by omega) (by omega) fun j h1 h2 => h j (by omega) h2]
    have : (t.extract st i).toList = t.getD st 0 :: (t.extract (st + 1) i).toList := by
      rw [Array.toList_extract, Array.toList_extract, List.extract_eq_take_drop, List.extract_eq_take_drop, drop_cons t (by omega), show i - st = (i - (st + 1)) + 1 by omega, List.take_succ_cons]
    rw [this]; rfl
theorem dots_run (t : Array Nat) (i : Nat) (hi : i ≤ t.size) : ∀ (k st : Nat), i - st = k → st ≤ i → (∀ j, st ≤ j → j < i → isDot t j = false) → dots (atBol t st) (t.toList.drop st) = (t.extract st i).toList ++ dots (atBol t i) (t.toList.drop i)
  | 0, st, hk, hs, h => by
    have : st = i := by omega
    subst this; simp
  | k + 1, st, hk, hs, h => by
    have h0 := h st (Nat.le_refl _) (by omega)
    rw [drop_cons t (by omega), dots]
    have e0 : (atBol t st && t.getD st 0 == 46) = false := h0
    have e1 : atBol t (st + 1) = (t.getD st 0 == 10) := by simp [atBol]
    rw [e0, if_neg Bool.false_ne_true, ← e1, dots_run t i hi k (st + 1) (by omega) (by omega) fun j h1 h2 => h j (by omega) h2]
    have : (t.extract st i).toList = t.getD st 0 :: (t.extract (st + 1) i).toList := by
      rw [Array.toList_extract, Array.toList_extract, List.extract_eq_take_drop, List.extract_eq_take_drop, drop_cons t (by omega), show i - st = (i - (st + 1)) + 1 by omega, List.take_succ_cons]
    rw [this]; rfl

noncomputable def nx2 (t : Array Nat) (st : Nat) : Option (Nat × Nat) := (firstAt (fun j => isEol (t.getD j 0)) (t.size - st) st).map fun i => (i, eolEnd t i)
noncomputable def nx1 (t : Array Nat) (st : Nat) : Option (Nat × Nat) := (firstAt (isDot t) (t.size - st) st).map fun i => (i, i + 1)
noncomputable def res2 (t : Array Nat) (st : Nat) : List Nat := norm (t.toList.drop st)
noncomputable def res1 (t : Array Nat) (st : Nat) : List Nat := dots (atBol t st) (t.toList.drop st)

theorem nx2_found (t : Array Nat) (st : Nat) (h : st ≤ t.size) : Found (Sre.forSearch code2 t 0 st t.size false) (nx2 t st) := by
  unfold nx2
  cases e : firstAt (fun j => isEol (t.getD j 0)) (t.size - st) st with
  | none => exact search2_none t st fun j h1 h2 => firstAt_none e j h1 (by omega)
  | some i =>
    obtain ⟨h1, h2, h3, h4⟩ := firstAt_some e
    exact search2_some t st i h1 (by omega) h3 h4
theorem nx1_found (t : Array Nat) (st : Nat) (h : st ≤ t.size) : Found (Sre.forSearch code1 t 0 st t.size false) (nx1 t st) := by
  unfold nx1
  cases e : firstAt (isDot t) (t.size - st) st with
  | none => exact search1_none t st fun j h1 h2 => firstAt_none e j h1 (by omega)
  | some i =>
    obtain ⟨h1, h2, h3, h4⟩ := firstAt_some e
    exact search1_some t st i h1 (by omega) h3 h4
theorem nx2_none (t : Array Nat) (st : Nat) (h : st ≤ t.size) (e : nx2 t st = none) : res2 t st = (t.extract st t.size).toList := by
  unfold nx2 at e
  rw [Option.map_eq_none_iff] at e
  have := norm_run t t.size (Nat.le_refl _) (t.size - st) st rfl h fun j h1 h2 => firstAt_none e j h1 (by omega)
  unfold res2
  rw [this, List.drop_of_length_le (by simp)]; simp [norm]
theorem nx1_none (t : Array Nat) (st : Nat) (h : st ≤ t.size) (e : nx1 t st = none) : res1 t st = (t.extract st t.size).toList := by
  unfold nx1 at e
  rw [Option.map_eq_none_iff] at e
  have := dots_run t t.size (Nat.le_refl _) (t.size - st) st rfl h fun j h1 h2 => firstAt_none e j h1 (by omega)
  unfold res1
  rw [this, List.drop_of_length_le (by simp)]; simp [dots]
theorem nx2_some (t : Array Nat) (st i e : Nat) (h : nx2 t st = some (i, e)) : st ≤ i ∧ i < e ∧ e ≤ t.size ∧ res2 t st = (t.extract st i).toList ++ [13, 10] ++ res2 t e := by
  unfold nx2 at h
  obtain ⟨j, hj, hh⟩ := Option.map_eq_some_iff.mp h
  cases hh
  obtain ⟨h1, h2, h3, h4⟩ := firstAt_some hj
  have hi : i < t.size := by omega
  have hr := norm_run t i (by omega) (i - st) st rfl h1 h4
  have he : i < eolEnd t i ∧ eolEnd t i ≤ t.size := by
    by_cases hc : t.getD i 0 = 13 ∧ i + 1 < t.size ∧ t.getD (i + 1) 0 = 10
    · rw [show eolEnd t i = i + 2 from if_pos hc]; omega
    · rw [show eolEnd t i = i + 1 from if_neg hc]; omega
  refine ⟨h1, he.1, he.2, ?_⟩
  unfold res2
  rw [hr, List.append_assoc]
  congr 1
  rw [drop_cons t hi]
  by_cases hc : t.getD i 0 = 13 ∧ i + 1 < t.size ∧ t.getD (i + 1) 0 = 10
  · rw [show eolEnd t i = i + 2 from if_pos hc]
    rw [drop_cons t hc.2.1, hc.1, hc.2.2, norm_crlf]; rfl
  · rw [show eolEnd t i = i + 1 from if_neg hc]
    rw [norm_eol h3]
    · rfl
    · rintro r' ⟨e1, e2⟩
      apply hc
      have hlt : i + 1 < t.size := by
        have := congrArg List.length e2
        simp only [List.length_drop, List.length_cons, Array.length_toList] at this
        omega
      rw [drop_cons t hlt] at e2
      exact ⟨e1, hlt, by injection e2⟩
theorem nx1_some (t : Array Nat) (st i e : Nat) (h : nx1 t st = some (i, e)) : st ≤ i ∧ i < e ∧ e ≤ t.size ∧ res1 t st = (t.extract st i).toList ++ [46, 46] ++ res1 t e := by
  unfold nx1 at h
  obtain ⟨j, hj, hh⟩ := Option.map_eq_some_iff.mp h
  cases hh
  obtain ⟨h1, h2, h3, h4⟩ := firstAt_some hj
  have hi : i < t.size := by omega
  have hr := dots_run t i (by omega) (i - st) st rfl h1 h4
  refine ⟨h1, Nat.lt_succ_self _, hi, ?_⟩
  unfold res1
  rw [hr, List.append_assoc]
  congr 1
  rw [drop_cons t hi, dots]
  have e0 : (atBol t i && t.getD i 0 == 46) = true := h3
  rw [e0, if_pos rfl]
  have e1 : atBol t (i + 1) = (t.getD i 0 == 10) := by simp [atBol]
  rw [e1]
theorem norm_len : ∀ (l : List Nat), (norm l).length ≤ 2 * l.length
  | [] => by simp [norm]
  | [c] => by simp only [norm]; split <;> simp
  | c :: d :: r => by
    rw [norm]
    have h1 := norm_len r
    have h2 := norm_len (d :: r)
    simp only [List.length_cons] at h2 ⊢
    split
    · simp only [List.length_cons]; omega
    · split <;> simp only [List.length_cons] <;> omega
theorem dots_len : ∀ (b : Bool) (l : List Nat), (dots b l).length ≤ 2 * l.length
  | _, [] => by simp [dots]
  | b, c :: r => by
    rw [dots, List.length_append]
    have := dots_len (c == 10) r
    simp only [List.length_cons]
    split <;> simp only [List.length_cons, List.length_nil] <;> omega
theorem search_text2 (t : Array Nat) (st : Nat) : (Sre.forSearch code2 t 0 st t.size false).text = t := by
  by_cases hs : st ≥ t.size
  · have h2 : (decide (st > t.size) || decide (t.size - st < 1)) = true := by simp; omega
    have e : Sre.forSearch code2 t 0 st t.size false = (if (decide (st > t.size) || decide (t.size - st < 1)) = true then Sre.M.say { base2 t st (({} : Sre.Seen).add 14) with lastStart := 0 } false else (base2 t st (({} : Sre.Seen).add 14)).attemptFrom st true) := rfl
    rw [e, if_pos h2]; rfl
  · obtain ⟨sn, e⟩ := search2_eq t st (by omega)
    rw [e, from2]
    split <;> rfl
theorem search_text1 (t : Array Nat) (st : Nat) : (Sre.forSearch code1 t 0 st t.size false).text = t := by
  by_cases hs : st ≥ t.size
  · have h2 : (decide (st > t.size) || decide (t.size - st < 1)) = true := by simp; omega
    have e : Sre.forSearch code1 t 0 st t.size false = (if (decide (st > t.size) || decide (t.size - st < 1)) = true then Sre.M.say { mk1 t st (({} : Sre.Seen).add 14) 5 st st true [] 0 none with lastStart := 0 } false else mk1 t st (({} : Sre.Seen).add 14) 5 st st true [fr1 st true] 1 none) := by kernel_rfl
    rw [e, if_pos h2]; rfl
  · rw [search1_eq t st (by omega)]; rfl

section
variable {prog : Program} {w : World} {A : Around} {E : Value → Shared → Prop} {s : Shared}
theorem call_sub2 {P : Addr} {x : Str} {u v : Tok} {Q : Value → Shared → Prop} (hp : PatAt s.heap P code2) (hx : x.cps.size ≤ 40000) (hQ : ∀ s' t, Keeps s s' → Q (.str ⟨(norm x.cps.toList).toArray⟩ t) s') :
    wpAny (model prog w) A (call (.builtin "re.Pattern.sub") [.ref P, .str (Str.ofString "\r\n") v, .str x u]) Q E s := by
  have e : (Str.ofString "\r\n").cps = #[13, 10] := by kernel_rfl
  have hl := norm_len (x.cps.toList.drop 0)
  rw [List.drop_zero, show x.cps.toList.length = x.cps.size from Array.length_toList] at hl
  refine call_sub (nx := nx2 x.cps) (res := res2 x.cps) hp (by rw [e]; decide +kernel) (by omega) (by show (norm (x.cps.toList.drop 0)).length ≤ _; rw [List.drop_zero]; omega) (by rw [e]; decide) (nx2_found _) (search_text2 _) (fun st i en h => by rw [e]; exact nx2_some _ _ _ _ h) (nx2_none _) ?_
  intro s' t k
  have := hQ s' t k
  show Q (.str ⟨(norm (x.cps.toList.drop 0)).toArray⟩ t) s'
  rwa [List.drop_zero]
theorem call_sub1 {P : Addr} {x : Str} {u v : Tok} {Q : Value → Shared → Prop} (hp : PatAt s.heap P code1) (hx : x.cps.size ≤ 40000) (hQ : ∀ s' t, Keeps s s' → Q (.str ⟨(dots true x.cps.toList).toArray⟩ t) s') :
    wpAny (model prog w) A (call (.builtin "re.Pattern.sub") [.ref P, .str (Str.ofString "..") v, .str x u]) Q E s := by
  have e : (Str.ofString "..").cps = #[46, 46] := by kernel_rfl
  have hl := dots_len true (x.cps.toList.drop 0)
  rw [List.drop_zero, show x.cps.toList.length = x.cps.size from Array.length_toList] at hl
  refine call_sub (nx := nx1 x.cps) (res := res1 x.cps) hp (by rw [e]; decide +kernel) (by omega) (by show (dots true (x.cps.toList.drop 0)).length ≤ _; rw [List.drop_zero]; omega) (by rw [e]; decide) (nx1_found _) (search_text1 _) (fun st i en h => by rw [e]; exact nx1_some _ _ _ _ h) (nx1_none _) ?_
  intro s' t k
  have := hQ s' t k
  show Q (.str ⟨(dots true (x.cps.toList.drop 0)).toArray⟩ t) s'
  rwa [List.drop_zero]
end
end Mine
end

section
open PySem PySem.W PyProof.Rows PySem.SeqAt
set_option maxRecDepth 100000
namespace Mine

mutual
noncomputable def D.eqb : D → D → Bool
  | .none, .none => true
  | .bool a, .bool b => a == b
  | .int a, .int b => decide (a = b)
  | .flt a, .flt b => decide (a = b)
  | .str a, .str b => decide (a = b)
  | .tup a, .tup b => D.eqbs a b
  | .lst a, .lst b => D.eqbs a b
  | _, _ => false
noncomputable def D.eqbs : List D → List D → Bool
  | [], [] => true
  | a :: as, b :: bs => D.eqb a b && D.eqbs as bs
  | _, _ => false
end
mutual
theorem D.eqb_eq : ∀ {a b : D}, D.eqb a b = true → a = b := by
  intro a b h
  cases a with
  | none => cases b with | none => rfl | _ => exact nomatch (show false = true from h)
  | bool x => cases b with | bool y => exact congrArg D.bool (eq_of_beq h) | _ => exact nomatch (show false = true from h)
  | int x => cases b with | int y => exact congrArg D.int (of_decide_eq_true h) | _ => exact nomatch (show false = true from h)
  | flt x => cases b with | flt y => exact congrArg D.flt (of_decide_eq_true h) | _ => exact nomatch (show false = true from h)
  | str x => cases b with | str y => exact congrArg D.str (of_decide_eq_true h) | _ => exact nomatch (show false = true from h)
  | tup x => cases b with | tup y => exact congrArg D.tup (D.eqbs_eq h) | _ => exact nomatch (show false = true from h)
  | lst x => cases b with | lst y => exact congrArg D.lst (D.eqbs_eq h) | _ => exact nomatch (show false = true from h)
  | fn x => cases b <;> exact nomatch (show false = true from h)
theorem D.eqbs_eq : ∀ {a b : List D}, D.eqbs a b = true → a = b := by
  intro a b h
  cases a with
  | nil => cases b with | nil => rfl | cons => exact nomatch (show false = true from h)
  | cons x xs =>
    cases b with
    | nil => exact nomatch (show false = true from h)
    | cons y ys =>
      have h : (D.eqb x y && D.eqbs xs ys) = true := h
      rw [Bool.and_eq_true] at h
      rw [D.eqb_eq h.1, D.eqbs_eq h.2]
end
noncomputable def isR (o : Option D) (d : D) : Bool := match o with | some e => D.eqb e d | none => false
theorem isR_eq {o : Option D} {d : D} (h : isR o d = true) : o = some d := by
  unfold isR at h
  split at h
  · rw [D.eqb_eq h]
  · cases h

noncomputable def P0 : PW := ⟨fun _ => none, []⟩
noncomputable abbrev W4 := Fin 4 × Fin 4
noncomputable def dW (w : W4) : D := .tup [.int w.1.val, .int w.2.val]
noncomputable def prodW (a b : W4) : Fin 4 := a.1 * b.1 + a.2 * b.2

end Mine
end

section
open PySem PySem.W PyProof.Rows PySem.SeqAt
set_option maxRecDepth 100000
set_option maxHeartbeats 4000000
namespace Mine

noncomputable def fdef (k : Nat) : FnRec := match PySem.Challenge.pw_pg0073_01.main.body.drop k with
  | .FunctionDef name args body _ _ _ scope _ _ _ :: _ => ⟨name, args, body, scope⟩
  | _ => ⟨Str.ofString "", ⟨[], [], none, [], [], none, []⟩, [], ⟨.function, [], false, false, []⟩⟩

theorem ofString_inj {a b : String} (h : Str.ofString a = Str.ofString b) : a = b := by
  rw [Str.ofString_eq_toList, Str.ofString_eq_toList] at h
  injection h with h
  have h := congrArg Array.toList h
  simp only at h
  have : a.toList = b.toList := by
    have inj : Function.Injective Char.toNat := fun x y e => by
      have := congrArg Char.ofNat e
      simpa [Char.ofNat_toNat] using this
    exact (List.map_inj_right (fun x y e => inj e)).mp h
  rw [← String.ofList_toList (s := a), this, String.ofList_toList]
theorem ofString_eq {a b : String} : (Str.ofString a = Str.ofString b) = (a = b) := propext ⟨ofString_inj, fun h => h ▸ rfl⟩
theorem ofString_beq {a b : String} : (Str.ofString a == Str.ofString b) = (a == b) := by
  rw [Bool.eq_iff_iff]; simp [ofString_eq]

section
variable {P : PW} {n : Nat} {sc : Scope} {ρ : Rho}
theorem evalP_Name {x : Str} {p : Pos} : evalP P (n + 1) sc ρ (.Name x p) = if okName x then ρ.lookup x else none := rfl
theorem evalP_int {i : Int} {k : Nat} {p : Pos} : evalP P (n + 1) sc ρ (.Constant (.int i) k p) = some (.int i) := rfl
theorem evalP_flt {i : UInt64} {k : Nat} {p : Pos} : evalP P (n + 1) sc ρ (.Constant (.float i) k p) = some (.flt i) := rfl
theorem evalP_str {i : Str} {k : Nat} {p : Pos} : evalP P (n + 1) sc ρ (.Constant (.str i) k p) = some (.str i) := rfl
theorem evalP_none {k : Nat} {p : Pos} : evalP P (n + 1) sc ρ (.Constant .none k p) = some .none := rfl
theorem evalP_bin {l r : Expr} {op : Operator} {p : Pos} : evalP P (n + 1) sc ρ (.BinOp l op r p) = match evalP P n sc ρ l, evalP P n sc ρ r with
  | some a, some b => binP op a b
  | _, _ => none := rfl
theorem evalP_cmp {l r : Expr} {op : CmpOp} {p : Pos} : evalP P (n + 1) sc ρ (.Compare l [op] [r] p) = if behindInMarks op r then none else (match evalP P n sc ρ l, evalP P n sc ρ r with
      | some a, some b => (cmpP op a b).map .bool
      | _, _ => none) := rfl
theorem evalP_if {t b o : Expr} {p : Pos} : evalP P (n + 1) sc ρ (.IfExp t b o p) = (match testE (evalP P n sc ρ) n t with
      | some true => evalP P n sc ρ b
      | some false => evalP P n sc ρ o
      | none => none) := rfl
theorem evalP_tuple {es : List Expr} {k : Nat} {p : Pos} : evalP P (n + 1) sc ρ (.Tuple es k p) = if es.length ≤ 1000 then (evalsE (evalP P n sc ρ) es).map .tup else none := rfl
theorem evalP_list {es : List Expr} {p : Pos} : evalP P (n + 1) sc ρ (.List es p) = if es.length ≤ 1000 then (evalsE (evalP P n sc ρ) es).map .lst else none := rfl
theorem evalP_call {g : Str} {gp pos : Pos} {args : List Expr} : evalP P (n + 1) sc ρ (.Call (.Name g gp) args [] pos) = if okName g ∧ sc.names.lookup g = some .globalImplicit ∧ args ≠ [] then (match P.fn g, evalsE (evalP P n sc ρ) args with
          | some φ, some ds => φ ds
          | _, _ => none) else none := rfl
theorem evalP_meth {o : Expr} {name : Str} {apos pos : Pos} {args : List Expr} : evalP P (n + 1) sc ρ (.Call (.Attribute o name apos) args [] pos) = if plainBase o ∧ apos.endLine = pos.line ∧ args.length < 20 ∧ args ≠ [] then (match evalP P n sc ρ o, evalsE (evalP P n sc ρ) args with
          | some d, some ds => (match P.ms.find? fun m => m.T == tyOf d && m.name == name with
            | some m => m.φ (d :: ds)
            | none => none)
          | _, _ => none) else none := rfl
theorem evalP_comp {elt target iter : Expr} {ifs : List Expr} {sc' : Scope} {p : Pos} : evalP P (n + 1) sc ρ (.ListComp elt [⟨target, iter, ifs, 0⟩] sc' p) = (match targetOf target with
      | none => none
      | some t => if !compOk sc' sc t then none else (match iterE sc (evalP P n sc ρ) t iter with
        | none => none
        | some ds => if ds.length ≤ sizeLine then
            (compItems (fun ρ' => match ifs with | [] => some true | [c] => testE (evalP P n ({ sc' with names := sc'.names.map fun (m, k) => if (k == .free && sc.kind == .function && sc.names.lookup m == some .cell) then (m, .cell) else (m, k) }) ρ') n c | _ => none)
              (fun ρ' => evalP P n ({ sc' with names := sc'.names.map fun (m, k) => if (k == .free && sc.kind == .function && sc.names.lookup m == some .cell) then (m, .cell) else (m, k) }) ρ' elt) t (restr sc' t ρ) ds).map .lst
          else none)) := by
  change ite ((0 : Int) ≠ 0) none _ = _
  exact (if_neg fun h => h rfl).trans rfl
theorem targetOf_name {x : Str} {p : Pos} : targetOf (.Name x p) = some (.one x) := rfl
theorem evalP_slice {v : Expr} {lo hi st : Option Expr} {p p' : Pos} : evalP P (n + 1) sc ρ (.Subscript v (.Slice lo hi st p') p) = (match evalP P n sc ρ v, optInt (evalP P n sc ρ) lo, optInt (evalP P n sc ρ) hi, optInt (evalP P n sc ρ) st with
        | some (.lst ds), some l, some h, some s => if s = some 0 then none else some (.lst (sliceD ds l h s))
        | some (.tup ds), some (some a), some none, some none => if 1 ≤ a ∧ a ≤ ds.length then some (.tup (ds.drop a.toNat)) else none
        | _, _, _, _ => none) := rfl
noncomputable def notSlice : Expr → Bool
  | .Slice .. => false
  | _ => true
theorem evalP_sub {v i : Expr} {p : Pos} (h : notSlice i = true) : evalP P (n + 1) sc ρ (.Subscript v i p) = (match evalP P n sc ρ v, evalP P n sc ρ i with
        | some (.lst ds), some (.int k) => pickD ds k
        | some (.tup ds), some (.int k) => pickD ds k
        | _, _ => none) := by
  cases i <;> first | rfl | cases h
theorem testE_name {ev : Expr → Option D} {k : Nat} {x : Str} {p : Pos} : testE ev (k + 1) (.Name x p) = (match ev (.Name x p) with
      | some d => truthP d
      | none => none) := rfl
theorem testE_cmp {ev : Expr → Option D} {k : Nat} {l r : Expr} {op : CmpOp} {p : Pos} : testE ev (k + 1) (.Compare l [op] [r] p) = if behindInMarks op r then none else match ev l, ev r with
      | some a, some b => cmpP op a b
      | _, _ => none := rfl
theorem testE_bool {ev : Expr → Option D} {k : Nat} {a b : Expr} {op : BoolOp} {p : Pos} : testE ev (k + 1) (.BoolOp op [a, b] p) = (match testE ev k a with
      | none => none
      | some p => match op, p with
        | .And, false => some false
        | .Or, true => some true
        | _, _ => testE ev k b) := rfl
end

section
variable {P : PW} {n : Nat} {sc : Scope} {ρ : Rho} {ω : Om}
noncomputable abbrev relSc (sc' sc : Scope) : Scope := { sc' with names := sc'.names.map fun (m, k) => if (k == .free && sc.kind == .function && sc.names.lookup m == some .cell) then (m, .cell) else (m, k) }
theorem compItems_one {α : Type} {enc f : α → D} {tst : Rho → Option Bool} {el : Rho → Option D} {x : Str} : ∀ {l : List α}, (∀ a ∈ l, tst ((x, enc a) :: ρ) = some true ∧ el ((x, enc a) :: ρ) = some (f a)) → compItems tst el (.one x) ρ (l.map enc) = some (l.map f)
  | [], _ => rfl
  | a :: l, h => by
    simp only [List.map_cons, compItems, bindT]
    rw [(h a List.mem_cons_self).1, (h a List.mem_cons_self).2, compItems_one fun b hb => h b (List.mem_cons_of_mem _ hb)]
theorem compItems_filter {α : Type} {enc f : α → D} {p : α → Bool} {tst : Rho → Option Bool} {el : Rho → Option D} {x : Str} : ∀ {l : List α}, (∀ a ∈ l, tst ((x, enc a) :: ρ) = some (p a) ∧ (p a = true → el ((x, enc a) :: ρ) = some (f a))) → compItems tst el (.one x) ρ (l.map enc) = some ((l.filter p).map f)
  | [], _ => rfl
  | a :: l, h => by
    simp only [List.map_cons, compItems, bindT]
    rw [(h a List.mem_cons_self).1, compItems_filter fun b hb => h b (List.mem_cons_of_mem _ hb)]
    cases hp : p a with
    | false => simp [hp]
    | true => rw [(h a List.mem_cons_self).2 hp]; simp [hp]
theorem E_comp {α : Type} {enc f : α → D} {elt iter : Expr} {x : Str} {px p : Pos} {sc' : Scope} {l : List α} (hc : compOk sc' sc (.one x) = true) (hi : iterE sc (evalP P n sc ρ) (.one x) iter = some (l.map enc)) (hl : l.length ≤ sizeLine)
    (he : ∀ a ∈ l, evalP P n (relSc sc' sc) ((x, enc a) :: restr sc' (.one x) ρ) elt = some (f a)) : evalP P (n + 1) sc ρ (.ListComp elt [⟨.Name x px, iter, [], 0⟩] sc' p) = some (.lst (l.map f)) := by
  rw [evalP_comp]
  simp only [targetOf_name, hc, Bool.not_true, Bool.false_eq_true, if_false, hi, List.length_map, hl, if_true]
  rw [compItems_one fun a ha => ⟨rfl, he a ha⟩]; rfl
theorem E_compIf {α : Type} {enc f : α → D} {p : α → Bool} {elt iter c : Expr} {x : Str} {px q : Pos} {sc' : Scope} {l : List α} (hc : compOk sc' sc (.one x) = true) (hi : iterE sc (evalP P n sc ρ) (.one x) iter = some (l.map enc)) (hl : l.length ≤ sizeLine)
    (ht : ∀ a ∈ l, testE (evalP P n (relSc sc' sc) ((x, enc a) :: restr sc' (.one x) ρ)) n c = some (p a))
    (he : ∀ a ∈ l, p a = true → evalP P n (relSc sc' sc) ((x, enc a) :: restr sc' (.one x) ρ) elt = some (f a)) : evalP P (n + 1) sc ρ (.ListComp elt [⟨.Name x px, iter, [c], 0⟩] sc' q) = some (.lst ((l.filter p).map f)) := by
  rw [evalP_comp]
  simp only [targetOf_name, hc, Bool.not_true, Bool.false_eq_true, if_false, hi, List.length_map, hl, if_true]
  rw [compItems_filter fun a ha => ⟨ht a ha, he a ha⟩]; rfl

theorem E_call {g : Str} {gp pos : Pos} {args : List Expr} {φ : Fn} {ds : List D} {d : D} (hc : (okName g && (sc.names.lookup g == some .globalImplicit) && !args.isEmpty) = true) (hf : P.fn g = some φ) (ha : evalsE (evalP P n sc ρ) args = some ds) (h : φ ds = some d) :
    evalP P (n + 1) sc ρ (.Call (.Name g gp) args [] pos) = some d := by
  simp only [Bool.and_eq_true, beq_iff_eq, Bool.not_eq_true', List.isEmpty_eq_false_iff] at hc
  rw [evalP_call, if_pos ⟨hc.1.1, hc.1.2, hc.2⟩, hf, ha]
  exact h
theorem E_meth {o : Expr} {name : Str} {apos pos : Pos} {args : List Expr} {m : Meth} {d e : D} {ds : List D} (hc : (plainBase o && (apos.endLine == pos.line) && decide (args.length < 20) && !args.isEmpty) = true) (ho : evalP P n sc ρ o = some d) (ha : evalsE (evalP P n sc ρ) args = some ds)
    (hm : (P.ms.find? fun m => m.T == tyOf d && m.name == name) = some m) (h : m.φ (d :: ds) = some e) : evalP P (n + 1) sc ρ (.Call (.Attribute o name apos) args [] pos) = some e := by
  simp only [Bool.and_eq_true, beq_iff_eq, Bool.not_eq_true', List.isEmpty_eq_false_iff, decide_eq_true_eq] at hc
  rw [evalP_meth, if_pos ⟨hc.1.1.1, hc.1.1.2, hc.1.2, hc.2⟩, ho, ha]
  dsimp only
  rw [hm]
  exact h
theorem E_args0 : evalsE (evalP P n sc ρ) [] = some [] := rfl
theorem E_args {e : Expr} {es : List Expr} {d : D} {ds : List D} (hs : isStarred e = false) (h : evalP P n sc ρ e = some d) (ht : evalsE (evalP P n sc ρ) es = some ds) : evalsE (evalP P n sc ρ) (e :: es) = some (d :: ds) := by
  simp only [evalsE, hs, Bool.false_eq_true, if_false, h, ht]
theorem E_sub {v i : Expr} {p : Pos} {ds : List D} {k : Int} {d : D} (hi : notSlice i = true) (hv : evalP P n sc ρ v = some (.lst ds)) (hk : evalP P n sc ρ i = some (.int k)) (h : pickD ds k = some d) : evalP P (n + 1) sc ρ (.Subscript v i p) = some d := by
  rw [evalP_sub hi, hv, hk]; exact h
theorem E_subT {v i : Expr} {p : Pos} {ds : List D} {k : Int} {d : D} (hi : notSlice i = true) (hv : evalP P n sc ρ v = some (.tup ds)) (hk : evalP P n sc ρ i = some (.int k)) (h : pickD ds k = some d) : evalP P (n + 1) sc ρ (.Subscript v i p) = some d := by
  rw [evalP_sub hi, hv, hk]; exact h
theorem E_bin {l r : Expr} {op : Operator} {p : Pos} {a b d : D} (hl : evalP P n sc ρ l = some a) (hr : evalP P n sc ρ r = some b) (h : binP op a b = some d) : evalP P (n + 1) sc ρ (.BinOp l op r p) = some d := by
  rw [evalP_bin, hl, hr]; exact h
theorem E_tuple {es : List Expr} {k : Nat} {p : Pos} {ds : List D} (hl : es.length ≤ 1000) (h : evalsE (evalP P n sc ρ) es = some ds) : evalP P (n + 1) sc ρ (.Tuple es k p) = some (.tup ds) := by
  rw [evalP_tuple, if_pos hl, h]; rfl
theorem E_list {es : List Expr} {p : Pos} {ds : List D} (hl : es.length ≤ 1000) (h : evalsE (evalP P n sc ρ) es = some ds) : evalP P (n + 1) sc ρ (.List es p) = some (.lst ds) := by
  rw [evalP_list, if_pos hl, h]; rfl
theorem T_cmp {ev : Expr → Option D} {k : Nat} {l r : Expr} {op : CmpOp} {p : Pos} {a b : D} {q : Bool} (hm : behindInMarks op r = false) (hl : ev l = some a) (hr : ev r = some b) (h : cmpP op a b = some q) : testE ev (k + 1) (.Compare l [op] [r] p) = some q := by
  rw [testE_cmp, hm, hl, hr, if_neg Bool.false_ne_true]; exact h
theorem E_cmp {l r : Expr} {op : CmpOp} {p : Pos} {a b : D} {q : Bool} (hm : behindInMarks op r = false) (hl : evalP P n sc ρ l = some a) (hr : evalP P n sc ρ r = some b) (h : cmpP op a b = some q) : evalP P (n + 1) sc ρ (.Compare l [op] [r] p) = some (.bool q) := by
  rw [evalP_cmp, hm, hl, hr, if_neg Bool.false_ne_true]; simp only [h, Option.map_some]
theorem E_if {t b o : Expr} {p : Pos} {q : Bool} {d : D} (ht : testE (evalP P n sc ρ) n t = some q) (h : evalP P n sc ρ (if q then b else o) = some d) : evalP P (n + 1) sc ρ (.IfExp t b o p) = some d := by
  rw [evalP_if, ht]; cases q <;> exact h

theorem execsL_nil {ex : Rho → Om → Stmt → Option Res1} : execsL ex [] ρ ω = some (.next ρ ω) := rfl
theorem execsL_cons {ex : Rho → Om → Stmt → Option Res1} {st : Stmt} {rest : List Stmt} : execsL ex (st :: rest) ρ ω = match ex ρ ω st with
    | some (.next ρ' ω') => execsL ex rest ρ' ω'
    | some (.ret d) => some (.ret d)
    | none => none := rfl
theorem execP_assign {x : Str} {p q : Pos} {e : Expr} : execP P (n + 1) sc ρ ω (.Assign [.Name x p] e q) = if slotK sc x && freeO ω x then (match evalP P n sc ρ e with
        | some d => some (.next ((x, d) :: ρ) ω)
        | none => none) else none := rfl
theorem execP_ret {e : Expr} {q : Pos} : execP P (n + 1) sc ρ ω (.Return (some e) q) = match evalP P n sc (full ω ρ) e with
      | some d => some (.ret d)
      | none => none := rfl
theorem execP_if {t : Expr} {b o : List Stmt} {q : Pos} : execP P (n + 1) sc ρ ω (.If t b o q) = match testE (evalP P n sc (full ω ρ)) n t with
      | some true => execsL (execP P n sc) b ρ ω
      | some false => execsL (execP P n sc) o ρ ω
      | none => none := rfl
theorem execP_unpack {es : List Expr} {k : Nat} {p q : Pos} {e : Expr} {l : List (Str × Pos)} (hn : namesOf es = some l) (hs : (isTup e || !(l.map (·.1)).all (fun x => slotK sc x && freeO ω x)) = false) : execP P (n + 1) sc ρ ω (.Assign [.Tuple es k p] e q) = match evalP P n sc ρ e with
        | some (.lst ds) => if ds.length = l.length then some (.next (storeAll (l.map (·.1)) ds ρ) ω) else none
        | some (.tup ds) => if ds.length = l.length then some (.next (storeAll (l.map (·.1)) ds ρ) ω) else none
        | _ => none := by
  conv => lhs; whnf
  rw [hn]
  exact if_neg (by rw [hs]; exact Bool.false_ne_true)
theorem S_assign {x : Str} {p q : Pos} {e : Expr} {d : D} {rest : List Stmt} (hs : (slotK sc x && freeO ω x) = true) (he : evalP P n sc ρ e = some d) : execsL (execP P (n + 1) sc) (.Assign [.Name x p] e q :: rest) ρ ω = execsL (execP P (n + 1) sc) rest ((x, d) :: ρ) ω := by
  rw [execsL_cons]
  simp only [execP_assign, hs, if_true, he]
theorem S_unpackL {es : List Expr} {k : Nat} {p q : Pos} {e : Expr} {l : List (Str × Pos)} {ds : List D} {rest : List Stmt} (hn : namesOf es = some l) (hs : (isTup e || !(l.map (·.1)).all (fun x => slotK sc x && freeO ω x)) = false) (hl : ds.length = l.length) (he : evalP P n sc ρ e = some (.lst ds)) :
    execsL (execP P (n + 1) sc) (.Assign [.Tuple es k p] e q :: rest) ρ ω = execsL (execP P (n + 1) sc) rest (storeAll (l.map (·.1)) ds ρ) ω := by
  rw [execsL_cons]
  rw [execP_unpack hn hs, he]
  simp only [hl, if_true]
theorem S_unpackT {es : List Expr} {k : Nat} {p q : Pos} {e : Expr} {l : List (Str × Pos)} {ds : List D} {rest : List Stmt} (hn : namesOf es = some l) (hs : (isTup e || !(l.map (·.1)).all (fun x => slotK sc x && freeO ω x)) = false) (hl : ds.length = l.length) (he : evalP P n sc ρ e = some (.tup ds)) :
    execsL (execP P (n + 1) sc) (.Assign [.Tuple es k p] e q :: rest) ρ ω = execsL (execP P (n + 1) sc) rest (storeAll (l.map (·.1)) ds ρ) ω := by
  rw [execsL_cons]
  rw [execP_unpack hn hs, he]
  simp only [hl, if_true]
theorem S_ret {e : Expr} {q : Pos} {d : D} {rest : List Stmt} (he : evalP P n sc (full ω ρ) e = some d) : execsL (execP P (n + 1) sc) (.Return (some e) q :: rest) ρ ω = some (.ret d) := by
  rw [execsL_cons]
  simp only [execP_ret, he]
theorem S_if {t : Expr} {b o : List Stmt} {q : Pos} {k : Bool} {rest : List Stmt} (ht : testE (evalP P n sc (full ω ρ)) n t = some k) : execsL (execP P (n + 1) sc) (.If t b o q :: rest) ρ ω =
    match (if k then execsL (execP P n sc) b ρ ω else execsL (execP P n sc) o ρ ω) with
    | some (.next ρ' ω') => execsL (execP P (n + 1) sc) rest ρ' ω'
    | some (.ret d) => some (.ret d)
    | none => none := by
  rw [execsL_cons]
  cases k <;> simp only [execP_if, ht, Bool.false_eq_true, if_false, if_true]
theorem S_if_ret {t : Expr} {b o : List Stmt} {q : Pos} {k : Bool} {rest : List Stmt} {d : D} (ht : testE (evalP P n sc (full ω ρ)) n t = some k) (h : execsL (execP P n sc) (if k then b else o) ρ ω = some (.ret d)) : execsL (execP P (n + 1) sc) (.If t b o q :: rest) ρ ω = some (.ret d) := by
  rw [S_if ht]
  cases k with
  | true => rw [if_pos rfl] at h ⊢; rw [h]
  | false => rw [if_neg Bool.false_ne_true] at h ⊢; rw [h]
theorem S_if_next {t : Expr} {b o : List Stmt} {q : Pos} {k : Bool} {rest : List Stmt} {ρ' : Rho} {ω' : Om} {r : Option Res1} (ht : testE (evalP P n sc (full ω ρ)) n t = some k) (h : execsL (execP P n sc) (if k then b else o) ρ ω = some (.next ρ' ω'))
    (hr : execsL (execP P (n + 1) sc) rest ρ' ω' = r) : execsL (execP P (n + 1) sc) (.If t b o q :: rest) ρ ω = r := by
  rw [S_if ht]
  cases k with
  | true => rw [if_pos rfl] at h ⊢; rw [h]; exact hr
  | false => rw [if_neg Bool.false_ne_true] at h ⊢; rw [h]; exact hr
theorem runP_of {f : FnRec} {ds : List D} {d : D} {os : List Str} {body : List Stmt} (hlen : ds.length = f.xs.length) (hok : fnOk f os = true) (hp : ownPre f.body = (os, body))
    (h : execsL (execP P n f.scope) body (f.xs.zip ds).reverse (os.reverse.map fun x => (x, [])) = some (.ret d)) : runP P n f ds = some d := by
  unfold runP
  rw [hp]
  simp only [hlen, hok, and_self, if_true, h]
end

noncomputable def PW0 : PW := ⟨fun x => ([(Str.ofString "len", lenF), (Str.ofString "int", intF), (Str.ofString "str", strF), (Str.ofString "min", minF), (Str.ofString "max", maxF), (Str.ofString "sum", sumF)] : List (Str × Fn)).lookup x,
  [⟨"str", Str.ofString "join", "str.join", joinF⟩, ⟨"str", Str.ofString "split", "str.split", splitF⟩, ⟨"list", Str.ofString "count", "list.count", countF⟩]⟩
noncomputable def F (k : Nat) : Fn := runP PW0 30 (fdef k)
end Mine
end

section
open PySem PySem.W PyProof.Rows PySem.SeqAt
set_option maxRecDepth 100000
set_option maxHeartbeats 4000000
namespace Mine

noncomputable abbrev Col := UInt64 × UInt64 × UInt64
noncomputable def dCol (c : Col) : D := .tup [.flt c.1, .flt c.2.1, .flt c.2.2]

noncomputable def tower (l : List (Str × Fn)) : PW := ⟨fun x => (l.lookup x).or (PW0.fn x), PW0.ms⟩
/-- replace, its *pairs as one argument more -/
noncomputable def fRep : FnRec := { fdef 5 with params := { (fdef 5).params with args := (fdef 5).params.args ++ (fdef 5).params.vararg.toList } }
noncomputable def replF : Fn
  | d :: rest => if rest.length = 12 then runP PW0 30 fRep [d, .tup rest] else none
  | [] => none
noncomputable def quoteF : Fn
  | [.str x] => if x.cps.size ≤ 20000 then some (.str ⟨(dots true (norm x.cps.toList)).toArray⟩) else none
  | _ => none
noncomputable def PW1 : PW := tower [(Str.ofString "rgb_to_hsv", F 2), (Str.ofString "hsv_to_rgb", F 3), (Str.ofString "_law_word", F 14), (Str.ofString "_law_product", F 15), (Str.ofString "_law_crowd", F 16), (Str.ofString "_law_rows", F 19), (Str.ofString "_law_signed", F 21), (Str.ofString "_law_sums", F 13),
  (Str.ofString "replace", replF), (Str.ofString "quotedata", quoteF)]
theorem PW1_product : PW1.fn (Str.ofString "_law_product") = some (F 15) := by kernel_rfl
theorem PW1_hsv : PW1.fn (Str.ofString "rgb_to_hsv") = some (F 2) := by kernel_rfl
theorem PW1_len : PW1.fn (Str.ofString "len") = some lenF := by kernel_rfl
theorem PW1_sum : PW1.fn (Str.ofString "sum") = some sumF := by kernel_rfl

theorem prodChk : (List.finRange 4).all (fun a => (List.finRange 4).all fun b => (List.finRange 4).all fun c => (List.finRange 4).all fun d => isR (F 15 [dW (a, b), dW (c, d)]) (.int (prodW (a, b) (c, d)).val)) = true := by decide +kernel
theorem prod_ok (a b : W4) : F 15 [dW a, dW b] = some (.int (prodW a b).val) := by
  have := prodChk
  simp only [List.all_eq_true, List.mem_finRange, true_implies] at this
  exact isR_eq (this a.1 a.2 b.1 b.2)

noncomputable def F2 (k : Nat) : Fn := runP PW1 30 (fdef k)
noncomputable def avg (part : Col → UInt64) (q : List (Fin 4)) (wh : Fin 4 → Col) : UInt64 := Float64.div (Flt.sumOf (q.map fun k => part (wh k))) (Float64.ofInt q.length)

theorem asFlts_map : ∀ (l : List UInt64), asFlts (l.map .flt) = some l
  | [] => rfl
  | a :: l => by simp [asFlts, asFlts_map l]
theorem asInts_map : ∀ (l : List Int), asInts (l.map .int) = some l
  | [] => rfl
  | a :: l => by simp [asInts, asInts_map l]
theorem asInts_flt {a : UInt64} {l : List D} : asInts (.flt a :: l) = none := rfl
theorem sumF_flts {l : List UInt64} (h : l ≠ []) : sumF [.lst (l.map .flt)] = some (.flt (Flt.sumOf l)) := by
  cases l with
  | nil => exact absurd rfl h
  | cons a l => simp only [sumF, List.map_cons, asInts_flt, asFlts, asFlts_map, Option.map_some]
theorem sumF_ints {l : List Int} : sumF [.lst (l.map .int)] = some (.int l.sum) := by
  simp only [sumF, asInts_map]

theorem mem8 (n : Nat) (h : n ≤ 8) (h0 : n ≠ 0) : n ∈ [1, 2, 3, 4, 5, 6, 7, 8] :=
  (by decide : ∀ k : Fin 9, k.val ≠ 0 → k.val ∈ [1, 2, 3, 4, 5, 6, 7, 8]) ⟨n, Nat.lt_succ_of_le h⟩ h0
theorem seen_ok (w : W4) (cs : List W4) (hl : cs.length ≤ 8) (h0 : cs ≠ []) (wh : Fin 4 → Col) {a b c : D}
    (hv : F 2 [.flt (avg (·.1) (cs.map (prodW w)) wh), .flt (avg (·.2.1) (cs.map (prodW w)) wh), .flt (avg (·.2.2) (cs.map (prodW w)) wh)] = some (.tup [a, b, c])) :
    F2 17 [dW w, .lst (cs.map dW), .lst [dCol (wh 0), dCol (wh 1), dCol (wh 2), dCol (wh 3)]] = some (.tup [dW w, a, b, c]) := by
  unfold F2
  have h : fdef 17 = fdef 17 := rfl
  conv at h => rhs; whnf
  rw [h]
  refine runP_of (os := []) rfl (by kernel_rfl) rfl ?_
  refine (S_assign (by kernel_rfl) (E_comp (l := cs) (enc := dW) (f := fun o => dCol (wh (prodW w o))) (by kernel_rfl) (by kernel_rfl) (by rw [sizeLine_eq]; omega) fun o ho => ?_)).trans ?_
  · refine E_sub (ds := [dCol (wh 0), dCol (wh 1), dCol (wh 2), dCol (wh 3)]) rfl (by kernel_rfl) (E_call (ds := [dW w, dW o]) (by kernel_rfl) PW1_product (by kernel_rfl) (prod_ok w o)) ?_
    generalize prodW w o = k
    match k with
    | 0 => kernel_rfl
    | 1 => kernel_rfl
    | 2 => kernel_rfl
    | 3 => kernel_rfl
  refine (S_unpackL (l := [(_, _), (_, _), (_, _)]) rfl (by kernel_rfl) rfl (E_comp (l := [0, 1, 2]) (enc := fun (i : Nat) => D.int (i : Int)) (f := fun i => D.flt (avg (fun c => if i = 0 then c.1 else if i = 1 then c.2.1 else c.2.2) (cs.map (prodW w)) wh)) (by kernel_rfl) (by kernel_rfl) (by rw [sizeLine_eq]; decide) fun i hi => ?_)).trans ?_
  · refine E_bin (a := .flt (Flt.sumOf ((cs.map (prodW w)).map fun k => (fun c : Col => if i = 0 then c.1 else if i = 1 then c.2.1 else c.2.2) (wh k)))) (b := .int cs.length)
      (E_call (by kernel_rfl) PW1_sum (E_args rfl (E_comp (l := cs) (enc := fun o => dCol (wh (prodW w o))) (f := fun o => D.flt ((fun c : Col => if i = 0 then c.1 else if i = 1 then c.2.1 else c.2.2) (wh (prodW w o)))) (by kernel_rfl) (by kernel_rfl) (by rw [sizeLine_eq]; omega) fun o ho => ?_) E_args0) ?_)
      (E_call (ds := [.lst (cs.map fun o => dCol (wh (prodW w o)))]) (by kernel_rfl) PW1_len (by kernel_rfl) ?_) ?_
    · refine E_subT (ds := [.flt (wh (prodW w o)).1, .flt (wh (prodW w o)).2.1, .flt (wh (prodW w o)).2.2]) rfl (by kernel_rfl) (k := i) (by kernel_rfl) ?_
      simp only [List.mem_cons, List.not_mem_nil, or_false] at hi
      rcases hi with rfl | rfl | rfl <;> rfl
    · rw [List.map_map, show (cs.map fun o => D.flt ((fun c : Col => if i = 0 then c.1 else if i = 1 then c.2.1 else c.2.2) (wh (prodW w o)))) = (cs.map fun o => ((fun c : Col => if i = 0 then c.1 else if i = 1 then c.2.1 else c.2.2) (wh (prodW w o)))).map D.flt by rw [List.map_map]; rfl, sumF_flts (by simpa using h0)]
      rfl
    · simp only [lenF, List.length_map]
    · have : cs.length ∈ [1, 2, 3, 4, 5, 6, 7, 8] := mem8 _ hl (by simpa using h0)
      unfold avg
      rw [List.length_map]
      generalize cs.length = n at this
      generalize Flt.sumOf _ = z
      show (if Float64.isInf (Float64.ofInt (n : Int)) then none else if Float64.isZero (Float64.ofInt (n : Int)) then none else some (D.flt (Float64.div z (Float64.ofInt (n : Int))))) = _
      have h1 : Float64.isInf (Float64.ofInt (n : Int)) = false ∧ Float64.isZero (Float64.ofInt (n : Int)) = false := by
        revert n
        decide +kernel
      simp only [h1.1, h1.2, Bool.false_eq_true, if_false]
  refine (S_unpackT (l := [(_, _), (_, _), (_, _)]) rfl (by kernel_rfl) rfl (E_call (ds := _) (by kernel_rfl) PW1_hsv (by kernel_rfl) hv)).trans ?_
  exact S_ret (by kernel_rfl)
end Mine
end

section
open PySem PySem.W PyProof.Rows PySem.SeqAt
set_option maxRecDepth 100000
set_option maxHeartbeats 4000000
namespace Mine

section
variable {P : PW} {n : Nat} {sc : Scope} {ρ : Rho} {ω : Om}
theorem E_name {x : Str} {p : Pos} {d : D} (hn : okName x = true) (h : ρ.lookup x = some d) : evalP P (n + 1) sc ρ (.Name x p) = some d := by
  rw [evalP_Name, if_pos hn, h]
theorem T_and {ev : Expr → Option D} {k : Nat} {a b : Expr} {p : Pos} {q r : Bool} (ha : testE ev k a = some q) (hb : q = true → testE ev k b = some r) : testE ev (k + 1) (.BoolOp .And [a, b] p) = some (q && r) := by
  rw [testE_bool, ha]
  cases q with
  | false => rfl
  | true => exact hb rfl
theorem T_or {ev : Expr → Option D} {k : Nat} {a b : Expr} {p : Pos} {q r : Bool} (ha : testE ev k a = some q) (hb : q = false → testE ev k b = some r) : testE ev (k + 1) (.BoolOp .Or [a, b] p) = some (q || r) := by
  rw [testE_bool, ha]
  cases q with
  | true => rfl
  | false => exact hb rfl
theorem execP_append {x : Str} {p1 apos pos q : Pos} {e : Expr} {d : D} {ds : List D} (hc : (okName x && !isStarred e && apos.endLine == pos.line) = true) (hx : ω.lookup x = some ds) (he : evalP P n sc ρ e = some d) :
    execP P (n + 1) sc ρ ω (.Expr (.Call (.Attribute (.Name x p1) (Str.ofString "append") apos) [e] [] pos) q) = if ds.length < 999 then some (.next ρ (growO ω x [d])) else none := by
  refine (if_pos hc).trans ?_
  rw [hx, he]
  exact if_pos rfl
theorem S_append {x : Str} {p1 apos pos q : Pos} {e : Expr} {d : D} {ds : List D} {rest : List Stmt} (hc : (okName x && !isStarred e && apos.endLine == pos.line) = true) (hx : ω.lookup x = some ds) (he : evalP P n sc ρ e = some d) (hl : ds.length < 999) :
    execsL (execP P (n + 1) sc) (.Expr (.Call (.Attribute (.Name x p1) (Str.ofString "append") apos) [e] [] pos) q :: rest) ρ ω = execsL (execP P (n + 1) sc) rest ρ (growO ω x [d]) := by
  rw [execsL_cons]
  rw [execP_append hc hx he, if_pos hl]
theorem S_for {target iter : Expr} {body rest : List Stmt} {q : Pos} {t : Target} {ds : List D} {ρ' : Rho} {ω' : Om} (ht : targetOf target = some t) (hn : t.names.all (fun x => slotK sc x && freeO ω x) = true) (hi : iterE sc (evalP P n sc ρ) t iter = some ds)
    (h : forItems (fun ρ' ω' => execsL (execP P n sc) body ρ' ω') t ds ρ ω = some (.next ρ' ω')) : execsL (execP P (n + 1) sc) (.For target iter body [] q :: rest) ρ ω = execsL (execP P (n + 1) sc) rest ρ' ω' := by
  rw [execsL_cons]
  rw [show execP P (n + 1) sc ρ ω (.For target iter body [] q) = some (.next ρ' ω') by
    conv => lhs; whnf
    rw [ht]
    refine (if_neg (by rw [hn]; exact Bool.false_ne_true)).trans ?_
    rw [hi]
    exact h]
theorem S_forE (V : Rho → Prop) {target iter : Expr} {body rest : List Stmt} {q : Pos} {t : Target} {ds : List D} {ω' : Om} {r : Option Res1} (ht : targetOf target = some t) (hn : t.names.all (fun x => slotK sc x && freeO ω x) = true) (hi : iterE sc (evalP P n sc ρ) t iter = some ds)
    (h : ∃ ρ', V ρ' ∧ forItems (fun ρ' ω' => execsL (execP P n sc) body ρ' ω') t ds ρ ω = some (.next ρ' ω')) (hk : ∀ ρ', V ρ' → execsL (execP P (n + 1) sc) rest ρ' ω' = r) : execsL (execP P (n + 1) sc) (.For target iter body [] q :: rest) ρ ω = r := by
  obtain ⟨ρ', v, h⟩ := h
  rw [S_for ht hn hi h]
  exact hk ρ' v
theorem F_nil {step : Rho → Om → Option Res1} {t : Target} : forItems step t [] ρ ω = some (.next ρ ω) := rfl
theorem F_one {step : Rho → Om → Option Res1} {x : Str} {d : D} {ds : List D} {ρ' : Rho} {ω' : Om} (h : step ((x, d) :: ρ) ω = some (.next ρ' ω')) : forItems step (.one x) (d :: ds) ρ ω = forItems step (.one x) ds ρ' ω' := by
  simp only [forItems, bindT, h]
end

noncomputable def cw (g h s : W4) (i j : Fin 4) : W4 := (s.1 + i * g.1 + j * h.1, s.2 + i * g.2 + j * h.2)
noncomputable def addW (cs : List W4) (w : W4) : List W4 := if cs.contains w then cs else cs ++ [w]
noncomputable def crowdRow (g h s : W4) (cs : List W4) (i : Fin 4) : List W4 := addW (addW cs (cw g h s i 0)) (cw g h s i 2)
noncomputable def crowdW (g h s : W4) : List W4 := (List.finRange 4).foldl (crowdRow g h s) []

theorem addW_len (cs : List W4) (w : W4) : (addW cs w).length ≤ cs.length + 1 := by
  unfold addW; split <;> simp
theorem crowdRow_len (g h s : W4) (cs : List W4) (i : Fin 4) : (crowdRow g h s cs i).length ≤ cs.length + 2 := by
  have := addW_len cs (cw g h s i 0)
  have := addW_len (addW cs (cw g h s i 0)) (cw g h s i 2)
  unfold crowdRow; omega
theorem crowdW_eq (g h s : W4) : crowdW g h s = crowdRow g h s (crowdRow g h s (crowdRow g h s (crowdRow g h s [] 0) 1) 2) 3 := by kernel_rfl
theorem crowdW_len (g h s : W4) : (crowdW g h s).length ≤ 8 := by
  rw [crowdW_eq]
  have h1 := crowdRow_len g h s [] 0
  have h2 := crowdRow_len g h s (crowdRow g h s [] 0) 1
  have h3 := crowdRow_len g h s (crowdRow g h s (crowdRow g h s [] 0) 1) 2
  have h4 := crowdRow_len g h s (crowdRow g h s (crowdRow g h s (crowdRow g h s [] 0) 1) 2) 3
  simp only [List.length_nil] at h1
  omega

theorem deq_dW (a b : W4) : deq eqFuel (dW a) (dW b) = some (a == b) := by
  rw [show deq eqFuel (dW a) (dW b) = some (((a.1.val : Int) == (b.1.val : Int)) && (((a.2.val : Int) == (b.2.val : Int)) && true)) by kernel_rfl]
  obtain ⟨a1, a2⟩ := a
  obtain ⟨b1, b2⟩ := b
  congr 1
  rw [Bool.eq_iff_iff]
  simp only [Bool.and_true, Bool.and_eq_true, beq_iff_eq, Prod.mk.injEq, Fin.ext_iff]
  omega
theorem inP_dW (w : W4) : ∀ (cs : List W4), inP (dW w) (cs.map dW) = some (cs.contains w)
  | [] => rfl
  | c :: cs => by
    show (match deq eqFuel (dW c) (dW w), inP (dW w) (cs.map dW) with
      | some p, some q => some (p || q)
      | _, _ => none) = _
    rw [deq_dW, inP_dW w cs, List.contains_cons, show (c == w) = (w == c) from Bool.beq_comm]

theorem cw_int : ∀ (a b c i : Fin 4) (j : Fin 4), ((a.val : Int) + i.val * b.val + j.val * c.val).fmod 4 = ((a + i * b + j * c : Fin 4).val : Int) := by decide +kernel
theorem sm_fin : ∀ (i : Fin 4), sm (i.val : Int) = true := by decide +kernel

theorem binP_mul {x y : Int} (h : sm x = true) : binP .Mult (.int x) (.int y) = some (.int (x * y)) := if_pos h
theorem mulF (i : Fin 4) (y : Int) : binP .Mult (.int (i.val : Int)) (.int y) = some (.int ((i.val : Int) * y)) := binP_mul (sm_fin i)
theorem notIn_dW (w : W4) (cs : List W4) : cmpP .NotIn (dW w) (.lst (cs.map dW)) = some (!cs.contains w) := by
  rw [show cmpP .NotIn (dW w) (.lst (cs.map dW)) = (inP (dW w) (cs.map dW)).map (!·) from rfl, inP_dW]; rfl
noncomputable def sC : Str := Str.ofString "crowd"


theorem crowd_ok (g h s : W4) : F 16 [dW g, dW h, dW s] = some (.lst ((crowdW g h s).map dW)) := by
  unfold F
  have hf : fdef 16 = fdef 16 := rfl
  conv at hf => rhs; whnf
  rw [hf]
  clear hf
  have inv : ∀ (d : D) (x : Str) (ρ : Rho) (y : Str), (y == x) = false → List.lookup y ((x, d) :: ρ) = List.lookup y ρ := fun d x ρ y e => by rw [List.lookup_cons, e]
  refine runP_of (os := [sC]) rfl (by kernel_rfl) rfl ?_
  let V : Rho → Prop := fun ρ => ρ.lookup (Str.ofString "g") = some (dW g) ∧ ρ.lookup (Str.ofString "h") = some (dW h) ∧ ρ.lookup (Str.ofString "s") = some (dW s)
  have goOn : ∀ ρ x d, V ρ → (Str.ofString "g" == x) = false → (Str.ofString "h" == x) = false → (Str.ofString "s" == x) = false → V ((x, d) :: ρ) := fun ρ x d v e1 e2 e3 => by
    refine ⟨?_, ?_, ?_⟩
    · rw [inv _ _ _ _ e1]; exact v.1
    · rw [inv _ _ _ _ e2]; exact v.2.1
    · rw [inv _ _ _ _ e3]; exact v.2.2
  have v0 : V [(Str.ofString "s", dW s), (Str.ofString "h", dW h), (Str.ofString "g", dW g)] := ⟨by kernel_rfl, by kernel_rfl, by kernel_rfl⟩
  refine S_forE V (t := .one (Str.ofString "i")) (ds := (List.finRange 4).map fun i => D.int (i.val : Int)) (ω' := [(sC, (crowdW g h s).map dW)]) rfl (by kernel_rfl) (by kernel_rfl) ?_ fun ρ' _ => S_ret (by kernel_rfl)
  generalize hstep : (fun ρ' ω' => execsL _ _ ρ' ω') = step
  have row : ∀ ρ (cs : List W4) (i : Fin 4), V ρ → cs.length ≤ 900 → ∃ ρ', V ρ' ∧ step ((Str.ofString "i", D.int (i.val : Int)) :: ρ) [(sC, cs.map dW)] = some (.next ρ' [(sC, (crowdRow g h s cs i).map dW)]) := by
    intro ρ cs i v hl
    rw [← hstep]
    let V' : Rho → Prop := fun ρ => V ρ ∧ ρ.lookup (Str.ofString "i") = some (D.int (i.val : Int))
    have goOn' : ∀ ρ x d, V' ρ → (Str.ofString "g" == x) = false → (Str.ofString "h" == x) = false → (Str.ofString "s" == x) = false → (Str.ofString "i" == x) = false → V' ((x, d) :: ρ) := fun ρ x d v e1 e2 e3 e4 =>
      ⟨goOn ρ x d v.1 e1 e2 e3, by rw [inv _ _ _ _ e4]; exact v.2⟩
    have v0' : V' ((Str.ofString "i", D.int (i.val : Int)) :: ρ) := ⟨goOn ρ _ _ v (by kernel_rfl) (by kernel_rfl) (by kernel_rfl), by rw [List.lookup_cons_self]⟩
    suffices hh : ∃ ρ', V' ρ' ∧ forItems _ (.one (Str.ofString "j")) ([0, 2].map fun j : Fin 4 => D.int (j.val : Int)) ((Str.ofString "i", D.int (i.val : Int)) :: ρ) [(sC, cs.map dW)] = some (.next ρ' [(sC, (crowdRow g h s cs i).map dW)]) by
      obtain ⟨ρ', v', e⟩ := hh
      exact ⟨ρ', v'.1, (S_for (t := .one (Str.ofString "j")) (ds := [0, 2].map fun j : Fin 4 => D.int (j.val : Int)) rfl (by kernel_rfl) (by kernel_rfl) e).trans rfl⟩
    generalize hstep' : (fun ρ' ω' => execsL _ _ ρ' ω') = step'
    have cell : ∀ ρ (cs : List W4) (j : Fin 4), V' ρ → cs.length ≤ 950 → ∃ ρ', V' ρ' ∧ step' ((Str.ofString "j", D.int (j.val : Int)) :: ρ) [(sC, cs.map dW)] = some (.next ρ' [(sC, (addW cs (cw g h s i j)).map dW)]) := by
      intro ρ cs j v hl
      rw [← hstep']
      have v2 := goOn' ρ (Str.ofString "j") (D.int (j.val : Int)) v (by kernel_rfl) (by kernel_rfl) (by kernel_rfl) (by kernel_rfl)
      have vj : List.lookup (Str.ofString "j") ((Str.ofString "j", D.int (j.val : Int)) :: ρ) = some (D.int (j.val : Int)) := List.lookup_cons_self
      generalize ((Str.ofString "j", D.int (j.val : Int)) :: ρ) = ρ at v2 vj
      have v3 := goOn' ρ (Str.ofString "word") (dW (cw g h s i j)) v2 (by kernel_rfl) (by kernel_rfl) (by kernel_rfl) (by kernel_rfl)
      refine ⟨_, v3, (S_assign (d := dW (cw g h s i j)) (by kernel_rfl) (E_tuple (by decide) (E_args rfl ?_ (E_args rfl ?_ E_args0)))).trans ?_⟩
      · refine E_bin (E_bin (E_bin (E_subT (d := .int s.1.val) (ds := [.int s.1.val, .int s.2.val]) rfl (E_name (by kernel_rfl) v2.1.2.2) rfl (by kernel_rfl)) (E_bin (E_name (by kernel_rfl) v2.2) (E_subT (d := .int g.1.val) (ds := [.int g.1.val, .int g.2.val]) rfl (E_name (by kernel_rfl) v2.1.1) rfl (by kernel_rfl)) (mulF _ _)) rfl)
          (E_bin (E_name (by kernel_rfl) vj) (E_subT (d := .int h.1.val) (ds := [.int h.1.val, .int h.2.val]) rfl (E_name (by kernel_rfl) v2.1.2.1) rfl (by kernel_rfl)) (mulF _ _)) rfl) rfl ?_
        show some (D.int _) = some (D.int _)
        rw [cw_int]; rfl
      · refine E_bin (E_bin (E_bin (E_subT (d := .int s.2.val) (ds := [.int s.1.val, .int s.2.val]) rfl (E_name (by kernel_rfl) v2.1.2.2) rfl (by kernel_rfl)) (E_bin (E_name (by kernel_rfl) v2.2) (E_subT (d := .int g.2.val) (ds := [.int g.1.val, .int g.2.val]) rfl (E_name (by kernel_rfl) v2.1.1) rfl (by kernel_rfl)) (mulF _ _)) rfl)
          (E_bin (E_name (by kernel_rfl) vj) (E_subT (d := .int h.2.val) (ds := [.int h.1.val, .int h.2.val]) rfl (E_name (by kernel_rfl) v2.1.2.1) rfl (by kernel_rfl)) (mulF _ _)) rfl) rfl ?_
        show some (D.int _) = some (D.int _)
        rw [cw_int]; rfl
      · refine (S_if (k := !cs.contains (cw g h s i j)) (T_cmp (a := dW (cw g h s i j)) (b := .lst (cs.map dW)) (by kernel_rfl) (E_name (by kernel_rfl) (by kernel_rfl)) (E_name (by kernel_rfl) (by kernel_rfl)) (notIn_dW _ _))).trans ?_
        unfold addW
        cases hc : cs.contains (cw g h s i j) with
        | true => rfl
        | false =>
          simp only [Bool.not_false, if_true]
          rw [S_append (by kernel_rfl) (ds := cs.map dW) (d := dW (cw g h s i j)) (by kernel_rfl) (E_name (by kernel_rfl) (by kernel_rfl)) (by rw [List.length_map]; omega)]
          show some (Res1.next _ [(sC, if sC = sC then cs.map dW ++ [dW (cw g h s i j)] else cs.map dW)]) = _
          rw [if_pos rfl, if_neg Bool.false_ne_true, List.map_append]; rfl
    obtain ⟨ρ1, u1, e1⟩ := cell _ cs 0 v0' (by omega)
    have := addW_len cs (cw g h s i 0)
    obtain ⟨ρ2, u2, e2⟩ := cell _ (addW cs (cw g h s i 0)) 2 u1 (by omega)
    exact ⟨ρ2, u2, by rw [List.map_cons, F_one e1, List.map_cons, F_one e2]; rfl⟩
  obtain ⟨ρ1, u1, e1⟩ := row _ [] 0 v0 (by simp)
  have h1 := crowdRow_len g h s [] 0
  obtain ⟨ρ2, u2, e2⟩ := row _ (crowdRow g h s [] 0) 1 u1 (by simp only [List.length_nil] at h1; omega)
  have h2 := crowdRow_len g h s (crowdRow g h s [] 0) 1
  obtain ⟨ρ3, u3, e3⟩ := row _ (crowdRow g h s (crowdRow g h s [] 0) 1) 2 u2 (by simp only [List.length_nil] at h1; omega)
  have h3 := crowdRow_len g h s (crowdRow g h s (crowdRow g h s [] 0) 1) 2
  obtain ⟨ρ4, u4, e4⟩ := row _ (crowdRow g h s (crowdRow g h s (crowdRow g h s [] 0) 1) 2) 3 u3 (by simp only [List.length_nil] at h1; omega)
  refine ⟨ρ4, u4, ?_⟩
  rw [crowdW_eq, show List.finRange 4 = [0, 1, 2, 3] by decide]
  exact (F_one e1).trans ((F_one e2).trans ((F_one e3).trans ((F_one e4).trans rfl)))
end Mine
end

section
open PySem PySem.W PyProof.Rows PySem.SeqAt
set_option maxRecDepth 100000
set_option maxHeartbeats 4000000
namespace Mine

noncomputable def one4 (k : Fin 4) : D := .int ((k.val + 1 : Nat) : Int)
theorem div4 : ∀ (k : Fin 4), isR (binP .Div (.int (k.val : Int)) (.int 4)) (.flt (qf k.val 4)) = true := by decide +kernel
theorem div4' : ∀ (k : Fin 4), isR (binP .Div (one4 k) (.int 4)) (.flt (qf (k.val + 1) 4)) = true := by decide +kernel
noncomputable def grey (sh va : Fin 4) : UInt64 := qf ((va.val + 1) * (7 - sh.val)) 32
noncomputable def gx (sh va : Fin 4) : Int := ((va.val + 1 : Nat) : Int) * (8 - ((sh.val + 1 : Nat) : Int))
theorem g1 : ∀ (sh : Fin 4), binP .Sub (.int 8) (one4 sh) = some (.int (8 - ((sh.val + 1 : Nat) : Int))) := fun _ => rfl
theorem g2 : ∀ (sh va : Fin 4), isR (binP .Mult (one4 va) (.int (8 - ((sh.val + 1 : Nat) : Int)))) (.int (gx sh va)) = true := by decide +kernel
theorem g3 : ∀ (sh va : Fin 4), isR (binP .Div (.int (gx sh va)) (.int 32)) (.flt (grey sh va)) = true := by decide +kernel
theorem ev_k {P : PW} {n : Nat} {sc : Scope} {ρ : Rho} {i : Int} {k : Nat} {p : Pos} : evalP P (n + 1) sc ρ (.Constant (.int i) k p) = some (.int i) := rfl
noncomputable def clearW (w g h : W4) : Bool := (prodW w g == 0) && ((prodW w h).val % 2 == 0)
theorem mod2 : ∀ (k : Fin 4), isR (binP .Mod (.int (k.val : Int)) (.int 2)) (.int ((k.val % 2 : Nat) : Int)) = true := by decide +kernel
theorem eq0 : ∀ (k : Fin 4), cmpP .Eq (.int (k.val : Int)) (.int 0) = some (k == 0) := by
  intro k
  match k with
  | 0 => kernel_rfl
  | 1 => kernel_rfl
  | 2 => kernel_rfl
  | 3 => kernel_rfl
theorem eq0' : ∀ (k : Fin 4), cmpP .Eq (.int ((k.val % 2 : Nat) : Int)) (.int 0) = some (k.val % 2 == 0) := by
  intro k
  match k with
  | 0 => kernel_rfl
  | 1 => kernel_rfl
  | 2 => kernel_rfl
  | 3 => kernel_rfl

noncomputable def f0 : UInt64 := Float64.ofInt 0
noncomputable def dueR (w g h s : W4) (sh va : Fin 4) : D :=
  if clearW w g h then .tup [dW w, .flt (qf (prodW w s).val 4), .flt (qf (sh.val + 1) 4), .flt (qf (va.val + 1) 4)]
  else .tup [dW w, .flt f0, .flt f0, .flt (grey sh va)]

theorem due_ok (w g h s : W4) (sh va : Fin 4) : F2 18 [dW w, dW g, dW h, dW s, one4 sh, one4 va] = some (dueR w g h s sh va) := by
  unfold F2
  have hf : fdef 18 = fdef 18 := rfl
  conv at hf => rhs; whnf
  rw [hf]
  clear hf
  refine runP_of (os := []) rfl (by kernel_rfl) rfl ?_
  unfold dueR
  cases hc : clearW w g h with
  | true =>
    rw [if_pos rfl]
    refine S_if_ret (k := true) (hc ▸ (T_and (T_cmp (a := .int (prodW w g).val) (b := .int 0) (by kernel_rfl) (E_call (ds := [dW w, dW g]) (by kernel_rfl) PW1_product (by kernel_rfl) (prod_ok w g)) ev_k (eq0 _)) fun _ =>
    T_cmp (a := .int ((prodW w h).val % 2 : Nat)) (b := .int 0) (by kernel_rfl) (E_bin (E_call (ds := [dW w, dW h]) (by kernel_rfl) PW1_product (by kernel_rfl) (prod_ok w h)) ev_k (isR_eq (mod2 _))) ev_k (eq0' _))) ?_
    rw [if_pos rfl]
    exact S_ret (E_tuple (by decide) (E_args rfl (E_name (by kernel_rfl) (by kernel_rfl)) (E_args rfl (E_bin (E_call (ds := [dW w, dW s]) (by kernel_rfl) PW1_product (by kernel_rfl) (prod_ok w s)) ev_k (isR_eq (div4 _)))
      (E_args rfl (E_bin (a := one4 sh) (E_name (by kernel_rfl) (by kernel_rfl)) ev_k (isR_eq (div4' _))) (E_args rfl (E_bin (a := one4 va) (E_name (by kernel_rfl) (by kernel_rfl)) ev_k (isR_eq (div4' _))) E_args0)))))
  | false =>
    rw [if_neg Bool.false_ne_true]
    refine S_if_next (k := false) (hc ▸ (T_and (T_cmp (a := .int (prodW w g).val) (b := .int 0) (by kernel_rfl) (E_call (ds := [dW w, dW g]) (by kernel_rfl) PW1_product (by kernel_rfl) (prod_ok w g)) ev_k (eq0 _)) fun _ =>
    T_cmp (a := .int ((prodW w h).val % 2 : Nat)) (b := .int 0) (by kernel_rfl) (E_bin (E_call (ds := [dW w, dW h]) (by kernel_rfl) PW1_product (by kernel_rfl) (prod_ok w h)) ev_k (isR_eq (mod2 _))) ev_k (eq0' _))) (by rw [if_neg Bool.false_ne_true]; exact execsL_nil) ?_
    exact S_ret (E_tuple (by decide) (E_args rfl (E_name (by kernel_rfl) (by kernel_rfl)) (E_args rfl (by kernel_rfl) (E_args rfl (by kernel_rfl) (E_args rfl (E_bin (E_bin (a := one4 va) (E_name (by kernel_rfl) (by kernel_rfl)) (E_bin ev_k (E_name (d := one4 sh) (by kernel_rfl) (by kernel_rfl)) (g1 sh)) (isR_eq (g2 sh va))) ev_k (isR_eq (g3 sh va))) E_args0)))))
end Mine
end

section
open PySem PySem.W PyProof.Rows PySem.SeqAt
set_option maxRecDepth 100000
set_option maxHeartbeats 4000000
namespace Mine

noncomputable def colN (sh va : Fin 4) (k : Fin 4) : Nat × Nat × Nat :=
  let V := 8 * (va.val + 1)
  let P := (va.val + 1) * (6 - 2 * sh.val)
  let M := (va.val + 1) * (7 - sh.val)
  match k with
  | 0 => (V, P, P)
  | 1 => (M, V, P)
  | 2 => (P, V, V)
  | 3 => (M, P, V)
noncomputable def whl (sh va : Fin 4) (k : Fin 4) : Col := (qf (colN sh va k).1 32, qf (colN sh va k).2.1 32, qf (colN sh va k).2.2 32)
noncomputable def hue0 (k : Fin 4) : UInt64 := Float64.mul (Float64.ofInt (k.val : Int)) (qf 5 4)

noncomputable def wheelB (sh : Fin 4) : Bool := (List.finRange 4).all fun va => (List.finRange 4).all fun k => isR (F 3 [.flt (hue0 k), .flt (qf (sh.val + 1) 4), .flt (qf (va.val + 1) 4)]) (dCol (whl sh va k))
theorem wheelB0 : wheelB 0 = true := by decide +kernel
theorem wheelB1 : wheelB 1 = true := by decide +kernel
theorem wheelB2 : wheelB 2 = true := by decide +kernel
theorem wheelB3 : wheelB 3 = true := by decide +kernel
theorem fin4_all {p : Fin 4 → Bool} (h0 : p 0 = true) (h1 : p 1 = true) (h2 : p 2 = true) (h3 : p 3 = true) : (List.finRange 4).all p = true := by
  rw [show List.finRange 4 = [0, 1, 2, 3] by decide]
  simp only [List.all_cons, List.all_nil, h0, h1, h2, h3, Bool.and_self]
theorem wheelChk : (List.finRange 4).all (fun sh => (List.finRange 4).all fun va => (List.finRange 4).all fun k => isR (F 3 [.flt (hue0 k), .flt (qf (sh.val + 1) 4), .flt (qf (va.val + 1) 4)]) (dCol (whl sh va k))) = true := fin4_all (p := wheelB) wheelB0 wheelB1 wheelB2 wheelB3
noncomputable def clearB (sh : Fin 4) : Bool := (List.finRange 4).all fun va => (List.finRange 4).all fun k => isR (F 2 [.flt (whl sh va k).1, .flt (whl sh va k).2.1, .flt (whl sh va k).2.2]) (.tup [.flt (qf k.val 4), .flt (qf (sh.val + 1) 4), .flt (qf (va.val + 1) 4)])
theorem clearB0 : clearB 0 = true := by decide +kernel
theorem clearB1 : clearB 1 = true := by decide +kernel
theorem clearB2 : clearB 2 = true := by decide +kernel
theorem clearB3 : clearB 3 = true := by decide +kernel
theorem clearChk : (List.finRange 4).all (fun sh => (List.finRange 4).all fun va => (List.finRange 4).all fun k => isR (F 2 [.flt (whl sh va k).1, .flt (whl sh va k).2.1, .flt (whl sh va k).2.2]) (.tup [.flt (qf k.val 4), .flt (qf (sh.val + 1) 4), .flt (qf (va.val + 1) 4)])) = true := fin4_all (p := clearB) clearB0 clearB1 clearB2 clearB3
theorem dullChk : (List.finRange 4).all (fun sh => (List.finRange 4).all fun va => isR (F 2 [.flt (grey sh va), .flt (grey sh va), .flt (grey sh va)]) (.tup [.flt f0, .flt f0, .flt (grey sh va)])) = true := by decide +kernel

noncomputable def seqs : List (List (Fin 4)) := [[0], [0, 0], [0, 0, 0, 0], [0, 0, 0, 0, 0, 0, 0, 0], [0, 0, 1, 1, 2, 2, 3, 3], [0, 0, 2, 2], [0, 0, 2, 2, 0, 0, 2, 2], [0, 0, 3, 3, 2, 2, 1, 1], [0, 1, 2, 3], [0, 2], [0, 2, 0, 2], [0, 2, 0, 2, 0, 2, 0, 2],
  [0, 2, 1, 3], [0, 2, 1, 3, 2, 0, 3, 1], [0, 2, 2, 0], [0, 2, 2, 0, 0, 2, 2, 0], [0, 2, 3, 1], [0, 2, 3, 1, 2, 0, 1, 3], [0, 3, 2, 1]]
noncomputable def okSeq (q : List (Fin 4)) : Bool := [1, 2, 4, 8].contains q.length && (q.all (· == 0) || (List.finRange 4).all fun a => (List.finRange 4).all fun sh => (List.finRange 4).all fun va =>
  let M := (va.val + 1) * (7 - sh.val)
  (q.map fun k => (colN sh va (a + k)).1).sum == q.length * M && (q.map fun k => (colN sh va (a + k)).2.1).sum == q.length * M && (q.map fun k => (colN sh va (a + k)).2.2).sum == q.length * M)
theorem okSeqs : seqs.all okSeq = true := by decide +kernel
noncomputable def q0 (w g h : W4) : List (Fin 4) := (crowdW g h (0, 0)).map (prodW w)
noncomputable def allW : List W4 := (List.finRange 4).flatMap fun a => (List.finRange 4).map fun b => (a, b)
noncomputable def crowdsT : List (List W4 × List W4) := [([(0, 0)], [(0, 0), (0, 1), (0, 2), (0, 3), (1, 0), (1, 1), (1, 2), (1, 3), (2, 0), (2, 1), (2, 2), (2, 3), (3, 0), (3, 1), (3, 2), (3, 3)]), ([(0, 0), (0, 2)], [(0, 0), (0, 2), (1, 0), (1, 2), (2, 0), (2, 2), (3, 0), (3, 2)]), ([(0, 0), (2, 0)], [(0, 0), (0, 1), (0, 2), (0, 3), (2, 0), (2, 1), (2, 2), (2, 3)]), ([(0, 0), (2, 2)], [(0, 0), (0, 2), (1, 1), (1, 3), (2, 0), (2, 2), (3, 1), (3, 3)]), ([(0, 0), (0, 1), (0, 2), (0, 3)], [(0, 0), (1, 0), (2, 0), (3, 0)]), ([(0, 0), (0, 2), (0, 1), (0, 3)], [(0, 0), (1, 0), (2, 0), (3, 0)]), ([(0, 0), (2, 0), (0, 1), (2, 1), (0, 2), (2, 2), (0, 3), (2, 3)], [(0, 0), (2, 0)]), ([(0, 0), (2, 2), (0, 1), (2, 3), (0, 2), (2, 0), (0, 3), (2, 1)], [(0, 0), (2, 0)]), ([(0, 0), (2, 0), (0, 2), (2, 2)], [(0, 0), (0, 2), (2, 0), (2, 2)]), ([(0, 0), (2, 2), (0, 2), (2, 0)], [(0, 0), (0, 2), (2, 0), (2, 2)]), ([(0, 0), (0, 3), (0, 2), (0, 1)], [(0, 0), (1, 0), (2, 0), (3, 0)]), ([(0, 0), (0, 2), (0, 3), (0, 1)], [(0, 0), (1, 0), (2, 0), (3, 0)]), ([(0, 0), (2, 0), (0, 3), (2, 3), (0, 2), (2, 2), (0, 1), (2, 1)], [(0, 0), (2, 0)]), ([(0, 0), (2, 2), (0, 3), (2, 1), (0, 2), (2, 0), (0, 1), (2, 3)], [(0, 0), (2, 0)]), ([(0, 0), (1, 0), (2, 0), (3, 0)], [(0, 0), (0, 1), (0, 2), (0, 3)]), ([(0, 0), (0, 2), (1, 0), (1, 2), (2, 0), (2, 2), (3, 0), (3, 2)], [(0, 0), (0, 2)]), ([(0, 0), (2, 0), (1, 0), (3, 0)], [(0, 0), (0, 1), (0, 2), (0, 3)]), ([(0, 0), (2, 2), (1, 0), (3, 2), (2, 0), (0, 2), (3, 0), (1, 2)], [(0, 0), (0, 2)]), ([(0, 0), (1, 1), (2, 2), (3, 3)], [(0, 0), (1, 3), (2, 2), (3, 1)]), ([(0, 0), (0, 2), (1, 1), (1, 3), (2, 2), (2, 0), (3, 3), (3, 1)], [(0, 0), (2, 2)]), ([(0, 0), (2, 0), (1, 1), (3, 1), (2, 2), (0, 2), (3, 3), (1, 3)], [(0, 0), (2, 2)]), ([(0, 0), (2, 2), (1, 1), (3, 3)], [(0, 0), (1, 3), (2, 2), (3, 1)]), ([(0, 0), (1, 2), (2, 0), (3, 2)], [(0, 0), (0, 2), (2, 1), (2, 3)]), ([(0, 0), (0, 2), (1, 2), (1, 0), (2, 0), (2, 2), (3, 2), (3, 0)], [(0, 0), (0, 2)]), ([(0, 0), (2, 0), (1, 2), (3, 2)], [(0, 0), (0, 2), (2, 1), (2, 3)]), ([(0, 0), (2, 2), (1, 2), (3, 0), (2, 0), (0, 2), (3, 2), (1, 0)], [(0, 0), (0, 2)]), ([(0, 0), (1, 3), (2, 2), (3, 1)], [(0, 0), (1, 1), (2, 2), (3, 3)]), ([(0, 0), (0, 2), (1, 3), (1, 1), (2, 2), (2, 0), (3, 1), (3, 3)], [(0, 0), (2, 2)]), ([(0, 0), (2, 0), (1, 3), (3, 3), (2, 2), (0, 2), (3, 1), (1, 1)], [(0, 0), (2, 2)]), ([(0, 0), (2, 2), (1, 3), (3, 1)], [(0, 0), (1, 1), (2, 2), (3, 3)]), ([(0, 0), (0, 2), (2, 0), (2, 2)], [(0, 0), (0, 2), (2, 0), (2, 2)]), ([(0, 0), (2, 2), (2, 0), (0, 2)], [(0, 0), (0, 2), (2, 0), (2, 2)]), ([(0, 0), (2, 1), (0, 2), (2, 3)], [(0, 0), (1, 2), (2, 0), (3, 2)]), ([(0, 0), (0, 2), (2, 1), (2, 3)], [(0, 0), (1, 2), (2, 0), (3, 2)]), ([(0, 0), (2, 0), (2, 1), (0, 1), (0, 2), (2, 2), (2, 3), (0, 3)], [(0, 0), (2, 0)]), ([(0, 0), (2, 2), (2, 1), (0, 3), (0, 2), (2, 0), (2, 3), (0, 1)], [(0, 0), (2, 0)]), ([(0, 0), (0, 2), (2, 2), (2, 0)], [(0, 0), (0, 2), (2, 0), (2, 2)]), ([(0, 0), (2, 0), (2, 2), (0, 2)], [(0, 0), (0, 2), (2, 0), (2, 2)]), ([(0, 0), (2, 3), (0, 2), (2, 1)], [(0, 0), (1, 2), (2, 0), (3, 2)]), ([(0, 0), (0, 2), (2, 3), (2, 1)], [(0, 0), (1, 2), (2, 0), (3, 2)]), ([(0, 0), (2, 0), (2, 3), (0, 3), (0, 2), (2, 2), (2, 1), (0, 1)], [(0, 0), (2, 0)]), ([(0, 0), (2, 2), (2, 3), (0, 1), (0, 2), (2, 0), (2, 1), (0, 3)], [(0, 0), (2, 0)]), ([(0, 0), (3, 0), (2, 0), (1, 0)], [(0, 0), (0, 1), (0, 2), (0, 3)]), ([(0, 0), (0, 2), (3, 0), (3, 2), (2, 0), (2, 2), (1, 0), (1, 2)], [(0, 0), (0, 2)]), ([(0, 0), (2, 0), (3, 0), (1, 0)], [(0, 0), (0, 1), (0, 2), (0, 3)]), ([(0, 0), (2, 2), (3, 0), (1, 2), (2, 0), (0, 2), (1, 0), (3, 2)], [(0, 0), (0, 2)]), ([(0, 0), (3, 1), (2, 2), (1, 3)], [(0, 0), (1, 1), (2, 2), (3, 3)]), ([(0, 0), (0, 2), (3, 1), (3, 3), (2, 2), (2, 0), (1, 3), (1, 1)], [(0, 0), (2, 2)]), ([(0, 0), (2, 0), (3, 1), (1, 1), (2, 2), (0, 2), (1, 3), (3, 3)], [(0, 0), (2, 2)]), ([(0, 0), (2, 2), (3, 1), (1, 3)], [(0, 0), (1, 1), (2, 2), (3, 3)]), ([(0, 0), (3, 2), (2, 0), (1, 2)], [(0, 0), (0, 2), (2, 1), (2, 3)]), ([(0, 0), (0, 2), (3, 2), (3, 0), (2, 0), (2, 2), (1, 2), (1, 0)], [(0, 0), (0, 2)]), ([(0, 0), (2, 0), (3, 2), (1, 2)], [(0, 0), (0, 2), (2, 1), (2, 3)]), ([(0, 0), (2, 2), (3, 2), (1, 0), (2, 0), (0, 2), (1, 2), (3, 0)], [(0, 0), (0, 2)]), ([(0, 0), (3, 3), (2, 2), (1, 1)], [(0, 0), (1, 3), (2, 2), (3, 1)]), ([(0, 0), (0, 2), (3, 3), (3, 1), (2, 2), (2, 0), (1, 1), (1, 3)], [(0, 0), (2, 2)]), ([(0, 0), (2, 0), (3, 3), (1, 3), (2, 2), (0, 2), (1, 1), (3, 1)], [(0, 0), (2, 2)]), ([(0, 0), (2, 2), (3, 3), (1, 1)], [(0, 0), (1, 3), (2, 2), (3, 1)])]

noncomputable def clearL (g h : W4) : List W4 := allW.filter fun w => clearW w g h
theorem tabChk : allW.all (fun g => allW.all fun h => crowdsT.contains (crowdW g h (0, 0), clearL g h)) = true := by decide +kernel
theorem all_split {α : Type} {p : α → Bool} {l : List α} (n : Nat) (h1 : (l.take n).all p = true) (h2 : (l.drop n).all p = true) : l.all p = true := by
  rw [← List.take_append_drop n l, List.all_append, h1, h2]; rfl
noncomputable def tab2 (p : List W4 × List W4) : Bool := allW.all fun w => seqs.contains (p.1.map (prodW w)) && ((p.1.map (prodW w)).all (· == 0) == p.2.contains w)
theorem tab2A : (crowdsT.take 20).all tab2 = true := by decide +kernel
theorem tab2B : ((crowdsT.drop 20).take 20).all tab2 = true := by decide +kernel
theorem tab2C : ((crowdsT.drop 20).drop 20).all tab2 = true := by decide +kernel
theorem tabChk2 : crowdsT.all (fun p => allW.all fun w => seqs.contains (p.1.map (prodW w)) && ((p.1.map (prodW w)).all (· == 0) == p.2.contains w)) = true := all_split (p := tab2) 20 tab2A (all_split 20 tab2B tab2C)
theorem mem_allW (w : W4) : w ∈ allW := by
  simp only [allW, List.mem_flatMap, List.mem_map, List.mem_finRange, true_and]
  exact ⟨w.1, w.2, rfl⟩
theorem tab_mem (g h : W4) : (crowdW g h (0, 0), clearL g h) ∈ crowdsT := by
  have h1 := List.all_eq_true.mp (List.all_eq_true.mp tabChk g (mem_allW g)) h (mem_allW h)
  simpa using h1
theorem mem_clearL (g h w : W4) : (clearL g h).contains w = clearW w g h := by
  rw [Bool.eq_iff_iff]
  simp [clearL, mem_allW]
theorem seq_ok (g h w : W4) : q0 w g h ∈ seqs ∧ ((q0 w g h).all (· == 0) = clearW w g h) := by
  have h1 := List.all_eq_true.mp (List.all_eq_true.mp tabChk2 _ (tab_mem g h)) w (mem_allW w)
  simp only [Bool.and_eq_true, beq_iff_eq] at h1
  rw [mem_clearL] at h1
  exact ⟨List.contains_iff_mem.mp h1.1, h1.2⟩
end Mine
end

section
open PySem PySem.W PyProof.Rows PySem.SeqAt
set_option maxRecDepth 100000
set_option maxHeartbeats 4000000
namespace Mine

noncomputable def addP (s w : W4) : W4 := (s.1 + w.1, s.2 + w.2)
theorem fin_comm : ∀ a b : Fin 4, a + b = b + a := by decide +kernel
theorem fin_assoc : ∀ a b c : Fin 4, a + b + c = a + (b + c) := by decide +kernel
theorem fin_zero : ∀ a : Fin 4, 0 + a = a := by decide +kernel
theorem fin_dist : ∀ a b c : Fin 4, a * (b + c) = a * b + a * c := by decide +kernel
theorem fin_cancel : ∀ a b c : Fin 4, a + b = a + c → b = c := by decide +kernel
theorem addP_inj {s a b : W4} (h : addP s a = addP s b) : a = b := by
  obtain ⟨a1, a2⟩ := a
  obtain ⟨b1, b2⟩ := b
  simp only [addP, Prod.mk.injEq] at h
  rw [fin_cancel _ _ _ h.1, fin_cancel _ _ _ h.2]
theorem cw_shift (g h s : W4) (i j : Fin 4) : cw g h s i j = addP s (cw g h (0, 0) i j) := by
  simp only [cw, addP, fin_zero, fin_assoc]
theorem addW_shift (s : W4) (cs : List W4) (w : W4) : addW (cs.map (addP s)) (addP s w) = (addW cs w).map (addP s) := by
  have e : (cs.map (addP s)).contains (addP s w) = cs.contains w := by
    rw [Bool.eq_iff_iff]
    simp only [List.contains_iff_mem, List.mem_map]
    exact ⟨fun ⟨a, ha, e⟩ => addP_inj e ▸ ha, fun h => ⟨w, h, rfl⟩⟩
  unfold addW
  rw [e]
  split <;> simp
theorem crowd_shift (g h s : W4) : crowdW g h s = (crowdW g h (0, 0)).map (addP s) := by
  have row : ∀ cs i, crowdRow g h s (cs.map (addP s)) i = (crowdRow g h (0, 0) cs i).map (addP s) := fun cs i => by
    unfold crowdRow
    rw [cw_shift g h s i 0, cw_shift g h s i 2, addW_shift, addW_shift]
  rw [crowdW_eq, crowdW_eq, ← row, ← row, ← row, ← row]; rfl
theorem prod_addP (w s c : W4) : prodW w (addP s c) = prodW w s + prodW w c := by
  simp only [prodW, addP, fin_dist]
  rw [fin_assoc, fin_assoc, ← fin_assoc (w.1 * c.1), fin_comm (w.1 * c.1) (w.2 * s.2), fin_assoc]
theorem seq_shift (w g h s : W4) : (crowdW g h s).map (prodW w) = (q0 w g h).map (prodW w s + ·) := by
  rw [crowd_shift, q0, List.map_map, List.map_map]
  exact List.map_congr_left fun c _ => prod_addP w s c
noncomputable def wheelD (sh va : Fin 4) : D := .lst [dCol (whl sh va 0), dCol (whl sh va 1), dCol (whl sh va 2), dCol (whl sh va 3)]

theorem avg_is {part : Col → UInt64} {N : Fin 4 → Nat} {wh : Fin 4 → Col} {q : List (Fin 4)} {S : Nat} (hp : ∀ k, part (wh k) = qf (N k) 32) (hl : q.length ∈ [1, 2, 4, 8]) (hS : S ≤ 32) (hsum : (q.map N).sum = q.length * S) : avg part q wh = qf S 32 := by
  unfold avg
  have e : (q.map fun k => part (wh k)) = (q.map N).map fun n => qf n 32 := by
    rw [List.map_map]; exact List.map_congr_left fun k _ => hp k
  rw [e]
  have := mean_is (l := q.map N) (n := q.length) (s := S) (by simp) hl hS hsum
  rwa [List.length_map] at this
theorem colN_le : ∀ (sh va k : Fin 4), (colN sh va k).1 ≤ 32 ∧ (colN sh va k).2.1 ≤ 32 ∧ (colN sh va k).2.2 ≤ 32 := by decide +kernel
theorem M_le : ∀ (sh va : Fin 4), (va.val + 1) * (7 - sh.val) ≤ 32 := by decide +kernel
theorem sum_const {N : Fin 4 → Nat} {a : Fin 4} : ∀ {q : List (Fin 4)}, q.all (· == 0) = true → ((q.map (a + ·)).map N).sum = (q.map (a + ·)).length * N a
  | [], _ => by simp
  | k :: q, h => by
    simp only [List.all_cons, Bool.and_eq_true, beq_iff_eq] at h
    obtain ⟨rfl, h⟩ := h
    rw [List.map_cons, List.map_cons, List.sum_cons, sum_const h, List.length_cons, Nat.succ_mul]
    rw [show a + 0 = a by rw [fin_comm, fin_zero]]
    omega

theorem all3 {p : Fin 4 → Fin 4 → Fin 4 → Bool} (h : ((List.finRange 4).all fun a => (List.finRange 4).all fun b => (List.finRange 4).all fun c => p a b c) = true) (a b c : Fin 4) : p a b c = true := by
  simp only [List.all_eq_true, List.mem_finRange, true_implies] at h
  exact h a b c
theorem all2 {p : Fin 4 → Fin 4 → Bool} (h : ((List.finRange 4).all fun a => (List.finRange 4).all fun b => p a b) = true) (a b : Fin 4) : p a b = true := by
  simp only [List.all_eq_true, List.mem_finRange, true_implies] at h
  exact h a b

theorem seen_due (w g h s : W4) (sh va : Fin 4) : F2 17 [dW w, .lst ((crowdW g h s).map dW), wheelD sh va] = some (dueR w g h s sh va) := by
  obtain ⟨hm, hz⟩ := seq_ok g h w
  have hq := List.all_eq_true.mp okSeqs _ hm
  unfold okSeq at hq
  simp only [Bool.and_eq_true] at hq
  obtain ⟨hlen, hq⟩ := hq
  have hlen : (q0 w g h).length ∈ [1, 2, 4, 8] := by simpa using hlen
  have hl2 : ((crowdW g h s).map (prodW w)).length ∈ [1, 2, 4, 8] := by rw [seq_shift, List.length_map]; exact hlen
  have h0 : crowdW g h s ≠ [] := fun e => by rw [e] at hl2; simp at hl2
  unfold dueR
  cases hc : clearW w g h with
  | true =>
    rw [if_pos rfl]
    rw [hc] at hz
    refine seen_ok w _ (crowdW_len g h s) h0 (whl sh va) ?_
    have hb := colN_le sh va (prodW w s)
    rw [avg_is (N := fun k => (colN sh va k).1) (fun _ => rfl) hl2 hb.1 (by rw [seq_shift]; exact sum_const hz), avg_is (N := fun k => (colN sh va k).2.1) (fun _ => rfl) hl2 hb.2.1 (by rw [seq_shift]; exact sum_const hz),
      avg_is (N := fun k => (colN sh va k).2.2) (fun _ => rfl) hl2 hb.2.2 (by rw [seq_shift]; exact sum_const hz)]
    exact isR_eq (all3 clearChk sh va (prodW w s))
  | false =>
    rw [if_neg Bool.false_ne_true]
    rw [hc] at hz
    rw [hz, Bool.false_or] at hq
    have h3 := all3 hq (prodW w s) sh va
    simp only [Bool.and_eq_true, beq_iff_eq] at h3
    obtain ⟨⟨r1, r2⟩, r3⟩ := h3
    have hM := M_le sh va
    have mm : ∀ N : Fin 4 → Nat, ((q0 w g h).map fun k => N (prodW w s + k)) = ((crowdW g h s).map (prodW w)).map N := fun N => by rw [seq_shift, List.map_map]; rfl
    have ll : (q0 w g h).length = ((crowdW g h s).map (prodW w)).length := by rw [seq_shift, List.length_map]
    rw [ll] at r1 r2 r3
    refine seen_ok w _ (crowdW_len g h s) h0 (whl sh va) ?_
    rw [avg_is (N := fun k => (colN sh va k).1) (fun _ => rfl) hl2 hM (by rw [← mm]; exact r1), avg_is (N := fun k => (colN sh va k).2.1) (fun _ => rfl) hl2 hM (by rw [← mm]; exact r2),
      avg_is (N := fun k => (colN sh va k).2.2) (fun _ => rfl) hl2 hM (by rw [← mm]; exact r3)]
    exact isR_eq (all2 dullChk sh va)
end Mine
end

section
open PySem PySem.W PyProof.Rows PySem.SeqAt
set_option maxRecDepth 100000
set_option maxHeartbeats 4000000
namespace Mine

noncomputable def leeF : Fin 4 → Nat
  | 0 => 0
  | 1 => 1
  | 2 => 2
  | 3 => 1
noncomputable def leeW (w : W4) : Nat := leeF w.1 + leeF w.2
noncomputable def signT : List (List Int) := [[1, 4, 6, 4, 1], [1, 2, 0, -2, -1], [1, 0, -2, 0, 1], [1, -2, 0, 2, -1], [1, -4, 6, -4, 1]]
noncomputable def signW (k : Nat) : List Int := signT.getD k []
theorem signChk : allW.all (fun w => isR (F 21 [.int (leeW w : Nat)]) (.lst ((signW (leeW w)).map .int))) = true := by decide +kernel
theorem sign_ok (w : W4) : F 21 [.int (leeW w : Nat)] = some (.lst ((signW (leeW w)).map .int)) := isR_eq (List.all_eq_true.mp signChk w (mem_allW w))
noncomputable def cosF : Fin 4 → Int
  | 0 => 1
  | 1 => 0
  | 2 => -1
  | 3 => 0
theorem sm_cos : ∀ k, sm (cosF k) = true := by decide +kernel
theorem mul4 : ∀ (k : Fin 4), isR ((binP .Mult (.flt (qf k.val 4)) (.int 4)).bind fun x => intF [x]) (.int (k.val : Int)) = true := by decide +kernel
theorem cosPick : ∀ (k : Fin 4), isR (pickD [.int 1, .int 0, .int (-1), .int 0] (k.val : Int)) (.int (cosF k)) = true := by decide +kernel
theorem PW1_int : PW1.fn (Str.ofString "int") = some intF := by kernel_rfl
theorem PW1_signed : PW1.fn (Str.ofString "_law_signed") = some (F 21) := by kernel_rfl

section
variable {P : PW} {n : Nat} {sc : Scope} {ρ : Rho} {ω : Om}
theorem compItems_zip {f : Int → Int → Int} {el : Rho → Option D} {x y : Str} (h : ∀ a b, el ((y, .int b) :: (x, .int a) :: ρ) = some (.int (f a b))) : ∀ (xs ys : List Int),
    compItems (fun _ => some true) el (.two x y) ρ (zipD (xs.map .int) (ys.map .int)) = some ((List.zipWith f xs ys).map .int)
  | [], ys => by cases ys <;> rfl
  | a :: xs, [] => rfl
  | a :: xs, b :: ys => by
    simp only [List.map_cons, zipD, compItems, bindT, h, compItems_zip h xs ys, List.zipWith_cons_cons]
theorem zipD_len (x y : List D) : (zipD x y).length ≤ x.length := by rw [zipD_length]; omega
theorem E_compZip {f : Int → Int → Int} {elt iter : Expr} {x y : Str} {px py pt p : Pos} {k : Nat} {sc' : Scope} {xs ys : List Int} (hxy : targetOf (.Tuple [.Name x px, .Name y py] k pt) = some (.two x y)) (hc : compOk sc' sc (.two x y) = true) (hi : iterE sc (evalP P n sc ρ) (.two x y) iter = some (zipD (xs.map .int) (ys.map .int))) (hl : xs.length ≤ sizeLine)
    (he : ∀ a b, evalP P n (relSc sc' sc) ((y, .int b) :: (x, .int a) :: restr sc' (.two x y) ρ) elt = some (.int (f a b))) : evalP P (n + 1) sc ρ (.ListComp elt [⟨.Tuple [.Name x px, .Name y py] k pt, iter, [], 0⟩] sc' p) = some (.lst ((List.zipWith f xs ys).map .int)) := by
  have hz := zipD_len (xs.map .int) (ys.map .int)
  rw [List.length_map] at hz
  rw [evalP_comp, hxy]
  simp only [hc, Bool.not_true, Bool.false_eq_true, if_false, hi]
  rw [if_pos (Nat.le_trans hz hl)]
  rw [compItems_zip he]; rfl
theorem I_zip {f : Str} {p1 p2 : Pos} {a b : Expr} {x y : Str} {xs ys : List D} (hz : (f == Str.ofString "zip" && sc.names.lookup f == some .globalImplicit) = true) (ha : evalP P n sc ρ a = some (.lst xs)) (hb : evalP P n sc ρ b = some (.lst ys)) :
    iterE sc (evalP P n sc ρ) (.two x y) (.Call (.Name f p1) [a, b] [] p2) = some (zipD xs ys) := by
  simp only [Bool.and_eq_true, beq_iff_eq] at hz
  refine (if_pos hz).trans ?_
  rw [ha, hb]
theorem F_two {step : Rho → Om → Option Res1} {x y : Str} {a b : D} {ds : List D} {ρ' : Rho} {ω' : Om} (h : step ((y, b) :: (x, a) :: ρ) ω = some (.next ρ' ω')) : forItems step (.two x y) (.tup [a, b] :: ds) ρ ω = forItems step (.two x y) ds ρ' ω' := by
  simp only [forItems, bindT, h]
end

/-- a record of a clear word -/
noncomputable def recD (s : W4) (x y : D) (w : W4) : D := .tup [dW w, .flt (qf (prodW w s).val 4), x, y]
noncomputable def transS (s : W4) (t : List Int) (w : W4) : List Int := List.zipWith (fun a b => a + cosF (prodW w s) * b) t (signW (leeW w))
noncomputable def transW (s : W4) (l : List W4) : List Int := l.foldl (transS s) [0, 0, 0, 0, 0]
theorem transS_len (s : W4) (t : List Int) (w : W4) (h : t.length ≤ 5) : (transS s t w).length ≤ 5 := by
  unfold transS; rw [List.length_zipWith]; omega

theorem trans_ok (s : W4) (x y : D) (l : List W4) : F2 22 [.lst (l.map (recD s x y)), .lst (l.map fun w => .int (leeW w : Nat))] = some (.lst ((transW s l).map .int)) := by
  unfold F2
  have hf : fdef 22 = fdef 22 := rfl
  conv at hf => rhs; whnf
  rw [hf]
  clear hf
  have inv : ∀ (d : D) (x : Str) (ρ : Rho) (y : Str), (y == x) = false → List.lookup y ((x, d) :: ρ) = List.lookup y ρ := fun d x ρ y e => by rw [List.lookup_cons, e]
  refine runP_of (os := []) rfl (by kernel_rfl) rfl ?_
  refine (S_assign (d := .lst (([0, 0, 0, 0, 0] : List Int).map .int)) (by kernel_rfl) (by kernel_rfl)).trans ?_
  let V : List Int → Rho → Prop := fun t ρ => ρ.lookup (Str.ofString "total") = some (.lst (t.map .int))
  refine S_forE (V (transW s l)) (t := .two (Str.ofString "record") (Str.ofString "weight")) (ds := zipD (l.map (recD s x y)) (l.map fun w => .int (leeW w : Nat))) (ω' := []) rfl (by kernel_rfl) (I_zip (by kernel_rfl) (by kernel_rfl) (by kernel_rfl)) ?_ fun ρ' v => S_ret (E_name (by kernel_rfl) v)
  generalize hstep : (fun ρ' ω' => execsL _ _ ρ' ω') = step
  have turn : ∀ ρ t w, V t ρ → t.length ≤ 5 → ∃ ρ', V (transS s t w) ρ' ∧ step ((Str.ofString "weight", .int (leeW w : Nat)) :: (Str.ofString "record", recD s x y w) :: ρ) [] = some (.next ρ' []) := by
    intro ρ t w v hl
    rw [← hstep]
    have v1 : List.lookup (Str.ofString "total") ((Str.ofString "cosine", .int (cosF (prodW w s))) :: (Str.ofString "weight", .int (leeW w : Nat)) :: (Str.ofString "record", recD s x y w) :: ρ) = some (.lst (t.map .int)) := by
      rw [inv _ _ _ _ (by kernel_rfl), inv _ _ _ _ (by kernel_rfl), inv _ _ _ _ (by kernel_rfl)]; exact v
    have vw : List.lookup (Str.ofString "weight") ((Str.ofString "cosine", .int (cosF (prodW w s))) :: (Str.ofString "weight", .int (leeW w : Nat)) :: (Str.ofString "record", recD s x y w) :: ρ) = some (.int (leeW w : Nat)) := by
      rw [inv _ _ _ _ (by kernel_rfl), List.lookup_cons_self]
    have vr : List.lookup (Str.ofString "record") ((Str.ofString "weight", .int (leeW w : Nat)) :: (Str.ofString "record", recD s x y w) :: ρ) = some (recD s x y w) := by
      rw [inv _ _ _ _ (by kernel_rfl), List.lookup_cons_self]
    refine ⟨_, ?_, (S_assign (d := .int (cosF (prodW w s))) (by kernel_rfl) (E_subT (ds := [.int 1, .int 0, .int (-1), .int 0]) (k := ((prodW w s).val : Int)) rfl (by kernel_rfl) (E_call (ds := [.flt (Float64.mul (qf (prodW w s).val 4) (Float64.ofInt 4))]) (by kernel_rfl) PW1_int
      (E_args rfl (E_bin (a := .flt (qf (prodW w s).val 4)) (b := .int 4) (E_subT (ds := [dW w, .flt (qf (prodW w s).val 4), x, y]) (k := 1) rfl (E_name (by kernel_rfl) vr) (by kernel_rfl) (by kernel_rfl)) (by kernel_rfl) ?_) E_args0) ?_) (isR_eq (cosPick _)))).trans
      ((S_assign (d := .lst ((transS s t w).map .int)) (by kernel_rfl) (E_compZip (xs := t) (ys := signW (leeW w)) (f := fun a b => a + cosF (prodW w s) * b) (by kernel_rfl) (by kernel_rfl) (I_zip (by kernel_rfl) (E_name (by kernel_rfl) v1) (E_call (ds := [.int (leeW w : Nat)]) (by kernel_rfl) PW1_signed (E_args rfl (E_name (by kernel_rfl) vw) E_args0) (sign_ok w)))
        (Nat.le_trans hl (by rw [sizeLine_eq]; decide)) fun a b => ?_)).trans rfl)⟩
    · exact List.lookup_cons_self
    · kernel_rfl
    · have := isR_eq (mul4 (prodW w s))
      rw [show binP .Mult (.flt (qf (prodW w s).val 4)) (.int 4) = some (.flt (Float64.mul (qf (prodW w s).val 4) (Float64.ofInt 4))) by kernel_rfl] at this
      exact this
    · refine E_bin (a := .int a) (b := .int (cosF (prodW w s) * b)) (by kernel_rfl) (E_bin (a := .int (cosF (prodW w s))) (b := .int b) (by kernel_rfl) (by kernel_rfl) ?_) rfl
      exact binP_mul (sm_cos _)
  have run : ∀ (l : List W4) ρ t, V t ρ → t.length ≤ 5 → ∃ ρ', V (l.foldl (transS s) t) ρ' ∧ forItems step (.two (Str.ofString "record") (Str.ofString "weight")) (zipD (l.map (recD s x y)) (l.map fun w => .int (leeW w : Nat))) ρ [] = some (.next ρ' []) := by
    intro l
    induction l with
    | nil => intro ρ t v _; exact ⟨ρ, v, rfl⟩
    | cons w l ih =>
      intro ρ t v hl
      obtain ⟨ρ1, v1, e1⟩ := turn ρ t w v hl
      obtain ⟨ρ2, v2, e2⟩ := ih ρ1 (transS s t w) v1 (transS_len s t w hl)
      exact ⟨ρ2, v2, (F_two e1).trans e2⟩
  obtain ⟨ρ', v', e'⟩ := run l [(Str.ofString "total", .lst (([0, 0, 0, 0, 0] : List Int).map .int)), (Str.ofString "weights", .lst (l.map fun w => .int (leeW w : Nat))), (Str.ofString "clear", .lst (l.map (recD s x y)))] [0, 0, 0, 0, 0] (by kernel_rfl) (by decide)
  exact ⟨ρ', v', e'⟩

/-- MacWilliams, for every crowd -/
noncomputable def mwOk (c cl : List W4) (s : W4) : Bool :=
  ((List.range 5).map fun k => (16 * ((c.map fun w => leeW (addP s w)).count k : Nat) : Int)) == (transW s cl).map ((c.length : Int) * ·)
noncomputable def mwB (p : List W4 × List W4) : Bool := allW.all fun s => mwOk p.1 p.2 s
theorem mw1 : (crowdsT.take 20).all mwB = true := by decide +kernel
theorem mw2 : ((crowdsT.drop 20).take 20).all mwB = true := by decide +kernel
theorem mw3 : ((crowdsT.drop 20).drop 20).all mwB = true := by decide +kernel
theorem mwChk : crowdsT.all (fun p => allW.all fun s => mwOk p.1 p.2 s) = true := all_split (p := mwB) 20 mw1 (all_split 20 mw2 mw3)
theorem mw (g h s : W4) : ((List.range 5).map fun k => (16 * (((crowdW g h s).map leeW).count k : Nat) : Int)) = (transW s (clearL g h)).map (((crowdW g h s).length : Int) * ·) := by
  have h1 := List.all_eq_true.mp (List.all_eq_true.mp mwChk _ (tab_mem g h)) s (mem_allW s)
  unfold mwOk at h1
  dsimp only at h1
  have h2 := beq_iff_eq.mp h1
  rw [crowd_shift, List.length_map, List.map_map]
  have e : leeW ∘ addP s = fun w => leeW (addP s w) := rfl
  rw [e]
  refine h2
end Mine
end

section
open PySem PySem.W PyProof.Rows
open PySem.Builtin.Str PySem.StrLaws
set_option maxRecDepth 100000
set_option maxHeartbeats 4000000
set_option linter.unusedSimpArgs false
set_option linter.unusedVariables false
namespace Mine

noncomputable def S (l : List Nat) : Str := ⟨l.toArray⟩
theorem S_list (l : List Nat) : (S l).cps.toList = l := rfl
theorem S_len (l : List Nat) : (S l).length = l.length := by simp [S, Str.length]
theorem S_of (x : Str) : S x.cps.toList = x := rfl
theorem str_ext {x y : Str} (h : x.cps.toList = y.cps.toList) : x = y := by rw [← S_of x, ← S_of y, h]

noncomputable def joinLL (sep : List Nat) : List (List Nat) → List Nat
  | [] => []
  | [x] => x
  | x :: y :: r => x ++ sep ++ joinLL sep (y :: r)
theorem joinL (y : Str) : ∀ ts : List Str, (Str.join y ts).cps.toList = joinLL y.cps.toList (ts.map (·.cps.toList))
  | [] => rfl
  | [x] => rfl
  | x :: z :: r => by
    show (x ++ y ++ Str.join y (z :: r)).cps.toList = _
    rw [Str.cps_append, Str.cps_append, Array.toList_append, Array.toList_append, joinL y (z :: r)]
    rfl
theorem tjoin (y : Str) (ts : List Str) : Txt.join y ts = S (joinLL y.cps.toList (ts.map (·.cps.toList))) := by
  apply str_ext
  show (glued y ts).cps.toList = _
  rw [glued_eq_join, joinL]; rfl
theorem joinLL_nil : ∀ ts : List (List Nat), joinLL [] ts = ts.flatten
  | [] => rfl
  | [x] => by simp [joinLL]
  | x :: y :: r => by
    show x ++ [] ++ joinLL [] (y :: r) = _
    rw [joinLL_nil (y :: r)]; simp

noncomputable def sub1 (c : Nat) (b l : List Nat) : List Nat := l.flatMap fun ch => if ch = c then b else [ch]
theorem sub1_free {c : Nat} {b : List Nat} : ∀ {l : List Nat}, c ∉ l → sub1 c b l = l
  | [], _ => rfl
  | a :: l, h => by
    have h1 : a ≠ c := fun e => h (e ▸ List.mem_cons_self)
    show (if a = c then b else [a]) ++ sub1 c b l = _
    rw [if_neg h1, sub1_free fun m => h (List.mem_cons_of_mem _ m)]; rfl
theorem sub1_app {c : Nat} {b l m : List Nat} : sub1 c b (l ++ m) = sub1 c b l ++ sub1 c b m := by simp [sub1]
theorem sub1_flat {α : Type} {c : Nat} {b : List Nat} {f : α → List Nat} : ∀ (l : List α), sub1 c b (l.flatMap f) = l.flatMap fun w => sub1 c b (f w)
  | [] => rfl
  | a :: l => by rw [List.flatMap_cons, sub1_app, sub1_flat l]; rfl
theorem sub1_join {c : Nat} {b : List Nat} : ∀ {ps : List (List Nat)}, (∀ p ∈ ps, c ∉ p) → sub1 c b (joinLL [c] ps) = joinLL b ps
  | [], _ => rfl
  | [x], h => sub1_free (h x List.mem_cons_self)
  | x :: y :: r, h => by
    show sub1 c b (x ++ [c] ++ joinLL [c] (y :: r)) = x ++ b ++ joinLL b (y :: r)
    rw [sub1_app, sub1_app, sub1_free (h x List.mem_cons_self), sub1_join fun p hp => h p (List.mem_cons_of_mem _ hp)]
    simp [sub1]
theorem replace1 (x b : Str) (c : Nat) : Txt.join b (Txt.split x ⟨#[c]⟩) = S (sub1 c b.cps.toList x.cps.toList) := by
  have h1 := join_split x ⟨#[c]⟩
  have h2 := split_free x c
  have h3 : x.cps.toList = joinLL [c] ((Txt.split x ⟨#[c]⟩).map (·.cps.toList)) := by
    have := congrArg (fun s : Str => s.cps.toList) h1
    simp only [joinL] at this
    exact this.symm
  rw [tjoin, h3, sub1_join]
  intro p hp
  obtain ⟨q, hq, rfl⟩ := List.mem_map.mp hp
  exact h2 q hq
theorem joinOk_of {sep : Str} {ts : List Str} (h : (ts.map (·.length)).sum + ts.length * sep.length ≤ 16000000) : JoinOk sep ts = true := by
  unfold JoinOk
  rw [joinTotal]
  unfold tooLong
  rw [sizeLine_eq]
  simp; omega
theorem joinOk_rep {x b : Str} {c : Nat} (hx : x.length ≤ 1000000) (hb : b.length ≤ 10) : JoinOk b (Txt.split x ⟨#[c]⟩) = true := by
  have h1 := split_weight x ⟨#[c]⟩ (Nat.le_refl 1)
  have h2 := split_le x ⟨#[c]⟩
  refine joinOk_of ?_
  have := Nat.mul_le_mul h2 hb
  omega

/- the split of the letters -/
theorem span_uniq {c : Nat} : ∀ {p q a b : List Nat}, c ∉ p → c ∉ q → p ++ c :: a = q ++ c :: b → p = q ∧ a = b
  | [], [], a, b, _, _, h => ⟨rfl, by simpa using h⟩
  | [], y :: q, a, b, _, hq, h => by
    simp only [List.nil_append, List.cons_append, List.cons.injEq] at h
    exact absurd (h.1 ▸ List.mem_cons_self) hq
  | x :: p, [], a, b, hp, _, h => by
    simp only [List.nil_append, List.cons_append, List.cons.injEq] at h
    exact absurd (h.1.symm ▸ List.mem_cons_self) hp
  | x :: p, y :: q, a, b, hp, hq, h => by
    simp only [List.cons_append, List.cons.injEq] at h
    obtain ⟨h1, h2⟩ := span_uniq (fun m => hp (List.mem_cons_of_mem _ m)) (fun m => hq (List.mem_cons_of_mem _ m)) h.2
    exact ⟨by rw [h.1, h1], h2⟩
theorem join_uniq {c : Nat} {r : List Nat} : ∀ {ps qs : List (List Nat)}, (∀ p ∈ ps, c ∉ p) → (∀ q ∈ qs, c ∉ q) → ps ≠ [] → qs ≠ [] → joinLL (c :: r) ps = joinLL (c :: r) qs → ps = qs
  | [], _, _, _, h, _, _ => absurd rfl h
  | _ :: _, [], _, _, _, h, _ => absurd rfl h
  | [p], [q], _, _, _, _, h => by rw [show p = q from h]
  | [p], q :: q2 :: qs, hp, hq, _, _, h => by
    exfalso
    have : c ∈ p := by
      have e : p = q ++ (c :: r) ++ joinLL (c :: r) (q2 :: qs) := h
      rw [e]; simp
    exact hp p List.mem_cons_self this
  | p :: p2 :: ps, [q], hp, hq, _, _, h => by
    exfalso
    have : c ∈ q := by
      have e : p ++ (c :: r) ++ joinLL (c :: r) (p2 :: ps) = q := h
      rw [← e]; simp
    exact hq q List.mem_cons_self this
  | p :: p2 :: ps, q :: q2 :: qs, hp, hq, _, _, h => by
    have e : p ++ (c :: r) ++ joinLL (c :: r) (p2 :: ps) = q ++ (c :: r) ++ joinLL (c :: r) (q2 :: qs) := h
    rw [List.append_assoc, List.append_assoc, List.cons_append, List.cons_append] at e
    obtain ⟨e1, e2⟩ := span_uniq (hp p List.mem_cons_self) (hq q List.mem_cons_self) e
    have e3 := List.append_cancel_left e2
    rw [e1, join_uniq (fun p m => hp p (List.mem_cons_of_mem _ m)) (fun q m => hq q (List.mem_cons_of_mem _ m)) (by simp) (by simp) e3]
theorem flat_join {α : Type} {f : α → List Nat} {sep : List Nat} : ∀ (l : List α), (l.flatMap fun w => f w ++ sep) = joinLL sep (l.map f ++ [[]])
  | [] => rfl
  | [a] => by simp [joinLL]
  | a :: b :: l => by
    rw [List.flatMap_cons, flat_join (b :: l)]
    rfl

theorem part_free2 {x y : Str} {c : Nat} (hc : ∀ k : Nat, x.cps.toList[k]? = some c → At x y x.length k) (a b : Nat) (hb : b ≤ x.length) (hn : ∀ k, a ≤ k → k < b → ¬ At x y x.length k) : c ∉ (strSub x a b).cps.toList := by
  intro hm
  rw [strSub_toList] at hm
  obtain ⟨j, hj⟩ := List.getElem?_of_mem hm
  have hlt : j < b - a := by
    have h1 : j < ((x.cps.toList.drop a).take (b - a)).length := (List.getElem?_eq_some_iff.mp hj).1
    simp at h1
    omega
  rw [List.getElem?_take_of_lt hlt, List.getElem?_drop] at hj
  exact hn (a + j) (by omega) (by omega) (hc (a + j) hj)
theorem parts_free2 {x y : Str} {c : Nat} (hc : ∀ k : Nat, x.cps.toList[k]? = some c → At x y x.length k) : ∀ (cuts : List Nat) (a f : Nat), ChainG x y x.length a cuts f → (∀ k, f ≤ k → ¬ At x y x.length k) → ∀ p ∈ partsFrom x y.length a cuts, c ∉ p.cps.toList
  | [], a, f, h, hn, p, hp => by
    have e : f = a := h
    subst e
    rw [List.mem_singleton.mp hp]
    exact part_free2 hc f x.length (Nat.le_refl _) fun k h1 _ => hn k h1
  | d :: r, a, f, h, hn, p, hp => by
    rcases List.mem_cons.mp hp with rfl | hp'
    · exact part_free2 hc a d (by have := h.2.1.1; omega) h.2.2.1
    · exact parts_free2 hc r _ f h.2.2.2 hn p hp'
theorem split_free2 {x y : Str} {c : Nat} (hy : 1 ≤ y.length) (hk : Builtin.Str.strKind y = 1) (hc : ∀ k : Nat, x.cps.toList[k]? = some c → At x y x.length k) : ∀ p ∈ Txt.split x y, c ∉ p.cps.toList := by
  obtain ⟨f, hG, hn⟩ := occ_tight x y hy
  unfold Txt.split
  split
  · rename_i h
    intro p hp
    rw [List.mem_singleton.mp hp]
    intro hm
    obtain ⟨j, hj⟩ := List.getElem?_of_mem hm
    have hA := hc j hj
    rw [Bool.or_eq_true, decide_eq_true_eq, decide_eq_true_eq] at h
    rcases h with h | h
    · have := hA.1; omega
    · rw [hk] at h
      have : 1 ≤ Builtin.Str.strKind x := by unfold Builtin.Str.strKind; split <;> (try split) <;> omega
      omega
  · split
    · rename_i he
      intro p hp
      rw [List.mem_singleton.mp hp]
      intro hm
      obtain ⟨j, hj⟩ := List.getElem?_of_mem hm
      have e : occurrences x y 0 x.length (x.length + 1) = [] := List.isEmpty_iff.mp he
      rw [e] at hG
      have ef : f = 0 := hG
      exact hn j (by omega) (hc j hj)
    · intro p hp
      rw [partsBetween_eq] at hp
      exact parts_free2 hc _ 0 f hG hn p hp

noncomputable def sepL : List Nat := [35, 13, 10]
theorem hash_at {α : Type} {f : α → List Nat} (hf : ∀ w, 35 ∉ f w) : ∀ (l : List α) (k : Nat), (l.flatMap fun w => f w ++ sepL)[k]? = some 35 → k + 3 ≤ (l.flatMap fun w => f w ++ sepL).length ∧ ((l.flatMap fun w => f w ++ sepL).drop k).take 3 = sepL
  | [], k, h => by simp at h
  | a :: l, k, h => by
    rw [List.flatMap_cons] at h ⊢
    generalize hL : (l.flatMap fun w => f w ++ sepL) = L at h ⊢
    by_cases h1 : k < (f a).length
    · exfalso
      rw [List.append_assoc, List.getElem?_append_left h1] at h
      exact hf a (List.mem_of_getElem? h)
    · obtain ⟨j, rfl⟩ : ∃ j, k = (f a).length + j := ⟨k - (f a).length, by omega⟩
      rw [List.append_assoc, List.getElem?_append_right (by omega), Nat.add_sub_cancel_left] at h
      rw [List.append_assoc, List.drop_append]
      rw [List.drop_of_length_le (by omega), List.nil_append, Nat.add_sub_cancel_left]
      simp only [List.length_append]
      match j with
      | 0 => exact ⟨by simp [sepL], by simp [sepL]⟩
      | 1 => simp [sepL] at h
      | 2 => simp [sepL] at h
      | j + 3 =>
        have h' : L[j]? = some 35 := by simpa [sepL] using h
        rw [← hL] at h' ⊢
        obtain ⟨g1, g2⟩ := hash_at hf l j h'
        refine ⟨by have e3 : sepL.length = 3 := rfl
                   rw [e3]; omega, ?_⟩
        have e : (sepL ++ (l.flatMap fun w => f w ++ sepL)).drop (j + 3) = (l.flatMap fun w => f w ++ sepL).drop j := by simp [sepL]
        rw [e]; exact g2
theorem split_rows {α : Type} {f : α → List Nat} (hf : ∀ w, 35 ∉ f w) (l : List α) : Txt.split (S (l.flatMap fun w => f w ++ sepL)) (S sepL) = (l.map fun w => S (f w)) ++ [S []] := by
  have hfree := split_free2 (x := S (l.flatMap fun w => f w ++ sepL)) (y := S sepL) (c := 35) (by decide) (by decide +kernel) fun k hk => by
    obtain ⟨h1, h2⟩ := hash_at hf l k hk
    refine ⟨?_, ?_⟩
    · rw [S_len, S_len]; exact h1
    · rw [subAt_eq, S_len, S_list, S_list]
      show (List.take 3 (List.drop k _) == sepL) = true
      rw [h2]; rfl
  have hj := join_split (S (l.flatMap fun w => f w ++ sepL)) (S sepL)
  have hj2 := congrArg (fun s : Str => s.cps.toList) hj
  simp only [joinL, S_list] at hj2
  have hj2 := hj2.trans (flat_join l)
  have hne : (Txt.split (S (l.flatMap fun w => f w ++ sepL)) (S sepL)).map (·.cps.toList) ≠ [] := by
    have := split_pos (S (l.flatMap fun w => f w ++ sepL)) (S sepL)
    intro e
    have := congrArg List.length e
    simp only [List.length_map, List.length_nil] at this
    omega
  have hu := join_uniq (c := 35) (r := [13, 10]) (fun p hp => by obtain ⟨q, hq, rfl⟩ := List.mem_map.mp hp; exact hfree q hq) (fun q hq => by
    rcases List.mem_append.mp hq with hq | hq
    · obtain ⟨w, _, rfl⟩ := List.mem_map.mp hq; exact hf w
    · rw [List.mem_singleton.mp hq]; simp) hne (by simp) hj2
  have h4 := congrArg (List.map S) hu
  rw [List.map_map, List.map_append, List.map_map] at h4
  have e : (S ∘ fun x : Str => x.cps.toList) = id := by funext x; rfl
  rw [e, List.map_id] at h4
  exact h4

/- line ends and dots of concatenated blocks -/
theorem norm_app : ∀ (a b : List Nat), ¬ (a.getLast? = some 13 ∧ b.head? = some 10) → norm (a ++ b) = norm a ++ norm b
  | [], b, _ => rfl
  | [c], b, h => by
    rw [List.singleton_append]
    by_cases hc : isEol c = true
    · rw [norm_eol hc, norm, if_pos hc]
      · rfl
      · rintro r' ⟨rfl, rfl⟩
        exact h ⟨rfl, rfl⟩
    · have hc : isEol c = false := by simpa using hc
      rw [norm_cons hc, norm, hc]; rfl
  | c :: d :: r, b, h => by
    have h1 : ¬ ((d :: r).getLast? = some 13 ∧ b.head? = some 10) := by simpa [List.getLast?_cons_cons] using h
    show norm (c :: d :: (r ++ b)) = norm (c :: d :: r) ++ norm b
    rw [norm, norm]
    by_cases hcd : c = 13 ∧ d = 10
    · rw [if_pos hcd, if_pos hcd]
      have : norm (r ++ b) = norm r ++ norm b := by
        cases r with
        | nil => rfl
        | cons e r => exact norm_app (e :: r) b (by simpa [List.getLast?_cons_cons] using h1)
      rw [this]; rfl
    · rw [if_neg hcd, if_neg hcd]
      have ih := norm_app (d :: r) b h1
      rw [List.cons_append] at ih
      split <;> rw [ih] <;> rfl
theorem norm_flat {α : Type} {f : α → List Nat} (hf : ∀ w, ∃ c r, f w = c :: r ∧ c ≠ 10) : ∀ (l : List α), norm (l.flatMap f) = l.flatMap fun w => norm (f w)
  | [] => rfl
  | a :: l => by
    rw [List.flatMap_cons, List.flatMap_cons, norm_app, norm_flat hf l]
    rintro ⟨_, h2⟩
    cases l with
    | nil => simp at h2
    | cons b l =>
      obtain ⟨c, r, e, hc⟩ := hf b
      rw [List.flatMap_cons, e] at h2
      simp at h2
      exact hc h2
theorem dots_app (b : List Nat) : ∀ (a : List Nat) (f : Bool), dots f (a ++ b) = dots f a ++ dots (match a.getLast? with | none => f | some c => c == 10) b
  | [], f => rfl
  | [c], f => by simp [dots]
  | c :: d :: r, f => by
    have ih := dots_app b (d :: r) (c == 10)
    show (if f && c == 46 then [46, 46] else [c]) ++ dots (c == 10) (d :: r ++ b) = ((if f && c == 46 then [46, 46] else [c]) ++ dots (c == 10) (d :: r)) ++ _
    rw [ih, List.append_assoc, List.getLast?_cons_cons]
    cases h : (d :: r).getLast? with
    | none => simp at h
    | some e => rfl
theorem dots_flat {α : Type} {f : α → List Nat} (hf : ∀ w, (f w).getLast? = some 10) : ∀ (l : List α), dots true (l.flatMap f) = l.flatMap fun w => dots true (f w)
  | [] => rfl
  | a :: l => by
    rw [List.flatMap_cons, List.flatMap_cons, dots_app, hf a]
    show dots true (f a) ++ dots true (l.flatMap f) = _
    rw [dots_flat hf l]
end Mine
end

section
open PySem PySem.W PyProof.Rows PySem.SeqAt
open PySem.Builtin.Str
set_option maxRecDepth 100000
set_option maxHeartbeats 4000000
set_option linter.unusedVariables false
namespace Mine

section
variable {P : PW} {n : Nat} {sc : Scope} {ρ : Rho} {ω : Om}
theorem S_whileE (V : Rho → Prop) {test : Expr} {body rest : List Stmt} {q : Pos} {ω' : Om} {r : Option Res1}
    (h : ∃ ρ', V ρ' ∧ whileRun (fun ρ' ω' => testE (evalP P n sc (full ω' ρ')) n test) (fun ρ' ω' => execsL (execP P n sc) body ρ' ω') n ρ ω = some (.next ρ' ω')) (hk : ∀ ρ', V ρ' → execsL (execP P (n + 1) sc) rest ρ' ω' = r) :
    execsL (execP P (n + 1) sc) (.While test body [] q :: rest) ρ ω = r := by
  obtain ⟨ρ', v, h⟩ := h
  rw [execsL_cons]
  rw [show execP P (n + 1) sc ρ ω (.While test body [] q) = some (.next ρ' ω') from h]
  exact hk ρ' v
end

noncomputable def pairD (ps : List (Nat × List Nat)) : List D := ps.flatMap fun p => [.str (S [p.1]), .str (S p.2)]
noncomputable def subs (ps : List (Nat × List Nat)) (l : List Nat) : List Nat := ps.foldl (fun l p => sub1 p.1 p.2 l) l
theorem sub1_len {c : Nat} {b : List Nat} (hb : b.length ≤ 4) : ∀ (l : List Nat), (sub1 c b l).length ≤ 4 * l.length
  | [] => by simp [sub1]
  | a :: l => by
    have := sub1_len (c := c) hb l
    show ((if a = c then b else [a]) ++ sub1 c b l).length ≤ _
    rw [List.length_append, List.length_cons]
    split
    · omega
    · simp only [List.length_cons, List.length_nil]; omega
theorem splitF_one {l : List Nat} {c : Nat} (hl : l.length ≤ 1000000) : splitF [.str (S l), .str (S [c])] = some (.lst ((Txt.split (S l) (S [c])).map .str)) := by
  have h1 : (partsBetween (S l) (occurrences (S l) (S [c]) 0 (S l).length ((S l).length + 1)) (S [c]).length).length ≤ (S l).length + 2 := by
    rw [length_partsBetween]
    have := StrLaws.occ_length_le (S l) (S [c]) 0 (S l).length ((S l).length + 1)
    omega
  unfold splitF
  dsimp only
  rw [if_pos]
  have hl' := S_len l
  refine ⟨rfl, ?_, ?_⟩
  · rw [sizeLine_eq, hl']; omega
  · rw [sizeLine_eq]; refine Nat.le_trans h1 ?_; omega
theorem asStrs_map : ∀ (l : List Str), asStrs (l.map .str) = some l
  | [] => rfl
  | a :: l => by simp [asStrs, asStrs_map l]
theorem joinF_one {l b : List Nat} {c : Nat} (hl : l.length ≤ 1000000) (hb : b.length ≤ 4) : joinF [.str (S b), .lst ((Txt.split (S l) (S [c])).map .str)] = some (.str (S (sub1 c b l))) := by
  unfold joinF
  dsimp only
  rw [asStrs_map]
  dsimp only
  have hk : JoinOk (S b) (Txt.split (S l) (S [c])) = true := joinOk_rep (x := S l) (b := S b) (c := c) (by rw [S_len]; exact hl) (by rw [S_len]; omega)
  rw [if_pos hk]
  rw [show Txt.split (S l) (S [c]) = Txt.split (S l) ⟨#[c]⟩ from rfl, replace1]
  rfl

theorem rep_res (ps : List (Nat × List Nat)) (h6 : ps.length = 6) (hb : ∀ p ∈ ps, p.2.length ≤ 4) (l : List Nat) (hl : l.length ≤ 60) : replF (.str (S l) :: pairD ps) = some (.str (S (subs ps l))) := by
  have hlen : (pairD ps).length = 12 := by
    have : ∀ ps : List (Nat × List Nat), (pairD ps).length = 2 * ps.length := by
      intro ps
      induction ps with
      | nil => rfl
      | cons p ps ih => show (_ ++ pairD ps).length = _; rw [List.length_append, ih, List.length_cons]; simp; omega
    rw [this, h6]
  unfold replF
  dsimp only
  rw [if_pos hlen]
  have hf : fRep = fRep := rfl
  conv at hf => rhs; whnf
  rw [hf]
  clear hf
  refine runP_of (os := []) rfl (by kernel_rfl) rfl ?_
  have inv : ∀ (d : D) (x : Str) (ρ : Rho) (y : Str), (y == x) = false → List.lookup y ((x, d) :: ρ) = List.lookup y ρ := fun d x ρ y e => by rw [List.lookup_cons, e]
  let V : List Nat → List D → Rho → Prop := fun l ds ρ => ρ.lookup (Str.ofString "text") = some (.str (S l)) ∧ ρ.lookup (Str.ofString "pairs") = some (.tup ds)
  refine S_whileE (V (subs ps l) []) (ω' := []) ?_ fun ρ' v => S_ret (E_name (by kernel_rfl) v.1)
  generalize htst : (fun ρ' ω' => testE _ _ _) = tst
  generalize hstep : (fun ρ' ω' => execsL _ _ ρ' ω') = step
  have t1 : ∀ ρ l ds, V l ds ρ → tst ρ [] = some (!ds.isEmpty) := by
    intro ρ l ds v
    rw [← htst]
    have e := E_name (P := PW0) (n := 28) (sc := (fdef 5).scope) (p := ⟨0, 0, 0, 0⟩) (by kernel_rfl) v.2
    show testE _ _ _ = _
    rw [testE_name]
    rw [show full [] ρ = ρ from rfl]
    rw [E_name (by kernel_rfl) v.2]
    rfl
  have s1 : ∀ ρ l c b ds, V l (.str (S [c]) :: .str (S b) :: ds) ρ → l.length ≤ 1000000 → b.length ≤ 4 → ∃ ρ', V (sub1 c b l) ds ρ' ∧ step ρ [] = some (.next ρ' []) := by
    intro ρ l c b ds v hl hb
    rw [← hstep]
    refine ⟨(Str.ofString "pairs", .tup ds) :: (Str.ofString "text", .str (S (sub1 c b l))) :: ρ, ⟨?_, List.lookup_cons_self⟩, ?_⟩
    · rw [inv _ _ _ _ (by kernel_rfl), List.lookup_cons_self]
    · have vp : List.lookup (Str.ofString "pairs") ((Str.ofString "text", D.str (S (sub1 c b l))) :: ρ) = some (.tup (.str (S [c]) :: .str (S b) :: ds)) := by rw [inv _ _ _ _ (by kernel_rfl)]; exact v.2
      refine (S_assign (d := .str (S (sub1 c b l))) (by kernel_rfl) (E_meth (m := ⟨"str", Str.ofString "join", "str.join", joinF⟩) (d := .str (S b)) (ds := [.lst ((Txt.split (S l) (S [c])).map .str)]) (by kernel_rfl) (E_subT (ds := .str (S [c]) :: .str (S b) :: ds) (k := 1) rfl (E_name (by kernel_rfl) v.2) (by kernel_rfl) (by kernel_rfl))
        (E_args rfl (E_meth (m := ⟨"str", Str.ofString "split", "str.split", splitF⟩) (d := .str (S l)) (ds := [.str (S [c])]) (by kernel_rfl) (E_name (by kernel_rfl) v.1) (E_args rfl (E_subT (ds := .str (S [c]) :: .str (S b) :: ds) (k := 0) rfl (E_name (by kernel_rfl) v.2) (by kernel_rfl) (by kernel_rfl)) E_args0) (by kernel_rfl) (splitF_one hl)) E_args0) (by kernel_rfl) (joinF_one hl hb))).trans ?_
      refine (S_assign (d := .tup ds) (by kernel_rfl) ?_).trans rfl
      rw [evalP_slice, E_name (by kernel_rfl) vp]
      simp only [optInt, evalP_int]
      rw [if_pos ⟨by decide, by simp only [List.length_cons]; omega⟩]
      rfl
  have run : ∀ (ps : List (Nat × List Nat)) (k : Nat) (l : List Nat) (ρ : Rho), V l (pairD ps) ρ → (∀ p ∈ ps, p.2.length ≤ 4) → l.length * 4 ^ ps.length ≤ 1000000 → ps.length < k → ∃ ρ', V (subs ps l) [] ρ' ∧ whileRun tst step k ρ [] = some (.next ρ' []) := by
    intro ps
    induction ps with
    | nil =>
      intro k l ρ v _ _ hk
      obtain ⟨k, rfl⟩ : ∃ j, k = j + 1 := ⟨k - 1, by simp at hk; omega⟩
      refine ⟨ρ, v, ?_⟩
      rw [whileRun, t1 ρ l _ v]; rfl
    | cons p ps ih =>
      intro k l ρ v hb hl hk
      obtain ⟨k, rfl⟩ : ∃ j, k = j + 1 := ⟨k - 1, by simp at hk; omega⟩
      have h4 := hb p List.mem_cons_self
      have pw : 1 ≤ 4 ^ ps.length := Nat.pow_pos (by decide)
      rw [List.length_cons, Nat.pow_succ, ← Nat.mul_assoc] at hl
      have hl1 : l.length ≤ 1000000 := by
        have h5 : l.length * 1 ≤ l.length * 4 ^ ps.length := Nat.mul_le_mul_left _ pw
        omega
      obtain ⟨ρ1, v1, e1⟩ := s1 ρ l p.1 p.2 (pairD ps) v hl1 h4
      have hs := sub1_len (c := p.1) h4 l
      obtain ⟨ρ2, v2, e2⟩ := ih k (sub1 p.1 p.2 l) ρ1 v1 (fun q hq => hb q (List.mem_cons_of_mem _ hq)) (by
        have h5 : (sub1 p.1 p.2 l).length * 4 ^ ps.length ≤ 4 * l.length * 4 ^ ps.length := Nat.mul_le_mul_right _ hs
        have h6 : 4 * l.length * 4 ^ ps.length = l.length * 4 ^ ps.length * 4 := by rw [Nat.mul_comm 4, Nat.mul_assoc, Nat.mul_comm 4, ← Nat.mul_assoc]
        omega) (by simp at hk; omega)
      refine ⟨ρ2, v2, ?_⟩
      rw [whileRun, t1 ρ l _ v]
      show (match step ρ [] with | some (.next ρ' ω') => whileRun tst step k ρ' ω' | some (.ret d) => some (.ret d) | none => none) = _
      rw [e1]
      exact e2
  refine run ps 29 l _ ⟨by kernel_rfl, by kernel_rfl⟩ hb ?_ (by omega)
  rw [h6]; omega
end Mine
end

section
open PySem PySem.W PyProof.Rows PySem.SeqAt
open PySem.Builtin.Str
set_option maxRecDepth 100000
set_option maxHeartbeats 4000000
set_option linter.unusedVariables false
namespace Mine

noncomputable def pageL (w : W4) : List Nat := [48 + w.1.val, 48 + w.2.val, 35]
noncomputable def endL : Fin 3 → List Nat
  | 0 => [10]
  | 1 => [13]
  | 2 => [13, 10]
noncomputable def pairsL (e : Fin 3) : List (Nat × List Nat) := [(48, [111, 126, 111, 126]), (49, [111, 126, 46, 126]), (50, [46, 126, 46, 126]), (51, [46, 126, 111, 126]), (35, [35, 126]), (126, endL e)]
theorem subs_flat {α : Type} : ∀ (ps : List (Nat × List Nat)) (f : α → List Nat) (l : List α), subs ps (l.flatMap f) = l.flatMap fun w => subs ps (f w)
  | [], f, l => rfl
  | p :: ps, f, l => by
    show subs ps (sub1 p.1 p.2 (l.flatMap f)) = _
    rw [sub1_flat, subs_flat ps (fun w => sub1 p.1 p.2 (f w)) l]; rfl
noncomputable def blockM (e : Fin 3) (w : W4) : List Nat := subs (pairsL e) (pageL w)
noncomputable def rowL (b : Bool) : List Nat := if b then [46, 46, 13, 10] else [111, 13, 10]
noncomputable def grayF (k : Fin 4) : List Bool := [k.val / 2 == 1, (k.val + 1) / 2 % 2 == 1]
noncomputable def letterL (w : W4) : List Nat := (grayF w.1 ++ grayF w.2).flatMap rowL
noncomputable def rowsL (w : W4) : List Nat := letterL w ++ sepL

noncomputable def blkOk (e : Fin 3) (w : W4) : Bool := (match blockM e w with | c :: _ => !(c == 10) | [] => false) && ((norm (blockM e w)).getLast? == some 10) && (dots true (norm (blockM e w)) == rowsL w) && decide ((blockM e w).length ≤ 15)
theorem blkChk : (List.finRange 3).all (fun e => allW.all fun w => blkOk e w) = true := by decide +kernel
theorem blk_ok (e : Fin 3) (w : W4) : blkOk e w = true := by
  have := blkChk
  simp only [List.all_eq_true, List.mem_finRange, true_implies] at this
  exact this e w (mem_allW w)
theorem sent_eq (e : Fin 3) (ws : List W4) : dots true (norm (subs (pairsL e) (ws.flatMap pageL))) = ws.flatMap rowsL := by
  rw [subs_flat]
  have h1 : ∀ w, ∃ c r, blockM e w = c :: r ∧ c ≠ 10 := fun w => by
    have := blk_ok e w
    unfold blkOk at this
    simp only [Bool.and_eq_true] at this
    have h := this.1.1.1
    split at h
    · rename_i c r hc; exact ⟨c, r, hc, by simpa using h⟩
    · cases h
  have h2 : ∀ w, (norm (blockM e w)).getLast? = some 10 := fun w => by
    have := blk_ok e w
    unfold blkOk at this
    simp only [Bool.and_eq_true, beq_iff_eq] at this
    exact this.1.1.2
  have h3 : ∀ w, dots true (norm (blockM e w)) = rowsL w := fun w => by
    have := blk_ok e w
    unfold blkOk at this
    simp only [Bool.and_eq_true, beq_iff_eq] at this
    exact this.1.2
  show dots true (norm (ws.flatMap (blockM e))) = _
  rw [norm_flat h1, dots_flat h2, show (fun w => dots true (norm (blockM e w))) = rowsL from funext h3]
theorem mail_len (e : Fin 3) : ∀ (ws : List W4), (subs (pairsL e) (ws.flatMap pageL)).length ≤ 15 * ws.length := by
  intro ws
  rw [subs_flat]
  induction ws with
  | nil => simp
  | cons w ws ih =>
    rw [List.flatMap_cons, List.length_append, List.length_cons]
    have := blk_ok e w
    unfold blkOk at this
    simp only [Bool.and_eq_true, decide_eq_true_eq] at this
    have h : (subs (pairsL e) (pageL w)).length ≤ 15 := this.2
    omega

theorem letterChk : allW.all (fun w => !(letterL w).contains 35 && (letterL w).length == 12 + leeW w) = true := by decide +kernel
theorem letter_ok (w : W4) : 35 ∉ letterL w ∧ (letterL w).length = 12 + leeW w := by
  have := List.all_eq_true.mp letterChk w (mem_allW w)
  simp only [Bool.and_eq_true, Bool.not_eq_true', beq_iff_eq] at this
  exact ⟨by have h := this.1; simpa using h, this.2⟩
theorem rowsChk : allW.all (fun w => isR (F 19 [dW w]) (.str (S (rowsL w)))) = true := by decide +kernel
theorem rows_ok (w : W4) : F 19 [dW w] = some (.str (S (rowsL w))) := isR_eq (List.all_eq_true.mp rowsChk w (mem_allW w))
theorem strChk : (List.finRange 4).all (fun k => isR (strF [.int (k.val : Int)]) (.str (S [48 + k.val]))) = true := by decide +kernel
theorem str_ok (k : Fin 4) : strF [.int (k.val : Int)] = some (.str (S [48 + k.val])) := by
  have := strChk
  simp only [List.all_eq_true, List.mem_finRange, true_implies] at this
  exact isR_eq (this k)

theorem joinF_flat {f : W4 → List Nat} (hf : ∀ w, (f w).length ≤ 100) (ws : List W4) (h : ws.length ≤ 16) : joinF [.str (S []), .lst (ws.map fun w => .str (S (f w)))] = some (.str (S (ws.flatMap f))) := by
  unfold joinF
  dsimp only
  have e : (ws.map fun w => D.str (S (f w))) = (ws.map fun w => S (f w)).map .str := by rw [List.map_map]; rfl
  rw [e, asStrs_map]
  dsimp only
  have hs : ∀ ws : List W4, ((ws.map fun w => S (f w)).map (·.length)).sum ≤ 100 * ws.length := by
    intro ws
    induction ws with
    | nil => simp
    | cons w ws ih =>
      simp only [List.map_cons, List.sum_cons, List.length_cons]
      have := hf w
      rw [S_len]
      omega
  have hk : JoinOk (S []) (ws.map fun w => S (f w)) = true := joinOk_of (by
    have := hs ws
    rw [S_len]; simp only [List.length_nil, Nat.mul_zero]; omega)
  have e3 : (ws.map ((fun x : Str => x.cps.toList) ∘ fun w => S (f w))).flatten = ws.flatMap f := by rw [List.flatMap_def]; rfl
  rw [if_pos hk, tjoin, S_list, joinLL_nil, List.map_map, e3]
theorem range_pick {α : Type} : ∀ (l m : List α), (List.range l.length).filterMap ((l ++ m)[·]?) = l
  | [], m => rfl
  | a :: l, m => by
    rw [List.length_cons, List.range_succ_eq_map, List.filterMap_cons, List.filterMap_map]
    have := range_pick l m
    simp only [List.cons_append, List.getElem?_cons_zero]
    congr 1
theorem sliceD_init (l : List D) (x : D) : sliceD (l ++ [x]) none (some (-1)) none = l := by
  have hb : sliceBounds none (some (-1)) none (l ++ [x]).length = (0, (l.length : Int), 1) := by
    unfold sliceBounds
    simp only [Option.getD_none, List.length_append, List.length_cons, List.length_nil]
    rw [if_pos (by decide), if_pos (by decide), if_pos (by decide)]
    congr 1
    congr 1
    omega
  unfold sliceD
  rw [hb]
  dsimp only
  have := sliceRange_one 0 l.length
  rw [show ((0 : Nat) : Int) = 0 from rfl] at this
  rw [this]
  simp only [Nat.sub_zero, Nat.zero_add, List.map_id']
  exact range_pick l [x]

theorem splitF_any {x y : Str} (hy : y.length ≠ 0) (hx : x.length ≤ 1000000) : splitF [.str x, .str y] = some (.lst ((Txt.split x y).map .str)) := by
  have h1 : (partsBetween x (occurrences x y 0 x.length (x.length + 1)) y.length).length ≤ x.length + 2 := by
    rw [length_partsBetween]
    have := StrLaws.occ_length_le x y 0 x.length (x.length + 1)
    omega
  unfold splitF
  dsimp only
  rw [if_pos]
  refine ⟨by simpa using hy, by rw [sizeLine_eq]; omega, by rw [sizeLine_eq]; exact Nat.le_trans h1 (by omega)⟩
section
variable {P : PW} {n : Nat} {sc : Scope} {ρ : Rho}
theorem I_sub {ev : Expr → Option D} {x : Str} {v i : Expr} {p : Pos} {ds : List D} (h : ev (.Subscript v i p) = some (.lst ds)) : iterE sc ev (.one x) (.Subscript v i p) = some ds := by
  conv => lhs; whnf
  rw [h]
theorem E_slice {v : Expr} {lo hi st : Option Expr} {p p' : Pos} {ds : List D} {l h k : Option Int} (hv : evalP P n sc ρ v = some (.lst ds)) (hl : optInt (evalP P n sc ρ) lo = some l) (hh : optInt (evalP P n sc ρ) hi = some h) (hs : optInt (evalP P n sc ρ) st = some k) (h0 : k ≠ some 0) :
    evalP P (n + 1) sc ρ (.Subscript v (.Slice lo hi st p') p) = some (.lst (sliceD ds l h k)) := by
  rw [evalP_slice, hv, hl, hh, hs]
  dsimp only
  rw [if_neg h0]
end
theorem PW1_str : PW1.fn (Str.ofString "str") = some strF := by kernel_rfl
theorem PW1_min : PW1.fn (Str.ofString "min") = some minF := by kernel_rfl
theorem PW1_rows : PW1.fn (Str.ofString "_law_rows") = some (F 19) := by kernel_rfl
theorem PW1_repl : PW1.fn (Str.ofString "replace") = some replF := by kernel_rfl
theorem PW1_quote : PW1.fn (Str.ofString "quotedata") = some quoteF := by kernel_rfl
theorem minChk : ∀ k : Fin 4, isR (minF [.int (k.val : Int), .int (4 - (k.val : Int))]) (.int (leeF k : Nat)) = true := by decide +kernel
theorem deqs_refl_ints : ∀ (n : Nat) (l : List Int), l.length < n → deqs (n + 1) (l.map .int) (l.map .int) = some true
  | 0, l, h => by omega
  | n + 1, [], h => rfl
  | n + 1, a :: l, h => by
    have : deq (n + 1) (.int a) (.int a) = some true := congrArg some (beq_self_eq_true a)
    show (match deq (n + 1) (.int a) (.int a), deqs (n + 1) (l.map .int) (l.map .int) with
      | some p, some q => some (p && q)
      | _, _ => none) = _
    rw [this, deqs_refl_ints n l (by simpa using h)]; rfl

theorem leeF_le : ∀ k : Fin 4, leeF k ≤ 2 := by decide
noncomputable def weiD (w : W4) : D := .int (leeW w : Nat)
theorem weights_ok (ws : List W4) (h : ws.length ≤ 16) (e : Fin 3) : F2 20 [.lst (ws.map dW), .str (S (endL e))] = some (.lst (ws.map weiD)) := by
  unfold F2
  have hf : fdef 20 = fdef 20 := rfl
  conv at hf => rhs; whnf
  rw [hf]
  clear hf
  have sl : ws.length ≤ sizeLine := by rw [sizeLine_eq]; omega
  refine runP_of (os := []) rfl (by kernel_rfl) rfl ?_
  have comp1 : ∀ w : W4, (pageL w).length ≤ 100 := fun w => by show 3 ≤ 100; decide
  have comp2 : ∀ w : W4, (rowsL w).length ≤ 100 := fun w => by
    have := (letter_ok w).2
    have h1 : leeW w ≤ 4 := by have a := leeF_le w.1; have b := leeF_le w.2; unfold leeW; omega
    show (letterL w ++ sepL).length ≤ 100
    rw [List.length_append, this]
    show 12 + leeW w + 3 ≤ 100
    omega
  refine (S_assign (d := .str (S (ws.flatMap pageL))) (by kernel_rfl) (E_meth (m := ⟨"str", Str.ofString "join", "str.join", joinF⟩) (d := .str (S [])) (ds := [.lst (ws.map fun w => .str (S (pageL w)))]) (by kernel_rfl) (by kernel_rfl) (E_args rfl (E_comp (l := ws) (enc := dW) (f := fun w => .str (S (pageL w))) (by kernel_rfl) (by kernel_rfl) sl fun w _ => ?_) E_args0) (by kernel_rfl) (joinF_flat comp1 ws h))).trans ?_
  · refine E_bin (a := .str (S [48 + w.1.val, 48 + w.2.val])) (b := .str (S [35])) (E_bin (a := .str (S [48 + w.1.val])) (b := .str (S [48 + w.2.val])) (E_call (ds := [.int (w.1.val : Int)]) (by kernel_rfl) PW1_str (by kernel_rfl) (str_ok w.1)) (E_call (ds := [.int (w.2.val : Int)]) (by kernel_rfl) PW1_str (by kernel_rfl) (str_ok w.2)) (by kernel_rfl)) (by kernel_rfl) (by kernel_rfl)
  have pl : (ws.flatMap pageL).length ≤ 60 := by
    have : ∀ ws : List W4, (ws.flatMap pageL).length = 3 * ws.length := by
      intro ws
      induction ws with
      | nil => rfl
      | cons w ws ih => rw [List.flatMap_cons, List.length_append, ih, List.length_cons]; show 3 + _ = _; omega
    rw [this]; omega
  have hb : ∀ p ∈ pairsL e, p.2.length ≤ 4 := by revert e; decide
  refine (S_assign (d := .str (S (subs (pairsL e) (ws.flatMap pageL)))) (by kernel_rfl) (E_call (ds := .str (S (ws.flatMap pageL)) :: pairD (pairsL e)) (by kernel_rfl) PW1_repl (by kernel_rfl) (rep_res (pairsL e) rfl hb _ pl))).trans ?_
  have ml := mail_len e ws
  have hq : quoteF [.str (S (subs (pairsL e) (ws.flatMap pageL)))] = some (.str (S (ws.flatMap rowsL))) := by
    unfold quoteF
    dsimp only
    rw [if_pos (by show (subs (pairsL e) (ws.flatMap pageL)).toArray.size ≤ 20000; rw [List.size_toArray]; omega), S_list, sent_eq]
    rfl
  refine (S_assign (d := .str (S (ws.flatMap rowsL))) (by kernel_rfl) (E_call (ds := [.str (S (subs (pairsL e) (ws.flatMap pageL)))]) (by kernel_rfl) PW1_quote (by kernel_rfl) hq)).trans ?_
  refine S_if_next (k := false) (T_cmp (a := .str (S (ws.flatMap rowsL))) (b := .str (S (ws.flatMap rowsL))) (by kernel_rfl) (by kernel_rfl) (E_meth (m := ⟨"str", Str.ofString "join", "str.join", joinF⟩) (d := .str (S [])) (ds := [.lst (ws.map fun w => .str (S (rowsL w)))]) (by kernel_rfl) (by kernel_rfl)
    (E_args rfl (E_comp (l := ws) (enc := dW) (f := fun w => .str (S (rowsL w))) (by kernel_rfl) (by kernel_rfl) sl fun w _ => E_call (ds := [dW w]) (by kernel_rfl) PW1_rows (by kernel_rfl) (rows_ok w)) E_args0) (by kernel_rfl) (joinF_flat comp2 ws h)) ?_) (by rw [if_neg Bool.false_ne_true]; exact execsL_nil) ?_
  · show some (!(S (ws.flatMap rowsL) == S (ws.flatMap rowsL))) = _
    rw [beq_self_eq_true]; rfl
  refine (S_assign (d := .lst (ws.map weiD)) (by kernel_rfl) (E_comp (l := ws) (enc := fun w => .str (S (letterL w))) (f := weiD) (by kernel_rfl) ?_ sl fun w _ => ?_)).trans ?_
  · refine I_sub ?_
    have hs : splitF [.str (S (ws.flatMap rowsL)), .str (S sepL)] = some (.lst ((ws.map fun w => .str (S (letterL w))) ++ [.str (S [])])) := by
      rw [splitF_any (by decide) (by
        rw [S_len]
        have : ∀ ws : List W4, (ws.flatMap rowsL).length ≤ 100 * ws.length := by
          intro ws
          induction ws with
          | nil => simp
          | cons w ws ih =>
            rw [List.flatMap_cons, List.length_append, List.length_cons]
            have := comp2 w
            omega
        have := this ws
        omega)]
      rw [show ws.flatMap rowsL = ws.flatMap fun w => letterL w ++ sepL from rfl, split_rows (fun w => (letter_ok w).1), List.map_append, List.map_map]
      rfl
    rw [E_slice (ds := (ws.map fun w => .str (S (letterL w))) ++ [.str (S [])]) (l := none) (h := some (-1)) (k := none) (E_meth (m := ⟨"str", Str.ofString "split", "str.split", splitF⟩) (d := .str (S (ws.flatMap rowsL))) (ds := [.str (S sepL)]) (by kernel_rfl) (by kernel_rfl) (by kernel_rfl) (by kernel_rfl) hs) rfl (by kernel_rfl) rfl (by simp), sliceD_init]
  · have hl := (letter_ok w).2
    refine E_bin (a := .int ((12 + leeW w : Nat) : Int)) (b := .int 12) (E_call (ds := [.str (S (letterL w))]) (by kernel_rfl) PW1_len (by kernel_rfl) ?_) (by kernel_rfl) ?_
    · have h1 : leeW w ≤ 4 := by have a := leeF_le w.1; have b := leeF_le w.2; unfold leeW; omega
      unfold lenF
      dsimp only
      rw [if_pos (by rw [S_len, hl, sizeLine_eq]; omega), S_len, hl]
    · show some (D.int (((12 + leeW w : Nat) : Int) - 12)) = some (D.int (leeW w : Nat))
      rw [show ((12 + leeW w : Nat) : Int) - 12 = ((leeW w : Nat) : Int) by omega]
  refine S_if_next (k := false) (T_cmp (a := .lst (ws.map weiD)) (b := .lst (ws.map weiD)) (by kernel_rfl) (by kernel_rfl) (E_comp (l := ws) (enc := dW) (f := weiD) (by kernel_rfl) (by kernel_rfl) sl fun w _ => ?_) ?_) (by rw [if_neg Bool.false_ne_true]; exact execsL_nil) (S_ret (by kernel_rfl))
  · refine E_call (ds := [.lst (([w.1, w.2] : List (Fin 4)).map fun k => .int (leeF k : Nat))]) (by kernel_rfl) PW1_sum (E_args rfl (E_comp (l := [w.1, w.2]) (enc := fun k => .int (k.val : Int)) (f := fun k => .int (leeF k : Nat)) (by kernel_rfl) (by kernel_rfl) (by rw [sizeLine_eq]; simp) fun k _ => ?_) E_args0) ?_
    · exact E_call (ds := [.int (k.val : Int), .int (4 - (k.val : Int))]) (by kernel_rfl) PW1_min (by kernel_rfl) (isR_eq (minChk k))
    · have := sumF_ints (l := [((leeF w.1 : Nat) : Int), ((leeF w.2 : Nat) : Int)])
      have hsum : ([((leeF w.1 : Nat) : Int), ((leeF w.2 : Nat) : Int)] : List Int).sum = ((leeF w.1 + leeF w.2 : Nat) : Int) := by simp only [List.sum_cons, List.sum_nil, Int.natCast_add, Int.add_zero]
      rw [hsum] at this
      exact this
  · have e2 : ws.map weiD = (ws.map fun w => ((leeW w : Nat) : Int)).map .int := by rw [List.map_map]; rfl
    show (deqs eqFuel (ws.map weiD) (ws.map weiD)).map (!·) = some false
    rw [e2, show eqFuel = 99 + 1 from rfl, deqs_refl_ints 99 _ (by rw [List.length_map]; omega)]; rfl
end Mine
end

section
open PySem PySem.W PyProof.Rows PySem.SeqAt
open PySem.Builtin.Str
set_option maxRecDepth 100000
set_option maxHeartbeats 4000000
set_option linter.unusedVariables false
namespace Mine

theorem PW0_sum : PW0.fn (Str.ofString "sum") = some sumF := by kernel_rfl
theorem PW1_sums : PW1.fn (Str.ofString "_law_sums") = some (F 13) := by kernel_rfl
theorem PW1_word : PW1.fn (Str.ofString "_law_word") = some (F 14) := by kernel_rfl

theorem fmod4 (i : Int) : 0 ≤ i.fmod 4 ∧ i.fmod 4 < 4 := ⟨Int.fmod_nonneg_of_pos i (by decide), Int.fmod_lt_of_pos i (by decide)⟩
theorem fmod3 (i : Int) : 0 ≤ i.fmod 3 ∧ i.fmod 3 < 3 := ⟨Int.fmod_nonneg_of_pos i (by decide), Int.fmod_lt_of_pos i (by decide)⟩
noncomputable def finOf (i : Int) : Fin 4 := ⟨(i.fmod 4).toNat, by have := fmod4 i; omega⟩
noncomputable def fin3 (i : Int) : Fin 3 := ⟨(i.fmod 3).toNat, by have := fmod3 i; omega⟩
theorem finOf_val (i : Int) : ((finOf i).val : Int) = i.fmod 4 := by have := fmod4 i; show ((i.fmod 4).toNat : Int) = _; omega
theorem fin3_val (i : Int) : ((fin3 i).val : Int) = i.fmod 3 := by have := fmod3 i; show ((i.fmod 3).toNat : Int) = _; omega
noncomputable def wordOf (i : Int) : W4 := (finOf (i.fdiv 4), finOf i)
theorem word_ok (i : Int) : F 14 [.int i] = some (dW (wordOf i)) := by
  have e : F 14 [.int i] = some (.tup [.int ((i.fdiv 4).fmod 4), .int (i.fmod 4)]) := by kernel_rfl
  rw [e, ← finOf_val, ← finOf_val]; rfl

theorem pick_map {β : Type} {f : β → D} (xs : List β) : ∀ js : List Nat, js.filterMap ((xs.map f)[·]?) = (js.filterMap (xs[·]?)).map f
  | [] => rfl
  | j :: js => by
    rw [List.filterMap_cons, List.filterMap_cons, pick_map xs js, List.getElem?_map]
    cases xs[j]? <;> rfl
theorem slice_ints (xs : List Int) (k : Int) (hk : 0 ≤ k) (hl : xs.length ≤ 63) : ∃ ys : List Int, sliceD (xs.map .int) (some k) (some 15) (some 3) = ys.map .int ∧ ys.length ≤ 63 := by
  unfold sliceD
  rw [pick_map]
  refine ⟨_, rfl, ?_⟩
  refine Nat.le_trans (List.length_filterMap_le _ _) ?_
  refine Nat.le_trans (sliceRange_length_le _ _ _ xs.length ?_ ?_) hl
  · intro _
    rw [List.length_map]
    unfold sliceBounds
    simp only [Option.getD_some]
    simp only [show ((3 : Int) > 0) from by decide, if_true, show ¬ ((15 : Int) < 0) from by decide, if_false]
    split <;> omega
  · intro h
    exact absurd (show (sliceBounds (some k) (some 15) (some 3) (xs.map D.int).length).2.2 > 0 from (by decide : (3 : Int) > 0)) h

section
variable {P : PW} {n : Nat} {sc : Scope} {ρ : Rho}
theorem compItems_two {α : Type} {encA encB f : α → D} {el : Rho → Option D} {x y : Str} : ∀ {l : List α}, (∀ a ∈ l, el ((y, encB a) :: (x, encA a) :: ρ) = some (f a)) → compItems (fun _ => some true) el (.two x y) ρ (l.map fun a => .tup [encA a, encB a]) = some (l.map f)
  | [], _ => rfl
  | a :: l, h => by
    simp only [List.map_cons, compItems, bindT]
    rw [h a List.mem_cons_self, compItems_two fun b hb => h b (List.mem_cons_of_mem _ hb)]
theorem E_comp2 {α : Type} {encA encB f : α → D} {elt iter : Expr} {x y : Str} {px py pt p : Pos} {k : Nat} {sc' : Scope} {l : List α} (hxy : targetOf (.Tuple [.Name x px, .Name y py] k pt) = some (.two x y)) (hc : compOk sc' sc (.two x y) = true)
    (hi : iterE sc (evalP P n sc ρ) (.two x y) iter = some (l.map fun a => .tup [encA a, encB a])) (hl : l.length ≤ sizeLine)
    (he : ∀ a ∈ l, evalP P n (relSc sc' sc) ((y, encB a) :: (x, encA a) :: restr sc' (.two x y) ρ) elt = some (f a)) : evalP P (n + 1) sc ρ (.ListComp elt [⟨.Tuple [.Name x px, .Name y py] k pt, iter, [], 0⟩] sc' p) = some (.lst (l.map f)) := by
  rw [evalP_comp, hxy]
  simp only [hc, Bool.not_true, Bool.false_eq_true, if_false, hi]
  rw [List.length_map, if_pos hl, compItems_two he]; rfl
end
theorem sums_ok (xs : List Int) (hl : xs.length ≤ 63) : ∃ a b c : Int, F 13 [.lst (xs.map .int)] = some (.lst [.int a, .int b, .int c]) := by
  suffices h : ∃ f : Nat → Int → Int, F 13 [.lst (xs.map .int)] = some (.lst [.int (f 0 38), .int (f 1 52), .int (f 2 37)]) from let ⟨f, h⟩ := h; ⟨_, _, _, h⟩
  have hk : ∀ k : Nat, ∃ ys : List Int, sliceD (xs.map .int) (some (k : Int)) (some 15) (some 3) = ys.map .int ∧ ys.length ≤ 63 := fun k => slice_ints xs k (by omega) hl
  let ysOf : Nat → List Int := fun k => Classical.choose (hk k)
  have ys1 : ∀ k : Nat, sliceD (xs.map .int) (some (k : Int)) (some 15) (some 3) = (ysOf k).map .int := fun k => (Classical.choose_spec (hk k)).1
  have ys2 : ∀ k : Nat, (ysOf k).length ≤ 63 := fun k => (Classical.choose_spec (hk k)).2
  refine ⟨fun k st => st + ((ysOf k).map fun x => x.fmod 1000000).sum, ?_⟩
  unfold F
  have hf : fdef 13 = fdef 13 := rfl
  conv at hf => rhs; whnf
  rw [hf]
  clear hf
  refine runP_of (os := []) rfl (by kernel_rfl) rfl ?_
  refine S_ret (E_comp2 (l := [(0, 38), (1, 52), (2, 37)]) (encA := fun p : Nat × Int => .int (p.1 : Int)) (encB := fun p => .int p.2) (f := fun p => .int (p.2 + ((ysOf p.1).map fun x => x.fmod 1000000).sum)) (by kernel_rfl) (by kernel_rfl) (by kernel_rfl) (by rw [sizeLine_eq]; simp) fun p _ => ?_)
  refine E_bin (a := .int p.2) (b := .int ((ysOf p.1).map fun x => x.fmod 1000000).sum) (by kernel_rfl) (E_call (ds := [.lst (((ysOf p.1).map fun x => x.fmod 1000000).map .int)]) (by kernel_rfl) PW0_sum (E_args rfl ?_ E_args0) sumF_ints) rfl
  rw [List.map_map]
  refine E_comp (l := ysOf p.1) (enc := D.int) (f := D.int ∘ fun x => x.fmod 1000000) (by kernel_rfl) (I_sub ?_) (by have := ys2 p.1; rw [sizeLine_eq]; omega) fun x _ => ?_
  · rw [E_slice (ds := xs.map .int) (l := some (p.1 : Int)) (h := some 15) (k := some 3) (by kernel_rfl) (by kernel_rfl) (by kernel_rfl) (by kernel_rfl) (by simp), ys1]
  · kernel_rfl
end Mine
end

section
open PySem PySem.W PyProof.Rows PySem.SeqAt
open PySem.Builtin.Str
set_option maxRecDepth 100000
set_option maxHeartbeats 4000000
set_option linter.unusedVariables false
namespace Mine

noncomputable def retArgs : List Stmt → List Expr
  | [.Return (some (.Call _ args _ _)) _] => args
  | _ => []
theorem share_ok (a : Int) {n : Nat} : binP .Add (.int ((a.fdiv 16).fmod 4)) (.int 1) = some (one4 (finOf (a.fdiv 16))) := by
  show some (D.int _) = some (D.int _)
  rw [← finOf_val]
  congr 2
theorem endPick : ∀ k : Fin 3, isR (pickD [.str (S [10]), .str (S [13]), .str (S [13, 10])] (k.val : Int)) (.str (S (endL k))) = true := by decide +kernel
theorem law_pre (xs : List Int) (hl : xs.length ≤ 63) : ∃ (g h s : W4) (sh va : Fin 4) (e : Fin 3) (ρ' : Rho), execsL (execP PW1 30 (fdef 24).scope) ((fdef 24).body.take 4) [(Str.ofString "script", .lst (xs.map .int))] [] = some (.next ρ' []) ∧
    evalsE (evalP PW1 30 (fdef 24).scope ρ') (retArgs ((fdef 24).body.drop 4)) = some [dW g, dW h, dW s, one4 sh, one4 va, .str (S (endL e))] := by
  obtain ⟨a, b, c, hs⟩ := sums_ok xs hl
  have hf : fdef 24 = fdef 24 := rfl
  conv at hf => rhs; whnf
  rw [hf]
  clear hf
  refine ⟨wordOf a, wordOf b, wordOf c, finOf (a.fdiv 16), finOf (b.fdiv 16), fin3 (c.fdiv 16), [(Str.ofString "end", .str (S (endL (fin3 (c.fdiv 16))))), (Str.ofString "value", one4 (finOf (b.fdiv 16))), (Str.ofString "share", one4 (finOf (a.fdiv 16))), (Str.ofString "s", dW (wordOf c)), (Str.ofString "h", dW (wordOf b)), (Str.ofString "g", dW (wordOf a)), (Str.ofString "sums", .lst [.int a, .int b, .int c]), (Str.ofString "script", .lst (xs.map .int))], ?_, ?_⟩
  · refine (S_assign (d := .lst [.int a, .int b, .int c]) (by kernel_rfl) (E_call (ds := [.lst (xs.map .int)]) (by kernel_rfl) PW1_sums (by kernel_rfl) hs)).trans ?_
    refine (S_unpackL (l := [(_, _), (_, _), (_, _)]) (ds := [dW (wordOf a), dW (wordOf b), dW (wordOf c)]) rfl (by kernel_rfl) rfl (E_comp (l := [a, b, c]) (enc := D.int) (f := fun i => dW (wordOf i)) (by kernel_rfl) (by kernel_rfl) (by rw [sizeLine_eq]; simp) fun i _ =>
      E_call (ds := [.int i]) (by kernel_rfl) PW1_word (by kernel_rfl) (word_ok i))).trans ?_
    refine (S_unpackL (l := [(_, _), (_, _)]) (ds := [one4 (finOf (a.fdiv 16)), one4 (finOf (b.fdiv 16))]) rfl (by kernel_rfl) rfl (E_comp (l := [a, b]) (enc := D.int) (f := fun i => one4 (finOf (i.fdiv 16))) (by kernel_rfl) (by kernel_rfl) (by rw [sizeLine_eq]; simp) fun i _ =>
      E_bin (a := .int ((i.fdiv 16).fmod 4)) (b := .int 1) (by kernel_rfl) ev_k (share_ok i (n := 0)))).trans ?_
    exact (S_assign (d := .str (S (endL (fin3 (c.fdiv 16))))) (by kernel_rfl) (E_subT (ds := [.str (S [10]), .str (S [13]), .str (S [13, 10])]) (k := (c.fdiv 16).fmod 3) rfl (by kernel_rfl) (by kernel_rfl) (by rw [← fin3_val]; exact isR_eq (endPick _)))).trans rfl
  · kernel_rfl

noncomputable def PW2 : PW := tower [(Str.ofString "_law_seen", F2 17), (Str.ofString "_law_due", F2 18), (Str.ofString "_law_weights", F2 20), (Str.ofString "_law_transformed", F2 22), (Str.ofString "hsv_to_rgb", F 3), (Str.ofString "_law_word", F 14), (Str.ofString "_law_crowd", F 16)]
theorem PW2_seen : PW2.fn (Str.ofString "_law_seen") = some (F2 17) := by kernel_rfl
theorem PW2_due : PW2.fn (Str.ofString "_law_due") = some (F2 18) := by kernel_rfl
theorem PW2_weights : PW2.fn (Str.ofString "_law_weights") = some (F2 20) := by kernel_rfl
theorem PW2_trans : PW2.fn (Str.ofString "_law_transformed") = some (F2 22) := by kernel_rfl
theorem PW2_rgb : PW2.fn (Str.ofString "hsv_to_rgb") = some (F 3) := by kernel_rfl
theorem PW2_word : PW2.fn (Str.ofString "_law_word") = some (F 14) := by kernel_rfl
theorem PW2_crowd : PW2.fn (Str.ofString "_law_crowd") = some (F 16) := by kernel_rfl
theorem PW2_len : PW2.fn (Str.ofString "len") = some lenF := by kernel_rfl

noncomputable def hsc : Scope := (fdef 23).scope
noncomputable def told (g h s : W4) (sh va : Fin 4) : List D := allW.map fun w => dueR w g h s sh va
noncomputable def rho0 (g h s : W4) (sh va : Fin 4) (e : Fin 3) : Rho := [(Str.ofString "end", .str (S (endL e))), (Str.ofString "value", one4 va), (Str.ofString "share", one4 sh), (Str.ofString "s", dW s), (Str.ofString "h", dW h), (Str.ofString "g", dW g)]
noncomputable def rho1 (g h s : W4) (sh va : Fin 4) (e : Fin 3) : Rho := (Str.ofString "due", .lst (told g h s sh va)) :: (Str.ofString "told", .lst (told g h s sh va)) :: (Str.ofString "wheel", wheelD sh va) :: (Str.ofString "words", .lst (allW.map dW)) :: (Str.ofString "crowd", .lst ((crowdW g h s).map dW)) :: rho0 g h s sh va e
theorem words_eq : (List.range 16).map (fun i : Nat => dW (wordOf i)) = allW.map dW := by kernel_rfl
theorem hue_ok : ∀ k : Fin 4, isR (binP .Mult (.int (k.val : Int)) (.flt 4608308318706860032)) (.flt (hue0 k)) = true := by decide +kernel
theorem wheel_eq (sh va : Fin 4) : D.lst ((List.finRange 4).map fun k => dCol (whl sh va k)) = wheelD sh va := by kernel_rfl
theorem allW_len : allW.length = 16 := by kernel_rfl
theorem holds_pre (g h s : W4) (sh va : Fin 4) (e : Fin 3) : execsL (execP PW2 30 (fdef 23).scope) ((fdef 23).body.take 5) (rho0 g h s sh va e) [] = some (.next (rho1 g h s sh va e) []) := by
  have hf : fdef 23 = fdef 23 := rfl
  conv at hf => rhs; whnf
  rw [hf]
  clear hf
  refine (S_assign (d := .lst ((crowdW g h s).map dW)) (by kernel_rfl) (E_call (ds := [dW g, dW h, dW s]) (by kernel_rfl) PW2_crowd (by kernel_rfl) (crowd_ok g h s))).trans ?_
  refine (S_assign (d := .lst (allW.map dW)) (by kernel_rfl) ?_).trans ?_
  · rw [← words_eq]
    exact E_comp (l := List.range 16) (enc := fun i : Nat => D.int (i : Int)) (f := fun i : Nat => dW (wordOf i)) (by kernel_rfl) (by kernel_rfl) (by rw [sizeLine_eq]; simp) fun i _ => E_call (ds := [.int (i : Int)]) (by kernel_rfl) PW2_word (by kernel_rfl) (word_ok _)
  refine (S_assign (d := wheelD sh va) (by kernel_rfl) ?_).trans ?_
  · rw [← wheel_eq]
    refine E_comp (l := List.finRange 4) (enc := fun k => D.int (k.val : Int)) (f := fun k => dCol (whl sh va k)) (by kernel_rfl) (by kernel_rfl) (by rw [sizeLine_eq]; simp) fun k _ => ?_
    exact E_call (ds := [.flt (hue0 k), .flt (qf (sh.val + 1) 4), .flt (qf (va.val + 1) 4)]) (by kernel_rfl) PW2_rgb (E_args rfl (E_bin (a := .int (k.val : Int)) (by kernel_rfl) rfl (isR_eq (hue_ok k))) (E_args rfl (E_bin (a := one4 sh) (E_name (by kernel_rfl) (by kernel_rfl)) ev_k (isR_eq (div4' sh)))
      (E_args rfl (E_bin (a := one4 va) (E_name (by kernel_rfl) (by kernel_rfl)) ev_k (isR_eq (div4' va))) E_args0))) (isR_eq (all3 wheelChk sh va k))
  refine (S_assign (d := .lst (told g h s sh va)) (by kernel_rfl) (E_comp (l := allW) (enc := dW) (f := fun w => dueR w g h s sh va) (by kernel_rfl) (by kernel_rfl) (by rw [sizeLine_eq, allW_len]; decide) fun w _ =>
    E_call (ds := [dW w, .lst ((crowdW g h s).map dW), wheelD sh va]) (by kernel_rfl) PW2_seen (by kernel_rfl) (seen_due w g h s sh va))).trans ?_
  exact (S_assign (d := .lst (told g h s sh va)) (by kernel_rfl) (E_comp (l := allW) (enc := dW) (f := fun w => dueR w g h s sh va) (by kernel_rfl) (by kernel_rfl) (by rw [sizeLine_eq, allW_len]; decide) fun w _ =>
    E_call (ds := [dW w, dW g, dW h, dW s, one4 sh, one4 va]) (by kernel_rfl) PW2_due (by kernel_rfl) (due_ok w g h s sh va))).trans rfl
end Mine
end

section
open PySem PySem.W PyProof.Rows PySem.SeqAt
open PySem.Builtin.Str
set_option maxRecDepth 100000
set_option maxHeartbeats 4000000
set_option linter.unusedVariables false
namespace Mine

noncomputable def share2 (sh : Fin 4) (b : Bool) : UInt64 := if b then qf (sh.val + 1) 4 else f0
theorem gtChk : ∀ (sh : Fin 4) (b : Bool), cmpP .Gt (.flt (share2 sh b)) (.int 0) = some b := by
  have h : (List.finRange 4).all (fun sh => (Float64.cmpInt (qf (sh.val + 1) 4) 0 == some .gt) && !(Float64.cmpInt f0 0 == some .gt)) = true := by decide +kernel
  intro sh b
  simp only [List.all_eq_true, List.mem_finRange, true_implies, Bool.and_eq_true, Bool.not_eq_true'] at h
  cases b
  · show some (Float64.cmpInt f0 0 == some .gt) = _; rw [(h sh).2]
  · show some (Float64.cmpInt (qf (sh.val + 1) 4) 0 == some .gt) = _; rw [(h sh).1]
theorem eqChk : ∀ (sh : Fin 4) (b : Bool), cmpP .Eq (.flt (share2 sh b)) (.int 0) = some (!b) := by
  have h : (List.finRange 4).all (fun sh => !(Float64.cmpInt (qf (sh.val + 1) 4) 0 == some .eq) && (Float64.cmpInt f0 0 == some .eq)) = true := by decide +kernel
  intro sh b
  simp only [List.all_eq_true, List.mem_finRange, true_implies, Bool.and_eq_true, Bool.not_eq_true'] at h
  cases b
  · show some (Float64.cmpInt f0 0 == some .eq) = _; rw [(h sh).2]; rfl
  · show some (Float64.cmpInt (qf (sh.val + 1) 4) 0 == some .eq) = _; rw [(h sh).1]; rfl
theorem zeroChk : ∀ (sh : Fin 4) (b : Bool), (!Float64.isZero (share2 sh b)) = b := by
  have h : (List.finRange 4).all (fun sh => !(Float64.isZero (qf (sh.val + 1) 4)) && Float64.isZero f0) = true := by decide +kernel
  intro sh b
  simp only [List.all_eq_true, List.mem_finRange, true_implies, Bool.and_eq_true, Bool.not_eq_true'] at h
  cases b
  · show (!Float64.isZero f0) = false; rw [(h sh).2]; rfl
  · show (!Float64.isZero (qf (sh.val + 1) 4)) = true; rw [(h sh).1]; rfl
/-- a record, its parts -/
theorem due_parts (w g h s : W4) (sh va : Fin 4) : ∃ a b : UInt64, dueR w g h s sh va = .tup [dW w, .flt a, .flt (share2 sh (clearW w g h)), .flt b] ∧ Float64.cmp a a = some .eq ∧ Float64.cmp (share2 sh (clearW w g h)) (share2 sh (clearW w g h)) = some .eq ∧ Float64.cmp b b = some .eq := by
  have h1 : (List.finRange 4).all (fun k => decide (Float64.cmp (qf k.val 4) (qf k.val 4) = some .eq) && decide (Float64.cmp (qf (k.val + 1) 4) (qf (k.val + 1) 4) = some .eq)) = true := by decide +kernel
  have h2 : (List.finRange 4).all (fun sh => (List.finRange 4).all fun va => decide (Float64.cmp (grey sh va) (grey sh va) = some .eq)) = true := by decide +kernel
  have h3 : Float64.cmp f0 f0 = some .eq := by decide +kernel
  simp only [List.all_eq_true, List.mem_finRange, true_implies, Bool.and_eq_true, decide_eq_true_eq] at h1 h2
  unfold dueR
  cases clearW w g h with
  | true => exact ⟨_, _, if_pos rfl, (h1 _).1, (h1 sh).2, (h1 va).2⟩
  | false => exact ⟨_, _, if_neg Bool.false_ne_true, h3, h3, h2 sh va⟩
theorem deq_flt {a : UInt64} (h : Float64.cmp a a = some .eq) (k : Nat) : deq (k + 1) (.flt a) (.flt a) = some true := by
  refine if_pos ?_
  rw [h]; rfl
theorem deq_tup (k : Nat) (x y : List D) : deq (k + 1) (.tup x) (.tup y) = deqs k x y := rfl
theorem deq_lst (k : Nat) (x y : List D) : deq (k + 1) (.lst x) (.lst y) = deqs k x y := rfl
theorem deqs_nil (k : Nat) : deqs (k + 1) [] [] = some true := rfl
theorem deqs_cons {k : Nat} {a : D} {l : List D} (h : deq k a a = some true) (h2 : deqs k l l = some true) : deqs (k + 1) (a :: l) (a :: l) = some true := by
  show (match deq k a a, deqs k l l with
    | some p, some q => some (p && q)
    | _, _ => none) = _
  rw [h, h2]; rfl
theorem deq_due (w g h s : W4) (sh va : Fin 4) (k : Nat) : deq (k + 10) (dueR w g h s sh va) (dueR w g h s sh va) = some true := by
  obtain ⟨a, b, e, c1, c2, c3⟩ := due_parts w g h s sh va
  rw [e]
  rw [show k + 10 = (k + 9) + 1 from rfl, deq_tup]
  refine deqs_cons (k := k + 8) ?_ (deqs_cons (k := k + 7) (deq_flt c1 _) (deqs_cons (k := k + 6) (deq_flt c2 _) (deqs_cons (k := k + 5) (deq_flt c3 _) (deqs_nil _))))
  unfold dW
  rw [show k + 8 = (k + 7) + 1 from rfl, deq_tup]
  have hi : ∀ (j : Nat) (i : Int), deq (j + 1) (.int i) (.int i) = some true := fun j i => congrArg some (beq_self_eq_true i)
  exact deqs_cons (k := k + 6) (hi _ _) (deqs_cons (k := k + 5) (hi _ _) (deqs_nil _))
theorem deqs_due (g h s : W4) (sh va : Fin 4) : ∀ (l : List W4) (n : Nat), l.length + 10 ≤ n → deqs (n + 1) (l.map fun w => dueR w g h s sh va) (l.map fun w => dueR w g h s sh va) = some true
  | [], n, _ => deqs_nil n
  | w :: l, n, hn => by
    rw [List.length_cons] at hn
    obtain ⟨m, rfl⟩ : ∃ m, n = m + 1 := ⟨n - 1, by omega⟩
    rw [List.map_cons]
    refine deqs_cons (k := m + 1) ?_ (deqs_due g h s sh va l m (by omega))
    obtain ⟨j, hj⟩ : ∃ j, m + 1 = j + 10 := ⟨m - 9, by omega⟩
    rw [hj]
    exact deq_due w g h s sh va j

noncomputable def clears (g h s : W4) (sh va : Fin 4) : List D := (allW.filter fun w => clearW w g h).map fun w => dueR w g h s sh va
noncomputable def dulls (g h s : W4) (sh va : Fin 4) : List D := (allW.filter fun w => !clearW w g h).map fun w => dueR w g h s sh va
noncomputable def rho2 (g h s : W4) (sh va : Fin 4) (e : Fin 3) : Rho := (Str.ofString "dull", .lst (dulls g h s sh va)) :: (Str.ofString "clear", .lst (clears g h s sh va)) :: rho1 g h s sh va e
theorem ne_due (g h s : W4) (sh va : Fin 4) (l : List W4) (hl : l.length ≤ 16) : cmpP .NotEq (.lst (l.map fun w => dueR w g h s sh va)) (.lst (l.map fun w => dueR w g h s sh va)) = some false := by
  show (deqs eqFuel _ _).map (!·) = _
  rw [show eqFuel = 99 + 1 from rfl, deqs_due g h s sh va l 99 (by omega)]; rfl
theorem filter_len (p : W4 → Bool) : (allW.filter p).length ≤ 16 := by
  have := List.length_filter_le p allW
  rwa [allW_len] at this
theorem count_cast (k : Nat) : ∀ l : List Nat, (l.map fun n : Nat => (n : Int)).count (k : Int) = l.count k
  | [] => rfl
  | a :: l => by
    rw [List.map_cons, List.count_cons, List.count_cons, count_cast k l]
    congr 1
    by_cases h : a = k
    · subst h; simp
    · have : ¬ (a : Int) = (k : Int) := by omega
      simp [h, this]
theorem count_ok (l : List Nat) (k : Nat) : countF [.lst ((l.map fun n : Nat => (n : Int)).map .int), .int (k : Int)] = some (.int ((l.count k : Nat) : Int)) := by
  unfold countF
  dsimp only
  rw [asInts_map, Option.map_some, count_cast]
theorem count_wei (l : List W4) (k : Nat) : countF [.lst (l.map weiD), .int (k : Int)] = some (.int (((l.map leeW).count k : Nat) : Int)) := by
  have e1 : l.map weiD = ((l.map leeW).map fun n : Nat => (n : Int)).map .int := by rw [List.map_map, List.map_map]; rfl
  rw [e1]
  exact count_ok _ k
theorem sm_len (cs : List W4) (h : cs.length ≤ 8) : sm (cs.length : Int) = true := by
  unfold sm; simp; omega

theorem I_call2 {sc : Scope} {ev : Expr → Option D} {x f : Str} {fp cp : Pos} {a b : Expr} {ds : List D} (hz : (f == Str.ofString "zip") = false) (h : ev (.Call (.Name f fp) [a, b] [] cp) = some (.lst ds)) : iterE sc ev (.one x) (.Call (.Name f fp) [a, b] [] cp) = some ds := by
  have hn : ¬ (f = ("zip" : Str) ∧ sc.names.lookup f = some .globalImplicit) := fun q => by
    have : (f == Str.ofString "zip") = true := beq_iff_eq.mpr q.1
    rw [hz] at this; cases this
  refine (if_neg hn).trans ?_
  rw [h]
theorem eq_ints (l : List Int) (h : l.length < 98) : cmpP .Eq (.lst (l.map .int)) (.lst (l.map .int)) = some true := by
  have e : cmpP .Eq (.lst (l.map .int)) (.lst (l.map .int)) = deq eqFuel (.lst (l.map .int)) (.lst (l.map .int)) := rfl
  rw [e, show eqFuel = 99 + 1 from rfl, deq_lst]
  exact deqs_refl_ints 98 _ h
theorem clears_rec (g h s : W4) (sh va : Fin 4) : clears g h s sh va = (clearL g h).map (recD s (.flt (qf (sh.val + 1) 4)) (.flt (qf (va.val + 1) 4))) := by
  unfold clears clearL
  refine List.map_congr_left fun w hw => ?_
  have := (List.mem_filter.mp hw).2
  unfold dueR recD
  rw [if_pos this]
theorem transW_len (s : W4) (l : List W4) : (transW s l).length ≤ 5 := by
  have : ∀ (l : List W4) (t : List Int), t.length ≤ 5 → (l.foldl (transS s) t).length ≤ 5 := by
    intro l
    induction l with
    | nil => intro t h; exact h
    | cons w l ih => intro t h; exact ih _ (transS_len s t w h)
  exact this l _ (by decide)
theorem holds_post (g h s : W4) (sh va : Fin 4) (e : Fin 3) : execsL (execP PW2 30 (fdef 23).scope) ((fdef 23).body.drop 6) (rho2 g h s sh va e) [] = some (.ret (.bool true)) := by
  have hf : fdef 23 = fdef 23 := rfl
  conv at hf => rhs; whnf
  rw [hf]
  clear hf
  have sl : ∀ p : W4 → Bool, (allW.filter p).length ≤ sizeLine := fun p => by have := filter_len p; rw [sizeLine_eq]; omega
  have aw : allW.length ≤ sizeLine := by rw [sizeLine_eq, allW_len]; decide
  have c8 := crowdW_len g h s
  refine S_if_next (k := false || false) (T_or (T_cmp (a := .lst (clears g h s sh va)) (b := .lst (clears g h s sh va)) (by kernel_rfl) (by kernel_rfl) (E_compIf (l := allW) (enc := fun w => dueR w g h s sh va) (f := fun w => dueR w g h s sh va) (p := fun w => clearW w g h) (by kernel_rfl) (by kernel_rfl) aw (fun w _ => ?_) fun w _ _ => by kernel_rfl) (ne_due g h s sh va _ (filter_len _))) fun _ =>
    T_cmp (a := .lst (dulls g h s sh va)) (b := .lst (dulls g h s sh va)) (by kernel_rfl) (by kernel_rfl) (E_compIf (l := allW) (enc := fun w => dueR w g h s sh va) (f := fun w => dueR w g h s sh va) (p := fun w => !clearW w g h) (by kernel_rfl) (by kernel_rfl) aw (fun w _ => ?_) fun w _ _ => by kernel_rfl) (ne_due g h s sh va _ (filter_len _)))
    (by rw [if_neg (by decide)]; exact execsL_nil) ?_
  · obtain ⟨a, b, ed, _⟩ := due_parts w g h s sh va
    exact T_cmp (a := .flt (share2 sh (clearW w g h))) (b := .int 0) (by kernel_rfl) (E_subT (ds := [dW w, .flt a, .flt (share2 sh (clearW w g h)), .flt b]) (k := 2) rfl (E_name (by kernel_rfl) (by rw [← ed]; exact List.lookup_cons_self)) (by kernel_rfl) (by kernel_rfl)) (by kernel_rfl) (gtChk sh _)
  · obtain ⟨a, b, ed, _⟩ := due_parts w g h s sh va
    exact T_cmp (a := .flt (share2 sh (clearW w g h))) (b := .int 0) (by kernel_rfl) (E_subT (ds := [dW w, .flt a, .flt (share2 sh (clearW w g h)), .flt b]) (k := 2) rfl (E_name (by kernel_rfl) (by rw [← ed]; exact List.lookup_cons_self)) (by kernel_rfl) (by kernel_rfl)) (by kernel_rfl) (eqChk sh _)
  refine (S_assign (d := .lst ((clearL g h).map weiD)) (by kernel_rfl) (E_call (ds := [.lst ((clearL g h).map dW), .str (S (endL e))]) (by kernel_rfl) PW2_weights (E_args rfl (E_comp (l := clearL g h) (enc := fun w => dueR w g h s sh va) (f := dW) (by kernel_rfl) (by kernel_rfl) (sl _) fun w _ => ?_) (E_args rfl (by kernel_rfl) E_args0)) (weights_ok (clearL g h) (filter_len _) e))).trans ?_
  · obtain ⟨a, b, ed, _⟩ := due_parts w g h s sh va
    exact E_subT (ds := [dW w, .flt a, .flt (share2 sh (clearW w g h)), .flt b]) (k := 0) rfl (E_name (by kernel_rfl) (by rw [← ed]; exact List.lookup_cons_self)) (by kernel_rfl) (by kernel_rfl)
  refine (S_assign (d := .lst ((crowdW g h s).map weiD)) (by kernel_rfl) (E_call (ds := [.lst ((crowdW g h s).map dW), .str (S (endL e))]) (by kernel_rfl) PW2_weights (by kernel_rfl) (weights_ok (crowdW g h s) (by omega) e))).trans ?_
  refine S_if_next (k := false || false) (T_or (T_cmp (a := .lst ((clearL g h).map weiD)) (b := .none) (by kernel_rfl) (by kernel_rfl) (by kernel_rfl) rfl) fun _ => T_cmp (a := .lst ((crowdW g h s).map weiD)) (b := .none) (by kernel_rfl) (by kernel_rfl) (by kernel_rfl) rfl) (by rw [if_neg (by decide)]; exact execsL_nil) ?_
  refine (S_assign (d := .lst (((List.range 5).map fun k => (16 * (((crowdW g h s).map leeW).count k : Nat) : Int)).map .int)) (by kernel_rfl) ?_).trans ?_
  · rw [List.map_map]
    refine E_comp (l := List.range 5) (enc := fun i : Nat => D.int (i : Int)) (f := D.int ∘ fun k => (16 * (((crowdW g h s).map leeW).count k : Nat) : Int)) (by kernel_rfl) (by kernel_rfl) (by rw [sizeLine_eq]; simp) fun k _ => ?_
    refine E_bin (a := .int 16) (b := .int ((((crowdW g h s).map leeW).count k : Nat) : Int)) (by kernel_rfl) (E_meth (m := ⟨"list", Str.ofString "count", "list.count", countF⟩) (d := .lst ((crowdW g h s).map weiD)) (ds := [.int (k : Int)]) (by kernel_rfl) (by kernel_rfl) (by kernel_rfl) (by kernel_rfl) ?_) (by kernel_rfl)
    dsimp only
    exact count_wei (crowdW g h s) k
  refine S_ret (E_cmp (a := .lst (((List.range 5).map fun k => (16 * (((crowdW g h s).map leeW).count k : Nat) : Int)).map .int)) (b := .lst (((List.range 5).map fun k => (16 * (((crowdW g h s).map leeW).count k : Nat) : Int)).map .int)) (by kernel_rfl) (by kernel_rfl) ?_ ?_)
  · rw [mw, List.map_map]
    refine E_comp (l := transW s (clearL g h)) (enc := D.int) (f := D.int ∘ (((crowdW g h s).length : Int) * ·)) (by kernel_rfl) (I_call2 (by kernel_rfl) (E_call (ds := [.lst ((clearL g h).map (recD s (.flt (qf (sh.val + 1) 4)) (.flt (qf (va.val + 1) 4)))), .lst ((clearL g h).map weiD)]) (by kernel_rfl) PW2_trans (E_args rfl (E_name (by kernel_rfl) ?_) (E_args rfl (by kernel_rfl) E_args0)) (trans_ok s _ _ (clearL g h)))) (by have := transW_len s (clearL g h); rw [sizeLine_eq]; omega) fun i _ => ?_
    · rw [← clears_rec]; kernel_rfl
    · refine E_bin (a := .int ((crowdW g h s).length : Int)) (b := .int i) (E_call (ds := [.lst ((crowdW g h s).map dW)]) (by kernel_rfl) PW2_len (by kernel_rfl) (by simp only [lenF, List.length_map])) (by kernel_rfl) ?_
      exact binP_mul (sm_len _ c8)
  · exact eq_ints _ (by simp)
end Mine
end

section
open PySem PySem.W PyProof.Rows PySem.SeqAt PySem.Calls
set_option maxRecDepth 100000
set_option maxHeartbeats 4000000
set_option linter.unusedVariables false
namespace Mine

noncomputable def sB (x : String) : Str := Str.ofString x
noncomputable def idx : List Nat := [2, 3, 5, 6, 11, 13, 14, 15, 16, 17, 18, 19, 20, 21, 22, 23]
/-- what is known of the heap before the call -/
structure Hyp (mg mb : Str → Option Value) (h₀ : Heap) : Prop where
  g : h₀.Ns mainGlobals mg
  b : h₀.Ns builtinsNs mb
  nb : NoneBooked h₀
  nolimit : h₀.NoLimit
  fn : ∀ k ∈ idx, ∃ a o pm cd doc, mg (fdef k).name = some (.ref a) ∧ h₀.get? a = some o ∧ o.data = .func (docDef (fdef k).name (fdef k).params (fdef k).body (fdef k).scope pm cd doc) ∧ h₀.CodeRec cd (fdef k).name
  pat1 : ∃ P, mg (Str.ofString "_twin_re_1") = some (.ref P) ∧ PatAt h₀ P code1
  pat2 : ∃ P, mg (Str.ofString "_twin_re_2") = some (.ref P) ∧ PatAt h₀ P code2
  crlf : ∃ t, mg (Str.ofString "CRLF") = some (.str (Str.ofString "\r\n") t)
  free : ∀ x ∈ [Str.ofString "range", Str.ofString "zip", Str.ofString "enumerate", Str.ofString "len", Str.ofString "int", Str.ofString "str", Str.ofString "min", Str.ofString "max", Str.ofString "sum"], mg x = none
  range : mb (Str.ofString "range") = some (.type "range")
  zip : mb (Str.ofString "zip") = some (.type "zip")
  enum : mb (Str.ofString "enumerate") = some (.type "enumerate")
  len : mb (Str.ofString "len") = some (.builtin "len")
  int : mb (Str.ofString "int") = some (.type "int")
  str : mb (Str.ofString "str") = some (.type "str")
  min : mb (Str.ofString "min") = some (.builtin "min")
  max : mb (Str.ofString "max") = some (.builtin "max")
  sum : mb (Str.ofString "sum") = some (.builtin "sum")

section
variable {prog : Program} {w : World} {mg mb : Str → Option Value} {h₀ : Heap}
noncomputable def cx (prog : Program) (w : World) (H : Hyp mg mb h₀) : Cx where
  prog := prog
  w := w
  mg := mg
  mb := mb
  G := HKeep h₀
  keep := fun k g => HKeep.trans g k
  gl := fun g => H.g.keeps g
  bl := fun g => H.b.keeps g
  nb := fun g => let ⟨mc, h1, h2⟩ := H.nb; ⟨mc, h1.keeps g, h2⟩
  range := ⟨H.free _ (by decide), H.range⟩
  zip := ⟨H.free _ (by decide), H.zip⟩
  enum := ⟨H.free _ (by decide), H.enum⟩

theorem Room.less {A : Around} {a b : Nat} (h : a ≤ b) (R : Room A b) : Room A a := ⟨R.hd, by have := R.dp; omega, by have := R.un; omega⟩
theorem Meets1.more {c : Cx} {a b : Nat} {fv : Value} {φ : Fn} (h : a ≤ b) (m : Meets1 c a fv φ) : Meets1 c b fv φ := fun A X s vals ds d E Q R => m A X s vals ds d E Q (R.less h)
theorem CallOk.more {c : Cx} {a b : Nat} {f : Str} {φ : Fn} (h : a ≤ b) (m : CallOk c a f φ) : CallOk c b f φ := let ⟨fv, h1, h2, h3⟩ := m; ⟨fv, h1, h2, h3.more h⟩
theorem MethOk.more {c : Cx} {a b : Nat} {m : Meth} (h : a ≤ b) (x : MethOk c a m) : MethOk c b m := ⟨x.ne, x.pa, x.slot, x.ty, x.meets.more h⟩
theorem PWOk.more {c : Cx} {a b : Nat} {P : PW} (h : a ≤ b) (x : PWOk c a P) : PWOk c b P := ⟨fun f φ e => (x.fn f φ e).more h, fun m hm => (x.ms m hm).more h⟩

theorem lookup_cases {l : List (Str × Fn)} {f : Str} {φ : Fn} (h : l.lookup f = some φ) : (f, φ) ∈ l := PySem.mem_of_lookup h
theorem pw0_ok (H : Hyp mg mb h₀) (lvl : Nat) : PWOk (cx prog w H) lvl PW0 := by
  refine ⟨fun f φ h => ?_, fun m hm => ?_⟩
  · have h := lookup_cases h
    have fr : ∀ x, x ∈ [Str.ofString "range", Str.ofString "zip", Str.ofString "enumerate", Str.ofString "len", Str.ofString "int", Str.ofString "str", Str.ofString "min", Str.ofString "max", Str.ofString "sum"] → mg x = none := H.free
    simp only [List.mem_cons, List.not_mem_nil, or_false, Prod.mk.injEq] at h
    rcases h with ⟨rfl, rfl⟩ | ⟨rfl, rfl⟩ | ⟨rfl, rfl⟩ | ⟨rfl, rfl⟩ | ⟨rfl, rfl⟩ | ⟨rfl, rfl⟩
    · exact ⟨_, .inr ⟨fr _ (by simp), H.len⟩, .inl ⟨_, rfl⟩, meets_len⟩
    · exact ⟨_, .inr ⟨fr _ (by simp), H.int⟩, .inr (.inl ⟨_, rfl⟩), meets_int⟩
    · exact ⟨_, .inr ⟨fr _ (by simp), H.str⟩, .inr (.inl ⟨_, rfl⟩), meets_str⟩
    · exact ⟨_, .inr ⟨fr _ (by simp), H.min⟩, .inl ⟨_, rfl⟩, meets_min⟩
    · exact ⟨_, .inr ⟨fr _ (by simp), H.max⟩, .inl ⟨_, rfl⟩, meets_max⟩
    · exact ⟨_, .inr ⟨fr _ (by simp), H.sum⟩, .inl ⟨_, rfl⟩, meets_sum⟩
  · have hm : m ∈ ([⟨"str", Str.ofString "join", "str.join", joinF⟩, ⟨"str", Str.ofString "split", "str.split", splitF⟩, ⟨"list", Str.ofString "count", "list.count", countF⟩] : List Meth) := hm
    simp only [List.mem_cons, List.not_mem_nil, or_false] at hm
    rcases hm with rfl | rfl | rfl
    · exact ⟨by decide, F.plainAttrs_str, F.slot_str_join, F.type_str_join, meets_join⟩
    · exact ⟨by decide, F.plainAttrs_str, F.slot_str_split, F.type_str_split, meets_split⟩
    · exact ⟨by decide, F.plainAttrs_list, F.slot_list_count, F.type_list_count, meets_count⟩

/-- a def of one or more plain arguments -/
theorem def_ok (H : Hyp mg mb h₀) {lvl : Nat} {P : PW} (hP : PWOk (cx prog w H) lvl P) {n k : Nat} (hk : k ∈ idx)
    (hbind : ∀ pm cd doc (vals : List Value), vals.length = (fdef k).xs.length → bindArgs (docDef (fdef k).name (fdef k).params (fdef k).body (fdef k).scope pm cd doc) ⟨vals, []⟩ = pure ((fdef k).xs.zip vals)) :
    CallOk (cx prog w H) (lvl + 1) (fdef k).name (runP P n (fdef k)) := by
  obtain ⟨a, o, pm, cd, doc, h1, h2, h3, h4⟩ := H.fn k hk
  exact ⟨.ref a, .inl h1, .inr (.inr ⟨a, o, _, rfl, h3, fun h g => g _ _ h2⟩), run_ok hP (fun h g => ⟨o, g _ _ h2, h3, h4.keeps g, H.nolimit.keeps g⟩) (hbind pm cd doc)⟩
end
end Mine
end

section
open PySem PySem.W PyProof.Rows PySem.SeqAt PySem.Calls
set_option maxRecDepth 100000
set_option maxHeartbeats 4000000
set_option linter.unusedVariables false
namespace Mine

section
variable {prog : Program} {w : World} {mg mb : Str → Option Value} {h₀ : Heap}
/-- the frame of a call and its body, however the body is shown -/
theorem body_gen {c : Cx} {lvl : Nat} {f : FnRec} {a : Addr} {pm cd doc : Value} {A : Around} {X : List Addr} {s : Shared} {vals : List Value} {ds : List D} {E : Value → Shared → Prop} {R : Result → Shared → Prop} {os : List Str}
    (Ro : Room A (lvl + 1)) (hG : c.G s.heap) (htk : 0 < s.toks) (L : Low X s.heap) (hlim : s.heap.NoLimit) (r : RpAll X s.heap vals ds) (hlen : ds.length = f.xs.length) (hok : fnOk f os = true)
    (hex : ∀ (s₁ : Shared) (E' : Value → Shared → Prop), Fr1 c X s (callEnvC (docDef f.name f.params f.body f.scope pm cd doc) s.heap.objs.size a) (f.xs.zip ds).reverse [] s₁ → Room (A.deeper (callEnvC (docDef f.name f.params f.body f.scope pm cd doc) s.heap.objs.size a)) lvl →
      wpAny (model c.prog c.w) (A.deeper (callEnvC (docDef f.name f.params f.body f.scope pm cd doc) s.heap.objs.size a)) (execs f.body (callEnvC (docDef f.name f.params f.body f.scope pm cd doc) s.heap.objs.size a))
        (fun fl s' => R (.ok (.ret (match fl with | .ret v => v | _ => .none))) s') E' s₁) :
    wpAny (model c.prog c.w) A.in1 (newFunctionEnv f.scope mainGlobals [] (f.xs.zip vals) (f.name ++ ".<locals>.") (some a) cd none builtinsNs)
      (fun env s₂ => s₂.heap.NoLimit ∧ codeAny (model c.prog c.w) A (.func f.body env) R s₂) E s := by
  simp only [fnOk, Bool.and_eq_true, beq_iff_eq, Bool.not_eq_true', List.all_eq_true, decide_eq_true_eq, List.contains_eq_mem, decide_eq_false_iff_not] at hok
  obtain ⟨⟨⟨⟨⟨hkind, hco⟩, hgen⟩, hsl⟩, hos⟩, hnd⟩ := hok
  have hvl : vals.length = f.xs.length := r.length.trans hlen
  refine wpAny_grows (Grows.refl s) (wpAny_newFunctionEnv_cells hkind (fun x hx => ?_) fun env he s' x g => ?_)
  · have hx' : x.1 ∈ f.xs := (List.of_mem_zip hx).1
    have hk := hsl x.1 hx'
    unfold slotK at hk
    simp only [Bool.or_eq_true, beq_iff_eq] at hk
    rcases hk with hk | hk
    · exact .inl hk
    · refine .inr ⟨hk, ?_⟩
      obtain ⟨cc, hcc⟩ := cellsFrom_some (n := s.heap.objs.size + 1) (acc := []) (.inl (mem_of_lookup' hk))
      show ((cellsFrom (s.heap.objs.size + 1) f.scope.names []).lookup x.1).isSome = true
      rw [hcc]; rfl
  · subst he
    refine ⟨hlim.keeps x.toInCall.keep, codeAny_func (hex s' _ (Fr1.start (c := c) (X := X) (f := f) (a := a) (pm := pm) (cd := cd) (doc := doc) hkind hsl hG htk L r x g) ⟨Ro.hd, ?_, ?_⟩)⟩
    · show A.depth + 1 + lvl < recursionLimit
      have := Ro.dp; omega
    · show A.units + 3 + 20 * lvl + 1000 < cLine
      have := Ro.un; omega
theorem body_run {c : Cx} {lvl : Nat} {P : PW} (hP : PWOk c lvl P) {n : Nat} {f : FnRec} {a : Addr} {pm cd doc : Value} {A : Around} {X : List Addr} {s : Shared} {vals : List Value} {ds : List D} {d : D} {E : Value → Shared → Prop} {R : Result → Shared → Prop}
    (Ro : Room A (lvl + 1)) (hG : c.G s.heap) (htk : 0 < s.toks) (L : Low X s.heap) (hlim : s.heap.NoLimit) (r : RpAll X s.heap vals ds) (hr : runP P n f ds = some d) (h : ∀ v s', Out X s d v s' → R (.ok (.ret v)) s') :
    wpAny (model c.prog c.w) A.in1 (newFunctionEnv f.scope mainGlobals [] (f.xs.zip vals) (f.name ++ ".<locals>.") (some a) cd none builtinsNs)
      (fun env s₂ => s₂.heap.NoLimit ∧ codeAny (model c.prog c.w) A (.func f.body env) R s₂) E s := by
  unfold runP at hr
  split at hr
  · rename_i hc
    obtain ⟨hlen, hok⟩ := hc
    split at hr
    · rename_i d' hex
      cases hr
      refine body_gen (pm := pm) (doc := doc) Ro hG htk L hlim r hlen hok fun s₁ E' F hRd => ?_
      simp only [fnOk, Bool.and_eq_true, beq_iff_eq, Bool.not_eq_true', List.all_eq_true, decide_eq_true_eq, List.contains_eq_mem, decide_eq_false_iff_not] at hok
      obtain ⟨⟨⟨⟨⟨hkind, hco⟩, hgen⟩, hsl⟩, hos⟩, hnd⟩ := hok
      refine pre_ok (body := f.body) F (fun y hy => ⟨(hos y hy).1, ?_, fun p hp => nomatch hp⟩) hnd fun α' s'' ho' F' => ?_
      · cases e : (f.xs.zip ds).reverse.lookup y with
        | none => rfl
        | some d => exact absurd (zip_name e) (hos y hy).2
      · refine execsL_ok (fun ρ ω st r => exec_ok hP hRd (by unfold interactive; show (f.scope.kind == .module && _) = false; rw [hkind]; rfl) n st ρ ω r X) hex α' s'' _ _ (by rw [ho']; simp [Al.om]) F' ?_
        intro v s₃ hsame hk rv
        obtain ⟨h3, t3, rfl⟩ := hsame
        exact h v _ ⟨⟨h3, t3, rfl, hk⟩, rv⟩
    · cases hr
  · cases hr

theorem rep_bind (pm cd doc : Value) (a b c d e f g h i j k l m : Value) : bindArgs (docDef (fdef 5).name (fdef 5).params (fdef 5).body (fdef 5).scope pm cd doc) ⟨[a, b, c, d, e, f, g, h, i, j, k, l, m], []⟩ =
    newTuple [b, c, d, e, f, g, h, i, j, k, l, m] >>= fun t => pure (fRep.xs.zip [a, t]) := by kernel_rfl
theorem len12 {α : Type} {l : List α} (h : l.length = 12) : ∃ b c d e f g h i j k l' m, l = [b, c, d, e, f, g, h, i, j, k, l', m] := by
  match l, h with
  | [b, c, d, e, f, g, h, i, j, k, l', m], _ => exact ⟨b, c, d, e, f, g, h, i, j, k, l', m, rfl⟩
theorem rep_ok (H : Hyp mg mb h₀) (lvl : Nat) : CallOk (cx prog w H) (lvl + 1) (fdef 5).name replF := by
  obtain ⟨a, o, pm, cd, doc, h1, h2, h3, h4⟩ := H.fn 5 (by decide)
  refine ⟨.ref a, .inl h1, .inr (.inr ⟨a, o, _, rfl, h3, fun h g => g _ _ h2⟩), ?_⟩
  intro A X s vals ds d E Q R hG htk L r hr hQ
  cases r with
  | nil => cases hr
  | @cons v0 d0 vs ds r0 rs =>
    unfold replF at hr
    dsimp only at hr
    split at hr
    · rename_i hl
      have hl' : vs.length = 12 := rs.length.trans hl
      have hlim : s.heap.NoLimit := H.nolimit.keeps hG
      have hdp : A.depth < recursionLimit := by have := R.dp; omega
      have hco : (fdef 5).scope.isCoroutine = false := by kernel_rfl
      have hgen : (fdef 5).scope.isGenerator = false := by kernel_rfl
      refine wpAny_call (codeAny_call_function hdp (hG _ _ h2) h3 hco hgen rfl (h4.keeps hG) ?_)
      obtain ⟨v1, v2, v3, v4, v5, v6, v7, v8, v9, v10, v11, v12, rfl⟩ := len12 hl'
      rw [rep_bind]
      refine wpAny_bind (wpAny_newTuple ?_ (by rw [sizeLine_eq]; simp))
      refine wpAny_pure ?_
      have k1 : Keeps s { s with heap := s.heap.push { cls := .type "tuple", data := .seq [v1, v2, v3, v4, v5, v6, v7, v8, v9, v10, v11, v12].toArray } } := Keeps.of_push _ _
      have ot := out_tuple (s := s) L rs (by rw [sizeLine_eq, hl']; decide)
      refine body_run (f := fRep) (pm := pm) (doc := doc) (pw0_ok H lvl) R (HKeep.trans hG (HKeep.push _ _)) htk (fun b hb => by show b < (s.heap.push _).objs.size; rw [Heap.size_push]; exact Nat.lt_succ_of_lt (L b hb)) (hlim.keeps (HKeep.push _ _)) (.cons (r0.keeps (HKeep.push _ _)) (.cons ot.2 .nil)) hr fun v s' o' => ?_
      exact hQ v s' (o'.trans k1)
    · cases hr
end
end Mine
end

section
open PySem PySem.W PyProof.Rows PySem.SeqAt PySem.Calls
set_option maxRecDepth 100000
set_option maxHeartbeats 4000000
set_option linter.unusedVariables false
namespace Mine

section
variable {c : Cx} {A : Around} {X : List Addr} {env : Env} {ρ : Rho}
theorem ev_glob_str {x : Str} {p : Pos} {y : Str} {t : Tok} (hx : env.kindOf x = some .globalImplicit) (hn : okName x = true) (hr : c.mg x = some (.str y t)) : Ev c A X env ρ (.Name x p) (.str y) :=
  .of fun s E Q S h => ev_global S.ev.toEnvWf S.g hx hn (.inl hr) (h _ _ ⟨Keeps.refl s, .str y t⟩)
theorem ev_pat {P : Addr} {code : Array Nat} {x : Str} {px apos pos : Pos} {e1 e2 : Expr} {x1 x2 y : Str} (hx : env.kindOf x = some .globalImplicit) (hn : okName x = true) (hr : c.mg x = some (.ref P)) (hp : ∀ h, c.G h → PatAt h P code) (hline : apos.endLine = pos.line)
    (hs1 : isStarred e1 = false) (hs2 : isStarred e2 = false) (h1 : Ev c A X env ρ e1 (.str x1)) (h2 : Ev c A X env ρ e2 (.str x2))
    (hsub : ∀ (A : Around) (s : Shared) (u v : Tok) (Q E : Value → Shared → Prop), PatAt s.heap P code → (∀ s' t, Keeps s s' → Q (.str y t) s') → wpAny (model c.prog c.w) A (call (.builtin "re.Pattern.sub") [.ref P, .str x1 v, .str x2 u]) Q E s) :
    Ev c A X env ρ (.Call (.Attribute (.Name x px) (Str.ofString "sub") apos) [e1, e2] [] pos) (.str y) := .of fun s E Q S h => by
  have hst : ∀ e ∈ [e1, e2], isStarred e = false := fun e he => by
    simp only [List.mem_cons, List.not_mem_nil, or_false] at he
    rcases he with rfl | rfl <;> assumption
  refine wpAny_Call_method rfl ?_ (by rw [hline]; exact beq_self_eq_true _) plainAttrs_pat slot_sub type_sub (ev_global S.ev.toEnvWf S.g hx hn (.inl hr) ?_)
  · rw [noStar_all hst]; rfl
  · have hP := hp _ S.g
    obtain ⟨o, vs, C, oc, items, n, g1, g2, g3, _⟩ := id hP
    refine ⟨⟨o, g1, g2⟩, fun a e => by cases e; exact ⟨o, g1, g3⟩, Calls.callWith_builtin (noStar_any hst) (args_ok (by simp) hst (evs_cons hs1 h1 (evs_cons hs2 h2 evs_nil)) S fun vs s₂ k₂ r₂ g₂ => ?_)⟩
    cases r₂ with
      | cons r0 rs => cases rs with
        | cons r1 rs =>
          cases rs
          cases r0
          cases r1
          exact hsub _ _ _ _ _ _ (hp _ (S.keeps k₂ g₂).g) fun s' t k => h _ _ ⟨Keeps.trans k₂ k, .str y t⟩
end
section
variable {prog : Program} {w : World} {mg mb : Str → Option Value} {h₀ : Heap}
theorem quote_bind (pm cd doc : Value) (a : Value) : bindArgs (docDef (fdef 11).name (fdef 11).params (fdef 11).body (fdef 11).scope pm cd doc) ⟨[a], []⟩ = pure ((fdef 11).xs.zip [a]) := by kernel_rfl
theorem quote_ok (H : Hyp mg mb h₀) (lvl : Nat) : CallOk (cx prog w H) (lvl + 1) (fdef 11).name quoteF := by
  obtain ⟨a, o, pm, cd, doc, h1, h2, h3, h4⟩ := H.fn 11 (by decide)
  obtain ⟨P1, m1, p1⟩ := H.pat1
  obtain ⟨P2, m2, p2⟩ := H.pat2
  obtain ⟨tc, mc⟩ := H.crlf
  refine ⟨.ref a, .inl h1, .inr (.inr ⟨a, o, _, rfl, h3, fun h g => g _ _ h2⟩), ?_⟩
  intro A X s vals ds d E Q R hG htk L r hr hQ
  unfold quoteF at hr
  split at hr
  · rename_i x
    split at hr
    · rename_i hx
      cases hr
      cases r with
      | cons r0 rs =>
        cases rs
        have hlim : s.heap.NoLimit := H.nolimit.keeps hG
        have hdp : A.depth < recursionLimit := by have := R.dp; omega
        have hco : (fdef 11).scope.isCoroutine = false := by kernel_rfl
        have hgen : (fdef 11).scope.isGenerator = false := by kernel_rfl
        refine wpAny_call (codeAny_call_function hdp (hG _ _ h2) h3 hco hgen rfl (h4.keeps hG) ?_)
        rw [quote_bind]
        refine wpAny_pure ?_
        refine body_gen (c := cx prog w H) (f := fdef 11) (pm := pm) (doc := doc) (os := []) (lvl := lvl) R hG htk L hlim (.cons r0 .nil) (by kernel_rfl) (by kernel_rfl) fun s₁ E' F hRd => ?_
        have hl : (norm x.cps.toList).length ≤ 2 * x.cps.size := by
          have := norm_len x.cps.toList
          rwa [show x.cps.toList.length = x.cps.size from Array.length_toList] at this
        have ev : Ev (cx prog w H) (A.deeper (callEnvC (docDef (fdef 11).name (fdef 11).params (fdef 11).body (fdef 11).scope pm cd doc) s.heap.objs.size a)) X (callEnvC (docDef (fdef 11).name (fdef 11).params (fdef 11).body (fdef 11).scope pm cd doc) s.heap.objs.size a)
            (full [] ((fdef 11).xs.zip [D.str x]).reverse) (match (fdef 11).body with | [.Return (some e) _] => e | _ => .Constant .none 0 ⟨0, 0, 0, 0⟩) (.str ⟨(dots true (norm x.cps.toList)).toArray⟩) := by
          refine ev_pat (P := P1) (code := code1) (x1 := Str.ofString "..") (x2 := ⟨(norm x.cps.toList).toArray⟩) (by kernel_rfl) (by kernel_rfl) m1 (fun h g => p1.keeps g) rfl rfl rfl ev_str ?_ fun A s u v Q E hp hq => call_sub1 hp (by show (norm x.cps.toList).toArray.size ≤ _; rw [List.size_toArray]; omega) hq
          refine ev_pat (P := P2) (code := code2) (x1 := Str.ofString "\r\n") (x2 := x) (by kernel_rfl) (by kernel_rfl) m2 (fun h g => p2.keeps g) rfl rfl rfl (ev_glob_str (by kernel_rfl) (by kernel_rfl) mc) (ev_name (by kernel_rfl) (by kernel_rfl)) fun A s u v Q E hp hq => call_sub2 hp (by omega) hq
        have hb : (fdef 11).body = [.Return (some (match (fdef 11).body with | [.Return (some e) _] => e | _ => .Constant .none 0 ⟨0, 0, 0, 0⟩)) (match (fdef 11).body with | [.Return _ p] => p | _ => ⟨0, 0, 0, 0⟩)] := by kernel_rfl
        rw [hb]
        refine exs_ret (ex_ret ev) [] s₁ _ _ rfl F ?_
        intro v s₃ hsame hk rv
        obtain ⟨h3', t3, rfl⟩ := hsame
        exact hQ v _ ⟨⟨h3', t3, rfl, hk⟩, rv⟩
    · cases hr
  · cases hr
end
end Mine
end

section
open PySem PySem.W PyProof.Rows PySem.SeqAt PySem.Calls
set_option maxRecDepth 100000
set_option maxHeartbeats 4000000
set_option linter.unusedVariables false
namespace Mine

/-- the lambda of _law_holds -/
structure Lam where
  params : Arguments
  body : Expr
  scope : Scope
  pos : Pos
noncomputable def lam : Lam := match (fdef 23).body.drop 5 with
  | .Assign _ (.Call _ [_, .Lambda args body scope pos] _ _) _ :: _ => ⟨args, body, scope, pos⟩
  | _ => ⟨(fdef 23).params, .Constant .none 0 ⟨0, 0, 0, 0⟩, (fdef 23).scope, ⟨0, 0, 0, 0⟩⟩
noncomputable def lamQual : Str := Str.ofString "_law_holds.<locals>.<lambda>"
noncomputable def lamRec : FnRec := ⟨lamQual, lam.params, [], lam.scope⟩
noncomputable abbrev lamObj (pm : Value) (c' : Addr) (ctv : Value) : Obj := kla_obj (Str.ofString "<lambda>") lamQual lam.params lam.body lam.scope [] pm c' ctv

theorem lam_bind (pm ctv : Value) (c' : Addr) (v : Value) : bindArgs (kla_fn (Str.ofString "<lambda>") lamQual lam.params lam.body lam.scope [] pm (.ref c') ctv) ⟨[v], []⟩ = pure (lamRec.xs.zip [v]) := by kernel_rfl

section
variable {prog : Program} {w : World} {mg mb : Str → Option Value} {h₀ : Heap}
theorem lam_call (H : Hyp mg mb h₀) {lvl : Nat} {A : Around} {X : List Addr} {s : Shared} {f c' : Addr} {pm ctv v : Value} {d d' : D} {Q E : Value → Shared → Prop} (R : Room A (lvl + 1)) (hG : HKeep h₀ s.heap) (htk : 0 < s.toks) (L : Low X s.heap)
    (ho : s.heap.get? f = some (lamObj pm c' ctv)) (hcd : s.heap.CodeRec (.ref c') lamQual) (r : Rp X s.heap v d) (he : evalP PW0 30 lam.scope [(Str.ofString "record", d)] lam.body = some d') (hQ : ∀ v s', Out X s d' v s' → Q v s') :
    wpAny (model prog w) A (call (.ref f) [v]) Q E s := by
  have hlim : s.heap.NoLimit := H.nolimit.keeps hG
  have hdp : A.depth < recursionLimit := by have := R.dp; omega
  have hco : lam.scope.isCoroutine = false := by kernel_rfl
  have hgen : lam.scope.isGenerator = false := by kernel_rfl
  have hok : fnOk lamRec [] = true := by kernel_rfl
  simp only [fnOk, Bool.and_eq_true, beq_iff_eq, Bool.not_eq_true', List.all_eq_true, decide_eq_true_eq, List.contains_eq_mem, decide_eq_false_iff_not] at hok
  obtain ⟨⟨⟨⟨⟨hkind, _⟩, _⟩, hsl⟩, hos⟩, hnd⟩ := hok
  refine wpAny_call (kla_callFunE hdp ho rfl hco hgen rfl hcd ?_)
  rw [lam_bind]
  refine wpAny_pure (wpAny_grows (Grows.refl s) (wpAny_newFunctionEnv_cells hkind (fun x hx => ?_) fun env he' s' x g => ?_))
  · have hx' : x.1 ∈ lamRec.xs := (List.of_mem_zip hx).1
    have hk := hsl x.1 hx'
    unfold slotK at hk
    simp only [Bool.or_eq_true, beq_iff_eq] at hk
    rcases hk with hk | hk
    · exact .inl hk
    · refine .inr ⟨hk, ?_⟩
      obtain ⟨cc, hcc⟩ := cellsFrom_some (n := s.heap.objs.size + 1) (acc := []) (.inl (mem_of_lookup' hk))
      show ((cellsFrom (s.heap.objs.size + 1) lamRec.scope.names []).lookup x.1).isSome = true
      rw [hcc]; rfl
  · subst he'
    refine ⟨hlim.keeps x.toInCall.keep, kla_codeExpr ?_⟩
    have F := Fr1.start (c := cx prog w H) (X := X) (f := lamRec) (a := f) (pm := pm) (cd := .ref c') (doc := .none) (vals := [v]) (ds := [d]) hkind hsl hG htk L (.cons r .nil) x g
    have hRd : Room (A.deeper (callEnvC (docDef lamRec.name lamRec.params lamRec.body lamRec.scope pm (.ref c') .none) s.heap.objs.size f)) lvl := ⟨R.hd, by
      show A.depth + 1 + lvl < recursionLimit
      have := R.dp; omega, by
      show A.units + 3 + 20 * lvl + 1000 < cLine
      have := R.un; omega⟩
    refine eval_ok (c := cx prog w H) (pw0_ok H lvl) hRd 30 lam.scope _ lam.body d' X (callEnvC (docDef lamRec.name lamRec.params lamRec.body lamRec.scope pm (.ref c') .none) s.heap.objs.size f) rfl he s' _ _ ?_ fun v' s'' o g' => ?_
    · exact F.stf
    · obtain ⟨h1, tk1, e1⟩ := F.same
      exact hQ v' s'' (Out.trans ⟨h1, tk1, e1, by have := F.base; rw [e1] at this; exact this⟩ o)
end

open Classical in
/-- one turn of _split_list -/
noncomputable def splitStep (p : D → Bool) (o : Obj) (ρ : Rho) (ω : Om) : Option Res1 := match ρ.lookup (Str.ofString "x"), ω with
  | some d, [(n, ns), (y, ys)] => if n = Str.ofString "no" ∧ y = Str.ofString "yes" ∧ ρ.lookup (Str.ofString "predicate") = some (.fn o) ∧ (∃ a b x c, d = .tup [a, b, .flt x, c] ∧ p d = !Float64.isZero x) ∧ ys.length < 900 ∧ ns.length < 900 then
      some (.next ρ (if p d then [(n, ns), (y, ys ++ [d])] else [(n, ns ++ [d]), (y, ys)])) else none
  | _, _ => none

theorem split_run (p : D → Bool) (o : Obj) : ∀ (recs : List D) (ρ : Rho) (ns ys : List D), ρ.lookup (Str.ofString "predicate") = some (.fn o) → (∀ d ∈ recs, ∃ a b x c, d = .tup [a, b, .flt x, c] ∧ p d = !Float64.isZero x) → ys.length + recs.length < 900 → ns.length + recs.length < 900 →
    ∃ ρ', forItems (splitStep p o) (.one (Str.ofString "x")) recs ρ [(Str.ofString "no", ns), (Str.ofString "yes", ys)] = some (.next ρ' [(Str.ofString "no", ns ++ recs.filter fun d => !p d), (Str.ofString "yes", ys ++ recs.filter p)])
  | [], ρ, ns, ys, _, _, _, _ => ⟨ρ, by rw [List.filter_nil, List.filter_nil, List.append_nil, List.append_nil]; rfl⟩
  | d :: recs, ρ, ns, ys, hp, hr, h1, h2 => by
    rw [List.length_cons] at h1 h2
    have hx : List.lookup (Str.ofString "x") ((Str.ofString "x", d) :: ρ) = some d := List.lookup_cons_self
    have hp' : List.lookup (Str.ofString "predicate") ((Str.ofString "x", d) :: ρ) = some (.fn o) := by
      rw [List.lookup_cons, show (Str.ofString "predicate" == Str.ofString "x") = false by kernel_rfl]; exact hp
    have st : splitStep p o ((Str.ofString "x", d) :: ρ) [(Str.ofString "no", ns), (Str.ofString "yes", ys)] = some (.next ((Str.ofString "x", d) :: ρ) (if p d then [(Str.ofString "no", ns), (Str.ofString "yes", ys ++ [d])] else [(Str.ofString "no", ns ++ [d]), (Str.ofString "yes", ys)])) := by
      unfold splitStep
      rw [hx]
      dsimp only
      rw [if_pos ⟨rfl, rfl, hp', hr d List.mem_cons_self, by omega, by omega⟩]
    have hr' : ∀ d ∈ recs, ∃ a b x c, d = .tup [a, b, .flt x, c] ∧ p d = !Float64.isZero x := fun e he => hr e (List.mem_cons_of_mem _ he)
    cases hd : p d with
    | true =>
      rw [hd, if_pos rfl] at st
      obtain ⟨ρ', e⟩ := split_run p o recs ((Str.ofString "x", d) :: ρ) ns (ys ++ [d]) hp' hr' (by rw [List.length_append]; simp only [List.length_cons, List.length_nil]; omega) (by omega)
      refine ⟨ρ', ?_⟩
      rw [F_one st, e]
      simp [hd]
    | false =>
      rw [hd, if_neg Bool.false_ne_true] at st
      obtain ⟨ρ', e⟩ := split_run p o recs ((Str.ofString "x", d) :: ρ) (ns ++ [d]) ys hp' hr' (by omega) (by rw [List.length_append]; simp only [List.length_cons, List.length_nil]; omega)
      refine ⟨ρ', ?_⟩
      rw [F_one st, e]
      simp [hd]

section
variable {prog : Program} {w : World} {mg mb : Str → Option Value} {h₀ : Heap}
theorem tst_pred (H : Hyp mg mb h₀) {lvl : Nat} {A : Around} {X : List Addr} {env : Env} {ρ : Rho} {c' : Addr} {pm ctv : Value} {a b c d : D} {x : UInt64} {pp px pc : Pos} (R : Room A (lvl + 1)) (hcd : h₀.CodeRec (.ref c') lamQual)
    (hp : ρ.lookup (Str.ofString "predicate") = some (.fn (lamObj pm c' ctv))) (hx : ρ.lookup (Str.ofString "x") = some d) (hd : d = .tup [a, b, .flt x, c]) :
    Tst (cx prog w H) A X env ρ (.Call (.Name (Str.ofString "predicate") pp) [.Name (Str.ofString "x") px] [] pc) (!Float64.isZero x) := .of fun s E Q S h => by
  subst hd
  refine PyProof.Rows.isTrue_plain (Call_ (ev_name (by kernel_rfl) hp s _ _ S fun v s₁ o₁ g₁ => ?_))
  have S₁ := S.keeps o₁.1 g₁
  obtain ⟨k₁, r₁⟩ := o₁
  cases r₁ with
  | @fn fa o fd hfX hfo hfd =>
    have hst : ∀ e ∈ [Expr.Name (Str.ofString "x") px], isStarred e = false := fun e he => by rw [List.mem_singleton.mp he]; rfl
    refine Calls.callWith_function (o := lamObj pm c' ctv) (fd := kla_fn (Str.ofString "<lambda>") lamQual lam.params lam.body lam.scope [] pm (.ref c') ctv) (args_ok (by simp) hst (evs_cons rfl (ev_name (by kernel_rfl) hx) evs_nil) S₁ fun vs s₂ k₂ r₂ g₂ => ?_)
    have S₂ := S₁.keeps k₂ g₂
    refine ⟨⟨Keeps.heap k₂ _ _ hfo, rfl⟩, ?_⟩
    cases r₂ with
    | cons r0 rs =>
      cases rs
      refine lam_call H R S₂.g S₂.tk S₂.low (Keeps.heap k₂ _ _ hfo) (hcd.keeps S₂.g) r0 (d' := .flt x) (by kernel_rfl) fun v' s₃ o₃ => ?_
      obtain ⟨k₃, r₃⟩ := o₃
      cases r₃ with
      | flt _ t ht => exact truthy_float (h _ (Keeps.trans (Keeps.trans k₁ k₂) k₃))

theorem split_bind (pm cd doc : Value) (a b : Value) : bindArgs (docDef (fdef 6).name (fdef 6).params (fdef 6).body (fdef 6).scope pm cd doc) ⟨[a, b], []⟩ = pure ((fdef 6).xs.zip [a, b]) := by kernel_rfl
theorem split_body : ∃ (p1 p2 p3 p4 p5 p6 p7 p8 p9 q1 q2 q3 q4 q5 q6 q7 q8 q9 r1 r2 r3 : Pos) (k : Nat), (ownPre (fdef 6).body).2 = [.For (.Name (Str.ofString "x") p1) (.Name (Str.ofString "s") p2) [.If (.Call (.Name (Str.ofString "predicate") p3) [.Name (Str.ofString "x") p4] [] p5)
    [.Expr (.Call (.Attribute (.Name (Str.ofString "yes") p6) (Str.ofString "append") p7) [.Name (Str.ofString "x") p8] [] p9) q1] [.Expr (.Call (.Attribute (.Name (Str.ofString "no") q2) (Str.ofString "append") q3) [.Name (Str.ofString "x") q4] [] q5) q6] q7] [] q8,
    .Return (some (.Tuple [.Name (Str.ofString "yes") q9, .Name (Str.ofString "no") r1] k r2)) r3] ∧ p7.endLine = p9.line ∧ q3.endLine = q5.line :=
  ⟨_, _, _, _, _, _, _, _, _, _, _, _, _, _, _, _, _, _, _, _, _, _, rfl, rfl, rfl⟩
theorem split_pre : (ownPre (fdef 6).body).1 = [Str.ofString "yes", Str.ofString "no"] := by kernel_rfl

theorem split_ok (H : Hyp mg mb h₀) {lvl : Nat} {A : Around} {X : List Addr} {s : Shared} {f c' sp : Addr} {pm' ctv v1 : Value} {recs : List D} {p : D → Bool} {Q E : Value → Shared → Prop} (R : Room A (lvl + 2)) (hG : HKeep h₀ s.heap) (htk : 0 < s.toks) (L : Low X s.heap)
    (hsp : mg (fdef 6).name = some (.ref sp)) (hlam : h₀.get? f = some (lamObj pm' c' ctv)) (hfX : f ∉ X) (hcl : h₀.CodeRec (.ref c') lamQual) (r : Rp X s.heap v1 (.lst recs)) (hr : ∀ d ∈ recs, ∃ a b x c, d = .tup [a, b, .flt x, c] ∧ p d = !Float64.isZero x) (hlen : recs.length < 800)
    (hQ : ∀ v s', Out X s (.tup [.lst (recs.filter p), .lst (recs.filter fun d => !p d)]) v s' → Q v s') : wpAny (model prog w) A (call (.ref sp) [v1, .ref f]) Q E s := by
  obtain ⟨a, o, pm, cd, doc, h1, h2, h3, h4⟩ := H.fn 6 (by decide)
  rw [hsp] at h1
  cases h1
  have hlim : s.heap.NoLimit := H.nolimit.keeps hG
  have hdp : A.depth < recursionLimit := by have := R.dp; omega
  have hco : (fdef 6).scope.isCoroutine = false := by kernel_rfl
  have hgen : (fdef 6).scope.isGenerator = false := by kernel_rfl
  refine wpAny_call (codeAny_call_function hdp (hG _ _ h2) h3 hco hgen rfl (h4.keeps hG) ?_)
  rw [split_bind]
  refine wpAny_pure ?_
  refine body_gen (c := cx prog w H) (f := fdef 6) (pm := pm) (cd := cd) (doc := doc) (os := [Str.ofString "yes", Str.ofString "no"]) (lvl := lvl + 1) (ds := [.lst recs, .fn (lamObj pm' c' ctv)]) R hG htk L hlim (.cons r (.cons (.fn hfX (hG _ _ hlam) rfl) .nil)) (by kernel_rfl) (by kernel_rfl) fun s₁ E' F hRd => ?_
  generalize henv : callEnvC (docDef (fdef 6).name (fdef 6).params (fdef 6).body (fdef 6).scope pm cd doc) s.heap.objs.size sp = env at F hRd ⊢
  have hsc : env.scope = (fdef 6).scope := by rw [← henv]; rfl
  have hkd : ∀ x, env.kindOf x = (fdef 6).scope.names.lookup x := fun x => by rw [← henv]; rfl
  have hint : interactive env = false := by
    unfold interactive
    rw [hsc]
    kernel_rfl
  refine pre_ok (body := (fdef 6).body) F (fun y hy => ?_) (by rw [split_pre]; decide +kernel) fun α' s'' ho' F' => ?_
  · rw [split_pre] at hy
    rw [hsc]
    simp only [List.mem_cons, List.not_mem_nil, or_false] at hy
    rcases hy with rfl | rfl
    · exact ⟨by kernel_rfl, by kernel_rfl, fun p hp => nomatch hp⟩
    · exact ⟨by kernel_rfl, by kernel_rfl, fun p hp => nomatch hp⟩
  · rw [split_pre] at ho'
    obtain ⟨p1, p2, p3, p4, p5, p6, p7, p8, p9, q1, q2, q3, q4, q5, q6, q7, q8, q9, r1, r2, r3, k, hb, l1, l2⟩ := split_body
    rw [hb]
    have hom : α'.om = [(Str.ofString "no", []), (Str.ofString "yes", [])] := ho'
    have inv : ∀ (d : D) (x : Str) (ρ : Rho) (y : Str), (y == x) = false → List.lookup y ((x, d) :: ρ) = List.lookup y ρ := fun d x ρ y e => by rw [List.lookup_cons, e]
    have ny : ¬ Str.ofString "no" = Str.ofString "yes" := by decide +kernel
    have yn : ¬ Str.ofString "yes" = Str.ofString "no" := by decide +kernel
    obtain ⟨ρ', htot⟩ := split_run p (lamObj pm' c' ctv) recs ((fdef 6).xs.zip [D.lst recs, D.fn (lamObj pm' c' ctv)]).reverse [] [] (by kernel_rfl) hr (by simp only [List.length_nil]; omega) (by simp only [List.length_nil]; omega)
    refine exs_cons (c := cx prog w H) (ex_for (t := .one (Str.ofString "x")) (ds := recs) (step := splitStep p (lamObj pm' c' ctv)) (fun x hx => ?_) (fun x hx => ?_) (fun _ => rfl) (fun Y s S => feeds_list hRd.hd S (ev_name (by kernel_rfl) (by kernel_rfl))) (fun X' ρ' ω' r' hst => ?_) htot)
      (exs_ret (ex_ret (d := .tup [.lst (recs.filter p), .lst (recs.filter fun d => !p d)]) (ev_tuple (by simp) rfl (evs_cons rfl (ev_name (by kernel_rfl) (by kernel_rfl)) (evs_cons rfl (ev_name (by kernel_rfl) (by kernel_rfl)) evs_nil))))) α' s'' _ _ hom F' ?_
    · rw [List.mem_singleton.mp hx, hkd]
      left; kernel_rfl
    · rw [List.mem_singleton.mp hx]
      kernel_rfl
    · unfold splitStep at hst
      split at hst
      · rename_i d n ns y ys hx
        split at hst
        · rename_i hc
          obtain ⟨rfl, rfl, hp, ⟨a', b', x', c'', hd, hpd⟩, ly, ln⟩ := hc
          cases hst
          have full_eq : ∀ z, (z == Str.ofString "no") = false → (z == Str.ofString "yes") = false → List.lookup z (full [(Str.ofString "no", ns), (Str.ofString "yes", ys)] ρ') = List.lookup z ρ' := fun z e1 e2 => by
            show List.lookup z ((Str.ofString "no", D.lst ns) :: (Str.ofString "yes", D.lst ys) :: ρ') = _
            rw [inv _ _ _ _ e1, inv _ _ _ _ e2]
          refine exs_cons (ex_if (q := p d) ?_ ?_) exs_nil
          · rw [hpd]
            exact tst_pred H hRd hcl ((full_eq _ (by kernel_rfl) (by kernel_rfl)).trans hp) ((full_eq _ (by kernel_rfl) (by kernel_rfl)).trans hx) hd
          · cases hpd' : p d with
            | true =>
              rw [if_pos rfl]
              have eg : growO [(Str.ofString "no", ns), (Str.ofString "yes", ys)] (Str.ofString "yes") [d] = [(Str.ofString "no", ns), (Str.ofString "yes", ys ++ [d])] := by
                unfold growO
                simp only [List.map_cons, List.map_nil, if_neg ny, if_true]
              rw [if_pos rfl, ← eg]
              exact exs_cons (ex_append (ds := ys) hint (by kernel_rfl) rfl l1 (List.mem_cons_of_mem _ List.mem_cons_self) (by omega) fun Y => ev_name (by kernel_rfl) hx) exs_nil
            | false =>
              rw [if_neg Bool.false_ne_true]
              have eg : growO [(Str.ofString "no", ns), (Str.ofString "yes", ys)] (Str.ofString "no") [d] = [(Str.ofString "no", ns ++ [d]), (Str.ofString "yes", ys)] := by
                unfold growO
                simp only [List.map_cons, List.map_nil, if_neg yn, if_true]
              rw [if_neg Bool.false_ne_true, ← eg]
              exact exs_cons (ex_append (ds := ns) hint (by kernel_rfl) rfl l2 List.mem_cons_self (by omega) fun Y => ev_name (by kernel_rfl) hx) exs_nil
        · cases hst
      · cases hst
    · intro v s₃ hsame hk rv
      obtain ⟨h3', t3, rfl⟩ := hsame
      exact hQ v _ ⟨⟨h3', t3, rfl, hk⟩, rv⟩
end
end Mine
end

section
open PySem PySem.W PyProof.Rows PySem.SeqAt PySem.Calls
set_option maxRecDepth 100000
set_option maxHeartbeats 4000000
set_option linter.unusedVariables false
namespace Mine

theorem l1 {α : Type} {l : List α} (h : l.length = 1) : ∃ a, l = [a] := by match l, h with | [a], _ => exact ⟨a, rfl⟩
theorem l2 {α : Type} {l : List α} (h : l.length = 2) : ∃ a b, l = [a, b] := by match l, h with | [a, b], _ => exact ⟨a, b, rfl⟩
theorem l3 {α : Type} {l : List α} (h : l.length = 3) : ∃ a b c, l = [a, b, c] := by match l, h with | [a, b, c], _ => exact ⟨a, b, c, rfl⟩
theorem l6 {α : Type} {l : List α} (h : l.length = 6) : ∃ a b c d e f, l = [a, b, c, d, e, f] := by match l, h with | [a, b, c, d, e, f], _ => exact ⟨a, b, c, d, e, f, rfl⟩
noncomputable abbrev DD (k : Nat) (pm cd doc : Value) : FuncData := docDef (fdef k).name (fdef k).params (fdef k).body (fdef k).scope pm cd doc
noncomputable abbrev Binds (k : Nat) : Prop := ∀ (pm cd doc : Value) (vals : List Value), vals.length = (fdef k).xs.length → bindArgs (DD k pm cd doc) ⟨vals, []⟩ = pure ((fdef k).xs.zip vals)
theorem b2 : Binds 2 := fun pm cd doc vals h => by obtain ⟨a, b, c, rfl⟩ := l3 (h.trans (by kernel_rfl)); kernel_rfl
theorem b3 : Binds 3 := fun pm cd doc vals h => by obtain ⟨a, b, c, rfl⟩ := l3 (h.trans (by kernel_rfl)); kernel_rfl
theorem b13 : Binds 13 := fun pm cd doc vals h => by obtain ⟨a, rfl⟩ := l1 (h.trans (by kernel_rfl)); kernel_rfl
theorem b14 : Binds 14 := fun pm cd doc vals h => by obtain ⟨a, rfl⟩ := l1 (h.trans (by kernel_rfl)); kernel_rfl
theorem b15 : Binds 15 := fun pm cd doc vals h => by obtain ⟨a, b, rfl⟩ := l2 (h.trans (by kernel_rfl)); kernel_rfl
theorem b16 : Binds 16 := fun pm cd doc vals h => by obtain ⟨a, b, c, rfl⟩ := l3 (h.trans (by kernel_rfl)); kernel_rfl
theorem b17 : Binds 17 := fun pm cd doc vals h => by obtain ⟨a, b, c, rfl⟩ := l3 (h.trans (by kernel_rfl)); kernel_rfl
theorem b18 : Binds 18 := fun pm cd doc vals h => by obtain ⟨a, b, c, d, e, f, rfl⟩ := l6 (h.trans (by kernel_rfl)); kernel_rfl
theorem b19 : Binds 19 := fun pm cd doc vals h => by obtain ⟨a, rfl⟩ := l1 (h.trans (by kernel_rfl)); kernel_rfl
theorem b20 : Binds 20 := fun pm cd doc vals h => by obtain ⟨a, b, rfl⟩ := l2 (h.trans (by kernel_rfl)); kernel_rfl
theorem b21 : Binds 21 := fun pm cd doc vals h => by obtain ⟨a, rfl⟩ := l1 (h.trans (by kernel_rfl)); kernel_rfl
theorem b22 : Binds 22 := fun pm cd doc vals h => by obtain ⟨a, b, rfl⟩ := l2 (h.trans (by kernel_rfl)); kernel_rfl
theorem b23 : Binds 23 := fun pm cd doc vals h => by obtain ⟨a, b, c, d, e, f, rfl⟩ := l6 (h.trans (by kernel_rfl)); kernel_rfl
theorem b24 : Binds 24 := fun pm cd doc vals h => by obtain ⟨a, rfl⟩ := l1 (h.trans (by kernel_rfl)); kernel_rfl

section
variable {prog : Program} {w : World} {mg mb : Str → Option Value} {h₀ : Heap}
theorem tower_ok {c : Cx} {lvl : Nat} {l : List (Str × Fn)} (h0 : PWOk c lvl PW0) (h : ∀ p ∈ l, CallOk c lvl p.1 p.2) : PWOk c lvl (tower l) := by
  refine ⟨fun f φ e => ?_, h0.ms⟩
  have e' : (l.lookup f).or (PW0.fn f) = some φ := e
  cases hl : l.lookup f with
  | none => rw [hl] at e'; exact h0.fn f φ e'
  | some ψ =>
    rw [hl] at e'
    have : ψ = φ := by simpa using e'
    subst this
    exact h _ (PySem.mem_of_lookup hl)
theorem pw1_ok (H : Hyp mg mb h₀) : PWOk (cx prog w H) 1 PW1 := by
  have P0 : PWOk (cx prog w H) 0 PW0 := pw0_ok H 0
  refine tower_ok (pw0_ok H 1) fun p hp => ?_
  have mk : ∀ {k : Nat} {x : Str} (hk : k ∈ idx) (hn : (fdef k).name = x) (hb : Binds k), CallOk (cx prog w H) 1 x (F k) := fun hk hn hb => hn ▸ def_ok H P0 hk hb
  simp only [List.mem_cons, List.not_mem_nil, or_false] at hp
  rcases hp with rfl | rfl | rfl | rfl | rfl | rfl | rfl | rfl | rfl | rfl
  · exact mk (k := 2) (by decide) (by kernel_rfl) b2
  · exact mk (k := 3) (by decide) (by kernel_rfl) b3
  · exact mk (k := 14) (by decide) (by kernel_rfl) b14
  · exact mk (k := 15) (by decide) (by kernel_rfl) b15
  · exact mk (k := 16) (by decide) (by kernel_rfl) b16
  · exact mk (k := 19) (by decide) (by kernel_rfl) b19
  · exact mk (k := 21) (by decide) (by kernel_rfl) b21
  · exact mk (k := 13) (by decide) (by kernel_rfl) b13
  · have := rep_ok (prog := prog) (w := w) H 0
    rw [show (fdef 5).name = Str.ofString "replace" by kernel_rfl] at this
    exact this
  · have := quote_ok (prog := prog) (w := w) H 0
    rw [show (fdef 11).name = Str.ofString "quotedata" by kernel_rfl] at this
    exact this
theorem pw2_ok (H : Hyp mg mb h₀) : PWOk (cx prog w H) 2 PW2 := by
  have P0 : PWOk (cx prog w H) 0 PW0 := pw0_ok H 0
  have P1 : PWOk (cx prog w H) 1 PW1 := pw1_ok H
  refine tower_ok (pw0_ok H 2) fun p hp => ?_
  have mk : ∀ {k : Nat} {x : Str} (hk : k ∈ idx) (hn : (fdef k).name = x) (hb : Binds k), CallOk (cx prog w H) 2 x (F k) := fun hk hn hb => (hn ▸ def_ok H P0 hk hb : CallOk (cx prog w H) 1 _ _).more (by decide)
  have mk2 : ∀ {k : Nat} {x : Str} (hk : k ∈ idx) (hn : (fdef k).name = x) (hb : Binds k), CallOk (cx prog w H) 2 x (F2 k) := fun hk hn hb => hn ▸ def_ok H P1 hk hb
  simp only [List.mem_cons, List.not_mem_nil, or_false] at hp
  rcases hp with rfl | rfl | rfl | rfl | rfl | rfl | rfl
  · exact mk2 (k := 17) (by decide) (by kernel_rfl) b17
  · exact mk2 (k := 18) (by decide) (by kernel_rfl) b18
  · exact mk2 (k := 20) (by decide) (by kernel_rfl) b20
  · exact mk2 (k := 22) (by decide) (by kernel_rfl) b22
  · exact mk (k := 3) (by decide) (by kernel_rfl) b3
  · exact mk (k := 14) (by decide) (by kernel_rfl) b14
  · exact mk (k := 16) (by decide) (by kernel_rfl) b16
end

section
variable {c : Cx} {lvl : Nat} {A : Around} {X : List Addr} {s₀ s : Shared} {env : Env} {ρ : Rho} {α : Al}
/-- unpacking a tuple into names -/
theorem unpack_ok {elts : List Expr} {k : Nat} {tpos : Pos} {l : List (Str × Pos)} {ds : List D} {v : Value} {E : Value → Shared → Prop} {Q : Unit → Shared → Prop} (R : Room A lvl) (hn : namesOf elts = some l) (hk : ∀ x ∈ l.map (·.1), env.kindOf x = some .local ∨ env.kindOf x = some .cell)
    (hx : ∀ x ∈ l.map (·.1), α.om.all (fun p => p.1 != x) = true) (hl : ds.length = l.length) (F₁ : Fr1 c X s₀ env ρ α s) (r : Rp (X ++ α.as) s.heap v (.tup ds)) (h : ∀ s', Fr1 c X s₀ env (storeAll (l.map (·.1)) ds ρ) α s' → Q () s') :
    wpAny (model c.prog c.w) A (assign (.Tuple elts k tpos) env v) Q E s := by
  obtain ⟨a1, a2, a3⟩ := assignEach_names (env := env) hn
  rw [arm_assign_Tuple]
  refine wpAny_bind (wpAny_standAt ?_)
  unfold unpack
  rw [a2, a3]
  cases r with
  | @tup a n vs _ hx' h1 h2 h3 =>
    have hvl : vs.length = l.length := h3.length.trans hl
    rw [show l.length = vs.toArray.size by simp [hvl]]
    refine wpAny_bind (wpAny_holding (wpAny_grows (Grows.refl s) (PySem.wpAny_unpackItems_tuple R.hd (rp_isTuple h1) fun h' hx'' hg => ?_)))
    have hk' : Keeps s { s with heap := h' } := ⟨h', s.toks, rfl, fun b o e => hx'' b o (Nat.ne_of_lt (Heap.lt_size e)) e⟩
    have F₂ := F₁.keeps hk' hg
    rw [a1, show l.map (fun q => assign (.Name q.1 q.2) env) = ((l.map (·.1)).zip (l.map (·.2))).map (fun q => assign (.Name q.1 q.2) env) by rw [List.zip_map', List.map_map]; simp [Function.comp_def]]
    exact assigns_ok (by simp) (by simp [hvl]) hk (fun x hx'' => om_names (hx x hx'')) F₂ (h3.keeps (Keeps.heap hk')) fun s' F' n' => h s' F'
/-- the lambda's table has grown: the frame, read from a base that holds the grown table -/
theorem Fr1.lamb {P : Addr} {ps : Array Value} {s₁ s₂ : Shared} (F : Fr1 c X s env ρ [] s₁) (hP : s.heap.get? P = some (tabObj #[])) (hx : ∀ b o, b ≠ P → s₁.heap.get? b = some o → s₂.heap.get? b = some o) (hP2 : s₂.heap.get? P = some (tabObj ps)) (hsame : ∃ h tk, s₂ = { s₁ with heap := h, toks := tk })
    (hg : Grows s₁ s₂) (hG : c.G (s.heap.update P fun _ => tabObj ps)) : Fr1 c X { s with heap := s.heap.update P fun _ => tabObj ps } env ρ [] s₂ := by
  have hP1 : s₁.heap.get? P = some (tabObj #[]) := F.base _ _ hP
  have sz : (s.heap.update P fun _ => tabObj ps).objs.size = s.heap.objs.size := Heap.size_update _ _ _
  have nl : env.locals ≠ P := fun e => by
    obtain ⟨m, o, es, ep, ho, hd, _⟩ := F.ev.ns
    rw [e, hP1] at ho; cases ho; cases hd
  have nc : ∀ x cc, env.cells.lookup x = some cc → cc ≠ P := fun x cc hc e => by
    obtain ⟨v, o, ho, hd⟩ := F.ev.live x cc hc
    rw [e, hP1] at ho; cases ho; cases hd
  have hk : ∀ b o, b ∉ [P] → s₁.heap.get? b = some o → s₂.heap.get? b = some o := fun b o hb e => hx b o (fun q => hb (List.mem_singleton.mpr q)) e
  have hoff : ∀ y a, slotOf env y = some a → a ∉ [P] := fun y a e hm => by
    rw [List.mem_singleton.mp hm] at e
    unfold slotOf at e
    split at e
    · injection e with e; exact nl e
    · exact nc y P e rfl
  have sk : ∀ Y, SeqKeep Y s₁.heap s₂.heap := fun Y b o _ _ _ e hd => by
    refine hx b o (fun q => ?_) e
    rw [q, hP1] at e; cases e; cases hd
  obtain ⟨h2, tk2, rfl⟩ := hsame
  refine ⟨?_, ⟨F.ev.toEnvWf, F.ev.inj, F.ev.full, fun x cc hc => ?_, ?_⟩, hG, Nat.lt_of_lt_of_le F.tk hg.1, F.low.grows hg, F.ax, ⟨Nat.le_trans F.gr.1 hg.1, by rw [sz]; exact Nat.le_trans F.gr.2 hg.2⟩, ?_, ?_, (fun p hp => nomatch hp), (fun a ha => nomatch ha), F.nd, by rw [sz]; exact F.Lnew, fun x a hx => by rw [sz]; exact F.cnew x a hx⟩
  · obtain ⟨h1, tk1, rfl⟩ := F.same
    exact ⟨h2, tk2, rfl⟩
  · obtain ⟨v, o, ho, hd⟩ := F.ev.live x cc hc
    exact ⟨v, o, hx _ _ (nc x cc hc) ho, hd⟩
  · obtain ⟨m, hm⟩ := F.ev.ns
    exact ⟨m, hm.at' fun o e => hx _ _ nl e⟩
  · intro b o e
    by_cases hb : b = P
    · subst hb
      rw [Heap.get?_update_self _ hP rfl] at e
      cases e
      exact hP2
    · rw [Heap.get?_update_other _ _ (fun q => hb q.symm)] at e
      exact hx b o hb (F.base b o e)
  · intro y dy hy
    obtain ⟨u, hu, ru⟩ := F.vars y dy hy
    exact ⟨u, varAt_but hk hoff hu, ru.seq (sk _)⟩
end
end Mine
end

section
open PySem PySem.W PyProof.Rows PySem.SeqAt PySem.Calls
set_option maxRecDepth 100000
set_option maxHeartbeats 4000000
set_option linter.unusedVariables false
namespace Mine

theorem Hyp.keeps {mg mb : Str → Option Value} {h₀ h : Heap} (k : HKeep h₀ h) (H : Hyp mg mb h₀) : Hyp mg mb h where
  g := H.g.keeps k
  b := H.b.keeps k
  nb := let ⟨mc, h1, h2⟩ := H.nb; ⟨mc, h1.keeps k, h2⟩
  nolimit := H.nolimit.keeps k
  fn := fun i hi => let ⟨a, o, pm, cd, doc, h1, h2, h3, h4⟩ := H.fn i hi; ⟨a, o, pm, cd, doc, h1, k _ _ h2, h3, h4.keeps k⟩
  pat1 := let ⟨P, h1, h2⟩ := H.pat1; ⟨P, h1, h2.keeps k⟩
  pat2 := let ⟨P, h1, h2⟩ := H.pat2; ⟨P, h1, h2.keeps k⟩
  crlf := H.crlf
  free := H.free
  range := H.range
  zip := H.zip
  enum := H.enum
  len := H.len
  int := H.int
  str := H.str
  min := H.min
  max := H.max
  sum := H.sum
structure HypL (mg : Str → Option Value) (h₀ : Heap) (c P : Addr) : Prop where
  holds : ∃ a o pm doc, mg (fdef 23).name = some (.ref a) ∧ h₀.get? a = some o ∧ o.data = .func (DD 23 pm (.ref c) doc) ∧ h₀.CodeRec (.ref c) (fdef 23).name
  hd : CodeHd h₀ c P
  nP : mainGlobals ≠ P
  none : h₀.get? P = none
  blt : h₀.BuiltinsAt mg P

section
variable {c : Cx} {A : Around} {X : List Addr} {s₀ : Shared} {env : Env}
theorem pre_run {ex : Rho → Om → Stmt → Option Res1} (hex : ∀ ρ ω st r, ex ρ ω st = some r → Ex c A X s₀ env st ρ ω r) : ∀ {sts : List Stmt} {ρ ρ' : Rho} {ω ω' : Om}, execsL ex sts ρ ω = some (.next ρ' ω') → ∀ (rest : List Stmt) (α : Al) (s : Shared) (E : Value → Shared → Prop) (Q : Flow → Shared → Prop), α.om = ω → Fr1 c X s₀ env ρ α s →
    (∀ α' s', α'.om = ω' → α'.ids = α.ids → Fr1 c X s₀ env ρ' α' s' → wpAny (model c.prog c.w) A (execs rest env) Q E s') → wpAny (model c.prog c.w) A (execs (sts ++ rest) env) Q E s
  | [], ρ, ρ', ω, ω', h, rest, α, s, E, Q, ho, F, hk => by
    simp only [execsL, Option.some.injEq, Res1.next.injEq] at h
    obtain ⟨rfl, rfl⟩ := h
    exact hk α s ho rfl F
  | st :: sts, ρ, ρ', ω, ω', h, rest, α, s, E, Q, ho, F, hk => by
    simp only [execsL] at h
    split at h
    · rename_i ρ1 ω1 h1
      exact wpAny_execs_cons (hex _ _ _ _ h1 α s _ _ ho F fun α1 s1 ho1 hi1 F1 n1 => pre_run hex h rest α1 s1 E Q ho1 F1 fun α' s' ho' hi' F' => hk α' s' ho' (hi'.trans hi1) F')
    · cases h
    · cases h
end

theorem argsW {M : Model} {A : Around} {env : Env} {e : Expr} {r : List Expr} {pos : Pos} {f : Value} {s : Shared} {E : Value → Shared → Prop} {Q : Args → Shared → Prop} (hs : isStarred e = false) (h : wpAny M A (spliced (backTo pos (starEach (e :: r) env))) (fun vs s' => Q ⟨vs, []⟩ s') E s) :
    wpAny M A (evalArgs f true (backTo pos (starEach (e :: r) env)) []) Q E s := by
  rw [starEach_cons hs] at h ⊢
  exact Calls.evalArgs_plain h
theorem holds_body : ∃ (p1 p2 p3 p4 p5 p6 p7 : Pos) (k : Nat), (fdef 23).body = (fdef 23).body.take 5 ++ (.Assign [.Tuple [.Name (Str.ofString "clear") p1, .Name (Str.ofString "dull") p2] k p3] (.Call (.Name (Str.ofString "_split_list") p4) [.Name (Str.ofString "told") p5, .Lambda lam.params lam.body lam.scope lam.pos] [] p6) p7 :: (fdef 23).body.drop 6) :=
  ⟨_, _, _, _, _, _, _, _, rfl⟩
noncomputable def pD : D → Bool
  | .tup [_, _, .flt x, _] => !Float64.isZero x
  | _ => false
theorem told_rec (g h s : W4) (sh va : Fin 4) : ∀ d ∈ told g h s sh va, ∃ a b x c, d = .tup [a, b, .flt x, c] ∧ pD d = !Float64.isZero x := by
  intro d hd
  obtain ⟨w, _, rfl⟩ := List.mem_map.mp hd
  obtain ⟨a, b, e, _⟩ := due_parts w g h s sh va
  exact ⟨_, _, _, _, e, by rw [e]; rfl⟩
theorem pD_due (w g h s : W4) (sh va : Fin 4) : pD (dueR w g h s sh va) = clearW w g h := by
  obtain ⟨a, b, e, _⟩ := due_parts w g h s sh va
  rw [e]
  exact zeroChk sh _
theorem told_clear (g h s : W4) (sh va : Fin 4) : (told g h s sh va).filter pD = clears g h s sh va := by
  unfold told clears
  rw [List.filter_map]
  congr 1
  refine List.filter_congr fun w _ => ?_
  exact pD_due w g h s sh va
theorem told_dull (g h s : W4) (sh va : Fin 4) : ((told g h s sh va).filter fun d => !pD d) = dulls g h s sh va := by
  unfold told dulls
  rw [List.filter_map]
  congr 1
  refine List.filter_congr fun w _ => ?_
  show (!pD (dueR w g h s sh va)) = _
  rw [pD_due]

section
variable {prog : Program} {w : World} {mg mb : Str → Option Value} {h₀ : Heap} {c P : Addr}
theorem holds_call (H : Hyp mg mb h₀) (HL : HypL mg h₀ c P) {A : Around} {X : List Addr} {s : Shared} {a₀ : Addr} {vals : List Value} {g h t : W4} {sh va : Fin 4} {e : Fin 3} {Q E : Value → Shared → Prop} (R : Room A 4) (hG : HKeep h₀ s.heap) (htk : 0 < s.toks) (Lo : Low X s.heap) (hP : s.heap.get? P = some (tabObj #[]))
    (ha : mg (fdef 23).name = some (.ref a₀)) (r : RpAll X s.heap vals [dW g, dW h, dW t, one4 sh, one4 va, .str (S (endL e))])
    (hQ : ∀ s₂, (∃ h tk, s₂ = { s with heap := h, toks := tk }) → HKeep h₀ s₂.heap → (∃ ps, s₂.heap.get? P = some (tabObj ps)) → Q (.bool true) s₂) : wpAny (model prog w) A (call (.ref a₀) vals) Q E s := by
  obtain ⟨a, o, pm, doc, h1, h2, h3, h4⟩ := HL.holds
  rw [ha] at h1
  cases h1
  obtain ⟨sp, osp, pmsp, cdsp, docsp, m1, m2, m3, m4⟩ := H.fn 6 (by decide)
  have hlim : s.heap.NoLimit := H.nolimit.keeps hG
  have hdp : A.depth < recursionLimit := by have := R.dp; omega
  have hco : (fdef 23).scope.isCoroutine = false := by kernel_rfl
  have hgen : (fdef 23).scope.isGenerator = false := by kernel_rfl
  refine wpAny_call (codeAny_call_function hdp (hG _ _ h2) h3 hco hgen rfl (h4.keeps hG) ?_)
  rw [b23 pm (.ref c) doc vals (r.length.trans (by kernel_rfl))]
  refine wpAny_pure ?_
  refine body_gen (c := cx prog w H) (f := fdef 23) (pm := pm) (cd := .ref c) (doc := doc) (os := []) (lvl := 3) (ds := [dW g, dW h, dW t, one4 sh, one4 va, .str (S (endL e))]) R hG htk Lo hlim r (by kernel_rfl) (by kernel_rfl) fun s₁ E' F hRd => ?_
  rw [show ((fdef 23).xs.zip [dW g, dW h, dW t, one4 sh, one4 va, .str (S (endL e))]).reverse = rho0 g h t sh va e by kernel_rfl] at F
  have hqual : (callEnvC (DD 23 pm (.ref c) doc) s.heap.objs.size a₀).qual ++ Str.ofString "<lambda>" = lamQual := by kernel_rfl
  have hclos : closureFor lam.scope (callEnvC (DD 23 pm (.ref c) doc) s.heap.objs.size a₀) = pure [] := by kernel_rfl
  have hdef : defaultsOf lam.params (callEnvC (DD 23 pm (.ref c) doc) s.heap.objs.size a₀) = ([], []) := by kernel_rfl
  have hcode : (callEnvC (DD 23 pm (.ref c) doc) s.heap.objs.size a₀).code = .ref c := rfl
  have hglob : (callEnvC (DD 23 pm (.ref c) doc) s.heap.objs.size a₀).globals = mainGlobals := rfl
  have hsc : (callEnvC (DD 23 pm (.ref c) doc) s.heap.objs.size a₀).scope = (fdef 23).scope := rfl
  generalize henv : callEnvC (DD 23 pm (.ref c) doc) s.heap.objs.size a₀ = env at F hRd hqual hclos hdef hcode hglob hsc ⊢
  have hkd : ∀ x, env.kindOf x = (fdef 23).scope.names.lookup x := fun x => by rw [← henv]; rfl
  have hint : interactive env = false := by
    unfold interactive
    rw [hsc]
    kernel_rfl
  have P2 : PWOk (cx prog w H) 2 PW2 := pw2_ok H
  have hR2 := hRd.less (a := 2) (by decide)
  obtain ⟨p1, p2, p3, p4, p5, p6, p7, k, hb⟩ := holds_body
  rw [hb]
  have hpre := holds_pre g h t sh va e
  have hpost := holds_post g h t sh va e
  rw [← hsc] at hpre hpost
  refine pre_run (fun ρ ω st r => exec_ok P2 hR2 hint 30 st ρ ω r X) hpre _ [] s₁ _ _ rfl F fun α' s₅ ho _ F₅ => ?_
  have hα : α' = [] := by cases α' with | nil => rfl | cons p q => cases ho
  subst hα
  refine wpAny_execs_cons (Assign_Tuple (hs := sole_false) (hw := swapped_none rfl) ?_)
  have nsp : (fdef 6).name = Str.ofString "_split_list" := by kernel_rfl
  rw [nsp] at m1
  refine Call_ (ev_global (c := cx prog w H) F₅.ev.toEnvWf F₅.g (by rw [hkd]; kernel_rfl) (by kernel_rfl) (.inl m1) ?_)
  refine Calls.callWith_function (o := osp) (fd := DD 6 pmsp cdsp docsp) (argsW rfl (PyProof.Rows.args_cons (he := starEach_cons rfl) (ev_name (c := cx prog w H) (ρ := rho1 g h t sh va e) (d := .lst (told g h t sh va)) (by kernel_rfl) (by kernel_rfl) s₅ _ _ F₅.stf fun v₁ s₆ o₆ g₆ =>
    PyProof.Rows.args_cons (he := starEach_cons rfl) (kla_eval hdef ?_))))
  have F₆ := F₅.keeps o₆.1 g₆
  have hP₁ : s₆.heap.get? P = some (tabObj #[]) := F₆.base _ _ hP
  have G₆ : HKeep h₀ s₆.heap := F₆.g
  have hbt : s₆.heap.BuiltinsAt mg P := by
    obtain ⟨bm, ob, x1, x2, x3, x4, x5, x6, x7, x8⟩ := HL.blt
    exact ⟨bm, ob, x1, x2, x3, x4, G₆ _ _ x5, x6, x7, x8⟩
  refine wpAny_grows (Grows.refl s₆) ?_
  refine kla_makeFunction (mg := mg) (clos := []) (ps := #[]) (P := P) hclos hglob (H.g.keeps G₆) hcode (HL.hd.keeps G₆) hP₁ trivial rfl HL.nP hbt fun c' ctv h' tk hx hge hlt hrec htb g₇ => ?_
  refine PyProof.Rows.args_nil ?_
  rw [hqual] at hrec g₇ ⊢
  have K67 : ∀ b o, b ≠ P → s₆.heap.get? b = some o → (h'.push (lamObj ((mg (Str.ofString "__name__")).getD .none) c' ctv)).get? b = some o := fun b o hb e => Heap.get?_push_of_some _ (hx b o hb e)
  have hG' : HKeep h₀ (s.heap.update P fun _ => tabObj (#[] ++ #[rawInt lam.pos.line, rawInt lam.pos.col, .ref c'])) := fun b o e => by
    have hb : b ≠ P := fun q => by rw [q, HL.none] at e; cases e
    exact (Heap.get?_update_other _ _ (fun q => hb q.symm)).trans (hG b o e)
  have F₇ := F₆.lamb (s₂ := { s₆ with heap := h'.push (lamObj ((mg (Str.ofString "__name__")).getD .none) c' ctv), toks := tk }) hP K67 (Heap.get?_push_of_some _ htb) ⟨_, _, rfl⟩ g₇ hG'
  have hf7 : (h'.push (lamObj ((mg (Str.ofString "__name__")).getD .none) c' ctv)).get? h'.objs.size = some (lamObj ((mg (Str.ofString "__name__")).getD .none) c' ctv) := Heap.get?_push_size _ rfl
  have r7 : Rp X (h'.push (lamObj ((mg (Str.ofString "__name__")).getD .none) c' ctv)) v₁ (.lst (told g h t sh va)) := o₆.2.seq fun b o _ _ _ e hd => K67 b o (fun q => by rw [q, hP₁] at e; cases e; cases hd) e
  have hX7 : h'.objs.size ∉ X := fun hm => by
    have q1 : h'.objs.size < s₆.heap.objs.size := F₆.low _ hm
    exact Nat.lt_irrefl _ (Nat.lt_of_lt_of_le q1 (Nat.le_of_lt (Nat.lt_of_le_of_lt hge hlt)))
  have G₇ : HKeep h₀ (h'.push (lamObj ((mg (Str.ofString "__name__")).getD .none) c' ctv)) := F₇.g
  refine ⟨⟨G₇ _ _ m2, m3⟩, wpAny_grows (Grows.refl _) ?_⟩
  refine split_ok (H.keeps G₇) (lvl := 1) hRd (HKeep.refl _) F₇.tk F₇.low (by rw [nsp]; exact m1) hf7 hX7 (hrec.keeps fun b o e => Heap.get?_push_of_some _ e) r7 (told_rec g h t sh va) (by unfold told; rw [List.length_map, allW_len]; decide) fun v s₈ o₈ g₈ => ?_
  have F₈ := F₇.keeps o₈.1 g₈
  rw [told_clear, told_dull] at o₈
  refine unpack_ok (c := cx prog w H) (lvl := 3) (l := [(Str.ofString "clear", p1), (Str.ofString "dull", p2)]) (ds := [.lst (clears g h t sh va), .lst (dulls g h t sh va)]) hRd rfl (fun x hx => ?_) (fun x hx => rfl) rfl F₈ ?_ fun s₉ F₉ => ?_
  · simp only [List.map_cons, List.map_nil, List.mem_cons, List.not_mem_nil, or_false] at hx
    rw [hkd]
    rcases hx with rfl | rfl
    · left; kernel_rfl
    · left; kernel_rfl
  · exact o₈.2.hide fun b hb => .inl (by simpa [Al.as] using hb)
  · refine execsL_ok (fun ρ ω st r => exec_ok P2 hR2 hint 30 st ρ ω r X) hpost [] s₉ _ _ rfl F₉ ?_
    intro v' s' hsame hk rv
    cases rv
    obtain ⟨h3', t3, rfl⟩ := hsame
    refine hQ _ ⟨h3', t3, rfl⟩ (HKeep.trans hG' hk) ⟨_, hk _ _ (Heap.get?_update_self _ hP rfl)⟩
end
end Mine
end

section
open PySem PySem.W PyProof.Rows PySem.SeqAt PySem.Calls
set_option maxRecDepth 100000
set_option maxHeartbeats 4000000
set_option linter.unusedVariables false
namespace Mine

section
variable {M : Model} {A : Around} {E : Value → Shared → Prop} {s : Shared}
theorem newEnv_tok {scope : Scope} {globals : Addr} {x : Str} {v : Value} {qual : Str} {func : Option Addr} {code : Value} {builtins : Addr} {Q : Env → Shared → Prop} (hk : scope.kind = .function) (hx : scope.names.lookup x = some .local)
    (hQ : ∀ env, env = newEnv scope s.heap.objs.size globals (cellsFrom (s.heap.objs.size + 1) scope.names []) qual func code none builtins →
      ∀ s', InCallC s env.locals (bindL env.kindOf [(x, v)] fun _ => none) env.cells (bindC env.kindOf [(x, v)] fun _ => none) s' → 0 < s'.toks → Q env s') :
    wpAny M A (newFunctionEnv scope globals [] [(x, v)] qual func code none builtins) Q E s := by
  simp only [newFunctionEnv, Option.isSome_none, Bool.false_eq_true, if_false]
  refine wpAny_bind (wpAny_alloc ?_)
  refine wpAny_bind (wpAny_layCells _ (fun name kind cells => by cases hkc : kind == NameKind.cell <;> simp [hkc]) _ _ _ _ ?_)
  have ok := cellsFrom_ok scope.names (s.heap.push { cls := .type "frame", data := .dict #[] }) (s.heap.objs.size + 1) [] ⟨fun _ _ hm => (nomatch hm), List.Pairwise.nil⟩ (by rw [Heap.size_push]; exact Nat.le_refl _)
  rw [Heap.size_push] at ok
  rw [show ({ s with heap := s.heap.push { cls := .type "frame", data := .dict #[] } } : Shared).heap.objs.size = s.heap.objs.size + 1 from Heap.size_push ..]
  have hl : (newEnv scope s.heap.objs.size globals (cellsFrom (s.heap.objs.size + 1) scope.names []) qual func code none builtins).kindOf x = some .local := hx
  rw [List.forIn_cons]
  refine wpAny_bind (wpAny_bind (wpAny_bind (wpAny_storeName_local hl ((Heap.Ns.new s.heap (.type "frame")).keeps (pushCells_keeps _ _)) (fun h' hn' hs' => wpAny_pure ?_) (by dsimp only; rw [hk]; rfl))))
  dsimp only
  rw [List.forIn_nil]
  refine wpAny_pure (wpAny_pure (hQ _ rfl _ ?_ (Nat.succ_pos _)))
  have e1 : (bindL (newEnv scope s.heap.objs.size globals (cellsFrom (s.heap.objs.size + 1) scope.names []) qual func code none builtins).kindOf [(x, v)] fun _ => none) = fun y => if y = x then some v else none := by
    unfold bindL bindL
    rw [if_pos hl]
  have e2 : (bindC (newEnv scope s.heap.objs.size globals (cellsFrom (s.heap.objs.size + 1) scope.names []) qual func code none builtins).kindOf [(x, v)] fun _ => none) = fun _ => none := by
    unfold bindC bindC
    rw [if_pos hl]
  rw [e1, e2]
  have hL : ∀ n c, (n, c) ∈ cellsFrom (s.heap.objs.size + 1) scope.names [] → s.heap.objs.size < c := fun n c hm => (ok.empty n c hm).2
  refine ⟨⟨⟨_, _, rfl⟩, hn', fun b o e => ?_, Nat.le_refl _⟩, fun n c hc => ?_, ok.apart, hL⟩
  · exact hs'.extBut b o (Nat.ne_of_lt (Heap.lt_size e)) (pushCells_keeps _ _ b o (Heap.get?_push_of_some _ e))
  · exact (ok.empty n c (mem_of_lookup hc)).1.sameBut hs' (Nat.ne_of_gt (hL n c (mem_of_lookup hc)))
end

theorem law_body : ∃ (p1 p2 p3 : Pos), (fdef 24).body = (fdef 24).body.take 4 ++ [.Return (some (.Call (.Name (Str.ofString "_law_holds") p1) (retArgs ((fdef 24).body.drop 4)) [] p2)) p3] := ⟨_, _, _, rfl⟩
section
variable {prog : Program} {w : World} {mg mb : Str → Option Value} {h₀ : Heap} {c P : Addr}
theorem law_code_ok (H : Hyp mg mb h₀) (HL : HypL mg h₀ c P) {A : Around} {s : Shared} {fa l : Addr} {o : Obj} {pm cd doc : Value} {xs : List Int} {R : Result → Shared → Prop} (Ro : Room A 5) (hG : HKeep h₀ s.heap) (hP : s.heap.get? P = some (tabObj #[]))
    (ho : s.heap.get? fa = some o) (hd : o.data = .func (DD 24 pm cd doc)) (hcd : s.heap.CodeRec cd (fdef 24).name) (hl : xs.length ≤ 63) (r : Rp [] s.heap (.ref l) (.lst (xs.map .int)))
    (hR : ∀ s₂, (∃ h tk, s₂ = { s with heap := h, toks := tk }) → HKeep h₀ s₂.heap → (∃ ps, s₂.heap.get? P = some (tabObj ps)) → R (.ok (.ret (.bool true))) s₂) : codeAny (model prog w) A (.call (.ref fa) ⟨[.ref l], []⟩) R s := by
  have hlim : s.heap.NoLimit := H.nolimit.keeps hG
  have hdp : A.depth < recursionLimit := by have := Ro.dp; omega
  have hco : (fdef 24).scope.isCoroutine = false := by kernel_rfl
  have hgen : (fdef 24).scope.isGenerator = false := by kernel_rfl
  refine codeAny_call_function hdp ho hd hco hgen rfl hcd ?_
  rw [b24 pm cd doc [.ref l] (by kernel_rfl)]
  refine wpAny_pure ?_
  have hz : (fdef 24).xs.zip [Value.ref l] = [(Str.ofString "script", .ref l)] := by kernel_rfl
  rw [hz]
  refine wpAny_grows (Grows.refl s) (newEnv_tok (by kernel_rfl) (by kernel_rfl) fun env he s' x ht g => ?_)
  subst he
  refine ⟨hlim.keeps x.toInCall.keep, codeAny_func ?_⟩
  have hok : fnOk (fdef 24) [] = true := by kernel_rfl
  simp only [fnOk, Bool.and_eq_true, beq_iff_eq, Bool.not_eq_true', List.all_eq_true, decide_eq_true_eq, List.contains_eq_mem, decide_eq_false_iff_not] at hok
  obtain ⟨⟨⟨⟨⟨hkind, _⟩, _⟩, hsl⟩, hos⟩, hnd⟩ := hok
  have x' : InCallC { s with toks := 1 } (callEnvC (DD 24 pm cd doc) s.heap.objs.size fa).locals (bindL (callEnvC (DD 24 pm cd doc) s.heap.objs.size fa).kindOf ((fdef 24).xs.zip [Value.ref l]) fun _ => none) (callEnvC (DD 24 pm cd doc) s.heap.objs.size fa).cells
      (bindC (callEnvC (DD 24 pm cd doc) s.heap.objs.size fa).kindOf ((fdef 24).xs.zip [Value.ref l]) fun _ => none) s' := by
    rw [hz]
    obtain ⟨h1, t1, e1⟩ := x.toInCall.same
    exact ⟨⟨⟨h1, t1, e1⟩, x.toInCall.ns, x.toInCall.keep, x.toInCall.fresh⟩, x.cell, x.apart, x.above⟩
  have F := Fr1.start (c := cx prog w H) (X := []) (f := fdef 24) (a := fa) (pm := pm) (cd := cd) (doc := doc) (s := { s with toks := 1 }) (ds := [.lst (xs.map .int)]) hkind hsl hG (Nat.one_pos) (fun b hb => nomatch hb) (.cons r .nil) x' ⟨ht, g.2⟩
  have hRd : Room (A.deeper (callEnvC (DD 24 pm cd doc) s.heap.objs.size fa)) 4 := ⟨Ro.hd, by
    show A.depth + 1 + 4 < recursionLimit
    have := Ro.dp; omega, by
    show A.units + 3 + 20 * 4 + 1000 < cLine
    have := Ro.un; omega⟩
  rw [show ((fdef 24).xs.zip [D.lst (xs.map .int)]).reverse = [(Str.ofString "script", .lst (xs.map .int))] by kernel_rfl] at F
  have hsc : (callEnvC (DD 24 pm cd doc) s.heap.objs.size fa).scope = (fdef 24).scope := rfl
  show wpAny (model prog w) (A.deeper (callEnvC (DD 24 pm cd doc) s.heap.objs.size fa)) (execs (fdef 24).body (callEnvC (DD 24 pm cd doc) s.heap.objs.size fa)) _ _ _
  generalize henv : callEnvC (DD 24 pm cd doc) s.heap.objs.size fa = env at F hRd hsc ⊢
  have hkd : ∀ x, env.kindOf x = (fdef 24).scope.names.lookup x := fun x => by rw [← henv]; rfl
  have hint : interactive env = false := by
    unfold interactive
    rw [hsc]
    kernel_rfl
  have P1 : PWOk (cx prog w H) 1 PW1 := pw1_ok H
  have hR1 := hRd.less (a := 1) (by decide)
  obtain ⟨p1, p2, p3, hb⟩ := law_body
  rw [hb]
  obtain ⟨gw, hw, tw, sh, va, e, ρ', hpre, hargs⟩ := law_pre xs hl
  rw [← hsc] at hpre hargs
  obtain ⟨a₀, oh, pmh, doch, n1, n2, n3, n4⟩ := HL.holds
  have nh : (fdef 23).name = Str.ofString "_law_holds" := by kernel_rfl
  refine pre_run (fun ρ ω st r => exec_ok P1 hR1 hint 30 st ρ ω r []) hpre _ [] s' _ _ rfl F fun α' s₅ ho' _ F₅ => ?_
  have hα : α' = [] := by cases α' with | nil => rfl | cons p q => cases ho'
  subst hα
  have hns := evals_noStar hargs
  have hne : retArgs ((fdef 24).body.drop 4) ≠ [] := fun q => by rw [q] at hns; have := hns.2; simp at this
  refine wpAny_execs_cons (wpAny_Return_some (Call_ (ev_global (c := cx prog w H) F₅.ev.toEnvWf F₅.g (by rw [hkd]; kernel_rfl) (by kernel_rfl) (.inl (by rw [← nh]; exact n1)) ?_)))
  refine Calls.callWith_function (o := oh) (fd := DD 23 pmh (.ref c) doch) (args_ok (c := cx prog w H) hne hns.1 (evals_ok (ev := evalP PW1 30 env.scope ρ') (fun e d he => eval_ok P1 hR1 30 env.scope ρ' e d [] env rfl he) hargs) F₅.stf fun vs s₆ k₆ r₆ g₆ => ?_)
  have F₆ := F₅.keeps k₆ g₆
  have G₆ : HKeep h₀ s₆.heap := F₆.g
  refine ⟨⟨G₆ _ _ n2, n3⟩, ?_⟩
  refine holds_call H HL hRd G₆ F₆.tk F₆.low (F₆.base _ _ hP) n1 r₆ fun s₂ hs₂ hk₂ hp₂ => ?_
  obtain ⟨h6, t6, e6⟩ := F₆.same
  obtain ⟨h2, t2, e2⟩ := hs₂
  exact hR s₂ ⟨h2, t2, by rw [e2, e6]⟩ hk₂ hp₂
end
end Mine
end

section
open PySem PySem.W PyProof.Rows
set_option maxRecDepth 100000
set_option maxHeartbeats 8000000
namespace Mine
open_top hd for PySem.Challenge.rw_pg0073_01
end Mine
end

section
open PySem PySem.W PyProof.Rows PySem.SeqAt PySem.Calls
set_option maxRecDepth 100000
set_option maxHeartbeats 8000000
set_option linter.unusedVariables false
namespace Mine

theorem ints_rp {h : Heap} : ∀ {vs : List Value} {xs : List Int}, IntsAre vs xs → RpAll [] h vs (xs.map .int)
  | _, _, .nil => .nil
  | _, _, .cons n t r => .cons (.int n t) (ints_rp r)
theorem codeRec_ghost {h₁ : Heap} {tabs : List (Addr × Addr)} (hT : TabsAt tabs h₁) {cd : Value} {q : Str} (x : h₁.CodeRec cd q) : (ghostOf h₁ tabs).CodeRec cd q := by
  obtain ⟨c, oc, vs, t, e1, e2, e3, e4⟩ := x
  refine ⟨c, oc, vs, t, e1, ghost_get hT e2 (fun e => ?_), e3, e4⟩
  rw [e] at e3
  cases e3
  simp at e4
noncomputable abbrev frOf (k : Nat) : Str × Arguments × List Stmt × Scope := ((fdef k).name, (fdef k).params, (fdef k).body, (fdef k).scope)
theorem recs_are : (recsOf Mine.hd.view_39).map (fun d => (d.name, d.params, d.body, d.scope)) = [2, 3, 5, 6, 11, 13, 14, 15, 16, 17, 18, 19, 20, 21, 22, 23, 24].map frOf := by kernel_rfl
theorem rec_of {k : Nat} (hk : k ∈ [2, 3, 5, 6, 11, 13, 14, 15, 16, 17, 18, 19, 20, 21, 22, 23, 24]) : ∃ d ∈ recsOf Mine.hd.view_39, d.name = (fdef k).name ∧ d.params = (fdef k).params ∧ d.body = (fdef k).body ∧ d.scope = (fdef k).scope := by
  have h : frOf k ∈ [2, 3, 5, 6, 11, 13, 14, 15, 16, 17, 18, 19, 20, 21, 22, 23, 24].map frOf := List.mem_map.mpr ⟨k, hk, rfl⟩
  rw [← recs_are] at h
  obtain ⟨d, hd, e⟩ := List.mem_map.mp h
  simp only [Prod.mk.injEq] at e
  exact ⟨d, hd, e.1, e.2.1, e.2.2.1, e.2.2.2⟩
theorem ns_none {K : Frag} {h : Heap} {a : Addr} {m : Str → Option Value} {n : Str} (X : K.In h) (G : h.Ns a m) (e : nsIn K a n = some none) : m n = none := by
  obtain ⟨o, es, ep, ho, hd, _, hf⟩ := G
  unfold nsIn at e
  split at e
  · rename_i c d es' n' sl q
    have := X _ _ q
    rw [ho] at this
    cases this
    cases hd
    split at e
    · cases e
    · rename_i he
      rw [← hf]
      unfold nsFind findBy
      rw [← Array.find?_toList, he]
      rfl
  · cases e
theorem pat_K {K : Frag} {h : Heap} (X : K.In h) {P C : Addr} {vs items : Array Value} {n : Nat} {code : Array Nat} (h1 : K.lookup P = some ⟨.type "re.Pattern", none, .fields vs, #[]⟩) (h2 : K.lookup C = some ⟨.type "tuple", none, .seq items n, #[]⟩)
    (e6 : Builtin.Re.reRawNat (vs.getD 6 .none) = 0) (e2 : Builtin.Re.reRawNat (vs.getD 2 .none) = 0) (e5 : vs.getD 5 .none = .ref C) (ec : (items.map Builtin.Re.reRawOf).map (·.toNat) = code) : PatAt h P code :=
  ⟨_, _, _, _, _, _, X _ _ h1, rfl, rfl, rfl, e6, e2, e5, X _ _ h2, rfl, ec⟩
noncomputable def vs64 : Array Value := #[.str (Str.ofString "(?m)^\\.") 340, .int 40 353, .int 0 0, .none, .none, .ref 63, .int 0 0]
noncomputable def its63 : Array Value := #[.int 14 0, .int 4 0, .int 0 0, .int 1 0, .int 1 0, .int 6 0, .int 1 0, .int 16 0, .int 46 0, .int 1 0]
theorem K64 (P : Params) : (Mine.hd.heap_39 P).lookup 64 = some ⟨.type "re.Pattern", none, .fields vs64, #[]⟩ := by kernel_rfl
theorem K63 (P : Params) : (Mine.hd.heap_39 P).lookup 63 = some ⟨.type "tuple", none, .seq its63 0, #[]⟩ := by kernel_rfl
noncomputable def vs69 : Array Value := #[.str (Str.ofString "(?:\\r\\n|\\n|\\r(?!\\n))") 356, .int 32 395, .int 0 0, .none, .none, .ref 68, .int 0 0]
noncomputable def its68 : Array Value := code2.map fun i : Nat => Value.int (i : Int) 0
theorem K69 (P : Params) : (Mine.hd.heap_39 P).lookup 69 = some ⟨.type "re.Pattern", none, .fields vs69, #[]⟩ := by kernel_rfl
theorem K68 (P : Params) : (Mine.hd.heap_39 P).lookup 68 = some ⟨.type "tuple", none, .seq its68 0, #[]⟩ := by kernel_rfl
theorem pat1_K {P : Params} {h : Heap} (X : (Mine.hd.heap_39 P).In h) : PatAt h 64 code1 := pat_K X (K64 P) (K63 P) rfl rfl rfl (by kernel_rfl)
theorem pat2_K {P : Params} {h : Heap} (X : (Mine.hd.heap_39 P).In h) : PatAt h 69 code2 := pat_K X (K69 P) (K68 P) rfl rfl rfl (by kernel_rfl)
end Mine
end

section
open PySem PySem.W PyProof.Rows PySem.SeqAt PySem.Calls
set_option maxRecDepth 100000
set_option maxHeartbeats 8000000
set_option linter.unusedVariables false
namespace Mine

noncomputable abbrev tabs : List (Addr × Addr) := [(138, 136)]
theorem boot {x : String} {v : Value} (h : bootBuiltins (Str.ofString x) = some v) {mb : Str → Option Value} (hb : ∀ x : Str, x ≠ "__name__" → mb x = bootBuiltins x) (hx : Str.ofString x ≠ Str.ofString "__name__") : mb (Str.ofString x) = some v := (hb _ hx).trans h
theorem free_K {K : Frag} {h : Heap} {mg : Str → Option Value} (X : K.In h) (G : h.Ns mainGlobals mg) {l : List Str} (e : l.all (fun x => match nsIn K mainGlobals x with | some none => true | _ => false) = true) : ∀ x ∈ l, mg x = none := fun x hx => by
  have := List.all_eq_true.mp e x hx
  split at this
  · rename_i q; exact mg_none_of X G q
  · cases this
noncomputable def freeL : List Str := [Str.ofString "range", Str.ofString "zip", Str.ofString "enumerate", Str.ofString "len", Str.ofString "int", Str.ofString "str", Str.ofString "min", Str.ofString "max", Str.ofString "sum"]
theorem freeK (P : Params) : freeL.all (fun x => match nsIn (Mine.hd.heap_39 P) mainGlobals x with | some none => true | _ => false) = true := by kernel_rfl
theorem n1 (P : Params) : nsIn (Mine.hd.heap_39 P) mainGlobals (Str.ofString "_twin_re_1") = some (some (.ref 64)) := by kernel_rfl
theorem n2 (P : Params) : nsIn (Mine.hd.heap_39 P) mainGlobals (Str.ofString "_twin_re_2") = some (some (.ref 69)) := by kernel_rfl
theorem n3 (P : Params) : nsIn (Mine.hd.heap_39 P) mainGlobals (Str.ofString "CRLF") = some (some (.str (Str.ofString "\r\n") 397)) := by kernel_rfl
theorem n4 (P : Params) : nsIn (Mine.hd.heap_39 P) cStatics sharingNotToldKey = some none := by kernel_rfl
theorem c138 (P : Params) : codeHdIn (Mine.hd.heap_39 P) 138 136 = true := by kernel_rfl
theorem t138 (P : Params) : tabIn (Mine.hd.heap_39 P) (Str.ofString "_law_holds") = some (138, 136) := by kernel_rfl
theorem noT (P : Params) : noTabs (Mine.hd.heap_39 P) = true := by kernel_rfl

theorem idx_sub {k : Nat} (hk : k ∈ idx) : k ∈ [2, 3, 5, 6, 11, 13, 14, 15, 16, 17, 18, 19, 20, 21, 22, 23, 24] := by
  have : idx.all (fun k => decide (k ∈ [2, 3, 5, 6, 11, 13, 14, 15, 16, 17, 18, 19, 20, 21, 22, 23, 24])) = true := by decide +kernel
  exact of_decide_eq_true (List.all_eq_true.mp this k hk)
section
variable {P : Params} {h₁ : Heap} {loose : List Str} {mean : ExcName → Option Value} {mg mb : Str → Option Value}
theorem hyp_of (KX : (Mine.hd.heap_39 P).In h₁) (hT : TabsAt tabs h₁) (T : Top Mine.hd.view_39 loose mean mg mb h₁) : Hyp mg mb (ghostOf h₁ tabs) where
  g := ghost_ns hT T.g
  b := ghost_ns hT T.b
  nb := let ⟨mc, a, _⟩ := T.nolimit; ⟨mc, ghost_ns hT a, ns_none KX a (n4 P)⟩
  nolimit := (ghost_top hT T).nolimit
  fn := fun k hk => by
    obtain ⟨d, hd, e1, e2, e3, e4⟩ := rec_of (k := k) (idx_sub hk)
    obtain ⟨a, o, pm, cd, doc, g1, g2, g3, g4⟩ := T.fn d hd
    rw [e1] at g1 g4
    rw [e1, e2, e3, e4] at g3
    exact ⟨a, o, pm, cd, doc, g1, ghost_get hT g2 (fun q => by rw [q] at g3; cases g3), g3, codeRec_ghost hT g4⟩
  pat1 := ⟨64, mg_of KX T.g (n1 P), pat1_K (ghost_K hT KX (noT P))⟩
  pat2 := ⟨69, mg_of KX T.g (n2 P), pat2_K (ghost_K hT KX (noT P))⟩
  crlf := ⟨397, mg_of KX T.g (n3 P)⟩
  free := free_K KX T.g (freeK P)
  range := boot (by kernel_rfl) T.builtins (by decide +kernel)
  zip := boot (by kernel_rfl) T.builtins (by decide +kernel)
  enum := boot (by kernel_rfl) T.builtins (by decide +kernel)
  len := boot (by kernel_rfl) T.builtins (by decide +kernel)
  int := boot (by kernel_rfl) T.builtins (by decide +kernel)
  str := boot (by kernel_rfl) T.builtins (by decide +kernel)
  min := boot (by kernel_rfl) T.builtins (by decide +kernel)
  max := boot (by kernel_rfl) T.builtins (by decide +kernel)
  sum := boot (by kernel_rfl) T.builtins (by decide +kernel)
theorem hypL_of (KX : (Mine.hd.heap_39 P).In h₁) (hT : TabsAt tabs h₁) (T : Top Mine.hd.view_39 loose mean mg mb h₁) : HypL mg (ghostOf h₁ tabs) 138 136 where
  holds := by
    obtain ⟨d, hd, e1, e2, e3, e4⟩ := rec_of (k := 23) (by decide)
    obtain ⟨a, o, pm, cd, doc, g1, g2, g3, g4⟩ := T.fn d hd
    rw [e1] at g1 g4
    rw [e1, e2, e3, e4] at g3
    have nh : (fdef 23).name = Str.ofString "_law_holds" := by kernel_rfl
    have hc : cd = .ref 138 := law_code (x := Str.ofString "_law_holds") (c := 138) (P := 136) KX T.g (t138 P) (by rw [← nh]; exact g1) g2 g3
    subst hc
    exact ⟨a, o, pm, doc, g1, ghost_get hT g2 (fun q => by rw [q] at g3; cases g3), g3, codeRec_ghost hT g4⟩
  hd := (ghost_code hT).1
  nP := by decide
  none := hideAll_none _ (by simp)
  blt := by
    obtain ⟨bm, ob, b1, b2, b3, b4, b5, b6⟩ := T.bmain
    refine ⟨bm, ob, b1, b2, fun q => ?_, fun q => ?_, ghost_get hT b3 (fun q => by rw [q] at b4; cases b4), b4, b5, b6⟩
    · obtain ⟨o, es, ep, e, hd, _⟩ := T.g
      rw [q, e] at b3; cases b3; rw [hd] at b6; cases b6
    · have := (hT (138, 136) (by simp)).2
      rw [q] at b3
      rw [b3] at this
      cases this
      cases b4
end
end Mine


end

open PySem PySem.W PyProof.Rows PySem.SeqAt PySem.Calls
set_option maxRecDepth 100000 in
set_option maxHeartbeats 8000000 in
theorem PySem.Challenge.cw_pg0073_01_holds : PySem.Challenge.rw_pg0073_01.Holds := by
  refine Mine.hd ?_
  k_fill
  intro w s₀ s₁ mg mb G Y fa o pm cd doc dV kV ho hd hcd hD hmg hg args vals as hpre hlay hrd hwl hlo
  have KX := km_in_of Y
  have hT0 := km_tabs_of Y
  refine Ground.open G ?_
  intro T B D TE TW
  wrow_args hpre hlay hrd hwl hlo
  rename_i xs hs hlay0 hL1 hr1 hl2 as4 as3 l vs as1 hL ra w1 r0 hI hr hc1 hc2
  have hT : TabsAt Mine.tabs s₁.heap := List.forall_mem_cons.mpr ⟨⟨codeHd_of_K KX (Mine.c138 _), hT0 136 (by simp)⟩, fun _ h => nomatch h⟩
  refine enter_call ?_
  refine kn_post hT (fun _ _ => rfl) ?_
  obtain ⟨d, hd24, e1, e2, e3, e4⟩ := Mine.rec_of (k := 24) (by decide)
  obtain ⟨a', o', pm', cd', doc', g1, g2, g3, g4⟩ := T.fn d hd24
  rw [e1] at g1 g4
  rw [e1, e2, e3, e4] at g3
  have nl : (Mine.fdef 24).name = Str.ofString "law" := by kernel_rfl
  have hfa : mg (Str.ofString "law") = some (.ref fa) := hmg
  rw [nl, hfa] at g1
  cases g1
  have hl : xs.length ≤ 63 := by omega
  have hrp : Mine.Rp [] s₁.heap (.ref l) (.lst (xs.map .int)) := by
    have w2 : Well w.params s₁.heap (.ref l) (.list (ofPys (xs.map PyData.int))) := w1
    cases w2 with
    | @list _ vs' _ ha hw =>
      obtain ⟨ol, ho1, hc, n, hd1⟩ := hL
      rw [ha] at ho1
      cases ho1
      cases hd1
      exact .lst (fun hm => nomatch hm) ha (by rw [hI.length, sizeLine_eq]; omega) (Mine.ints_rp hI)
  refine Mine.law_code_ok (Mine.hyp_of KX hT T) (Mine.hypL_of KX hT T) ⟨rfl, by decide +kernel, by decide +kernel⟩ (fun b o e => of_hideAll _ e) (hT (138, 136) (by simp)).2 g2 g3 g4 hl hrp ?_
  intro s₂ hs₂ hk₂ hp₂
  obtain ⟨h2, t2, rfl⟩ := hs₂
  exact ⟨⟨.inl ⟨.bool true, .bool true, [], rfl, fun _ => rfl, .bool true, by kernel_rfl, fun _ => ⟨List.nodup_nil, fun a h => nomatch h⟩⟩, hk₂, rfl, hg⟩, hp₂, trivial⟩
