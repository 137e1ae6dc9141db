import PyProof.Rows.All
import Wide.All
import OpenK.AllK
import Wide.FinOn
import PySem.Challenge.RW_mq0149_01
/-! text B1 -/
section
open PySem PySem.W PyProof.Rows
set_option Elab.async false
set_option maxRecDepth 100000
namespace Mine

/-! ### the program's defs, reached through the row -/
def recAt : List Stmt → Nat → DefRec
  | .FunctionDef n a b _ _ _ sc _ _ pos :: _, 0 => ⟨n, a, b, sc, pos⟩
  | _ :: r, k + 1 => recAt r k
  | _, _ => ⟨"", ⟨[], [], none, [], [], none, []⟩, [], ⟨.function, [], false, false, []⟩, ⟨0, 0, 0, 0⟩⟩
def fR (k : Nat) : DefRec := recAt PySem.Challenge.pw_mq0149_01.main.body k

abbrev isFun (h : Heap) (k : Nat) (a : Addr) : Prop :=
  ∃ o pm code doc, h.get? a = some o ∧ o.data = .func (Calls.docDef (fR k).name (fR k).params (fR k).body (fR k).scope pm code doc) ∧ h.CodeRec code (fR k).name

structure Gl (mg mb : Str → Option Value) (h : Heap) : Prop where
  g : h.Ns mainGlobals mg
  b : h.Ns builtinsNs mb
  nolimit : h.NoLimit
  fn : ∀ k, k = 1 ∨ k = 2 ∨ k = 4 ∨ k = 6 ∨ k = 7 ∨ k = 8 ∨ k = 9 ∨ k = 10 → ∃ a, mg (fR k).name = some (.ref a) ∧ isFun h k a
  blt : ∀ x : Str, x ≠ "__name__" → mb x = bootBuiltins x
  free : ∀ x : Str, x = "list" ∨ x = "zip" ∨ x = "len" ∨ x = "range" ∨ x = "sorted" ∨ x = "IndexError" → mg x = none

def Ext (h h' : Heap) : Prop := ∀ b o, h.get? b = some o → h'.get? b = some o
theorem Ext.refl (h : Heap) : Ext h h := fun _ _ e => e
theorem Ext.trans {a b c : Heap} (x : Ext a b) (y : Ext b c) : Ext a c := fun p o e => y p o (x p o e)

theorem Gl.keeps {mg mb : Str → Option Value} {h h' : Heap} (G : Gl mg mb h) (k : Ext h h') : Gl mg mb h' where
  g := G.g.keeps k
  b := G.b.keeps k
  nolimit := G.nolimit.keeps k
  fn := fun i hi => let ⟨a, e, o, pm, code, doc, h1, h2, h3⟩ := G.fn i hi; ⟨a, e, o, pm, code, doc, k _ _ h1, h2, h3.keeps k⟩
  blt := G.blt
  free := G.free

theorem kExt {s s' : Shared} (k : Keeps s s') : Ext s.heap s'.heap := by obtain ⟨h, tk, rfl, e⟩ := k; exact e
theorem kRefl (s : Shared) : Keeps s s := ⟨s.heap, s.toks, rfl, fun _ _ e => e⟩
theorem kOf {s : Shared} {h : Heap} {tk : Nat} (e : Ext s.heap h) : Keeps s { s with heap := h, toks := tk } := ⟨h, tk, rfl, e⟩
theorem kTrans {a b c : Shared} (x : Keeps a b) (y : Keeps b c) : Keeps a c := by
  obtain ⟨h, tk, rfl, e⟩ := x; obtain ⟨h', tk', rfl, e'⟩ := y; exact ⟨h', tk', rfl, fun p o q => e' p o (e p o q)⟩

/-- room for n more calls -/
structure Rm (n : Nat) (A : Around) : Prop where
  hh : A.handled = none
  depth : A.depth + n < recursionLimit
  units : A.units + 4 * n + 200 < cLine
theorem Rm.deeper {n : Nat} {A : Around} (r : Rm (n + 1) A) (env : Env) : Rm n (A.deeper env) :=
  ⟨r.hh, by have := r.depth; rw [depth_deeper]; omega, by have := r.units; rw [Around.deeper_units]; omega⟩
theorem Rm.mono {n m : Nat} {A : Around} (r : Rm n A) (h : m ≤ n) : Rm m A := ⟨r.hh, by have := r.depth; omega, by have := r.units; omega⟩

/-- quiet: a tree that only makes new things -/
def Ev {α : Type} (prog : Program) (w : World) (A : Around) (t : Sem α) (s : Shared) (P : α → Shared → Prop) : Prop :=
  ∀ E : Value → Shared → Prop, wpAny (model prog w) A t (fun a s' => Keeps s s' ∧ P a s') E s

section
variable {prog : Program} {w : World} {A : Around} {s : Shared}
theorem Ev.use {α : Type} {t : Sem α} {P Q : α → Shared → Prop} {E : Value → Shared → Prop} (h : Ev prog w A t s P) (k : ∀ a s', Keeps s s' → P a s' → Q a s') :
    wpAny (model prog w) A t Q E s := wpAny_mono (h E) (fun a s' x => k a s' x.1 x.2) fun _ _ e => e
theorem Ev.mono {α : Type} {t : Sem α} {P P' : α → Shared → Prop} (h : Ev prog w A t s P) (k : ∀ a s', Keeps s s' → P a s' → P' a s') : Ev prog w A t s P' :=
  fun _ => h.use fun a s' x p => ⟨x, k a s' x p⟩

/-- a call of the program's k-th def -/
theorem callF {k : Nat} {a : Addr} {args : List Value} {binds : List (Str × Value)} {P : Value → Shared → Prop} (hroom : A.depth < recursionLimit) (hf : isFun s.heap k a) (hlim : s.heap.NoLimit)
    (hbind : ∀ pm cd doc, bindArgs (Calls.docDef (fR k).name (fR k).params (fR k).body (fR k).scope pm cd doc) ⟨args, []⟩ = pure binds)
    (hloc : ∀ x ∈ binds, (fR k).scope.names.lookup x.1 = some .local)
    (h : ∀ h₁ cd, Fr s.heap s.heap.objs.size h₁ (fun x => binds.reverse.lookup x) →
      wpAny (model prog w) (A.deeper (envOf (fR k).name (fR k).scope s.heap.objs.size a cd)) (execs (fR k).body (envOf (fR k).name (fR k).scope s.heap.objs.size a cd))
        (fun f s' => Keeps s s' ∧ P (match f with | .ret v => v | _ => .none) s') (fun _ _ => False)
        { s with heap := h₁, toks := s.toks + binds.length })
    (hco : (fR k).scope.isCoroutine = false) (hgen : (fR k).scope.isGenerator = false) (hk : (fR k).scope.kind = .function)
    (hcell : ∀ x ∈ (fR k).scope.names, x.2 ≠ .cell) : Ev prog w A (call (.ref a) args) s P := by
  obtain ⟨o, pm, code, doc, ho, hd, hcd⟩ := hf
  intro E
  exact wpAny_call (call_plain_ret hroom ho hd hlim hcd (hbind pm code doc) hloc (fun h₁ F => h h₁ code F) hco hgen hk hcell)

theorem ldl {env : Env} {x : Str} {pos : Pos} {v : Value} {m : Str → Option Value} {Q : Value → Shared → Prop} {E : Value → Shared → Prop} (hn : s.heap.Ns env.locals m) (hv : m x = some v) (h : Q v s)
    (hk : env.scope.kind = .function := by rfl) (hl : env.kindOf x = some .local := by rfl) (hd : (x == ("__debug__" : Str)) = false := by decide) :
    wpAny (model prog w) A (eval (.Name x pos) env) Q E s := wpAny_Name (wpAny_loadName_local hk hl hn hv h) hd

/-- f(e): one argument -/
theorem callN1 {k : Nat} {env : Env} {mg mb : Str → Option Value} {np pos : Pos} {e : Expr} {f : Str} {Q : Value → Shared → Prop} {E : Value → Shared → Prop} (G : Gl mg mb s.heap)
    (hK : k = 1 ∨ k = 2 ∨ k = 4 ∨ k = 6 ∨ k = 7 ∨ k = 8 ∨ k = 9 ∨ k = 10)
    (h : ∀ a, isFun s.heap k a → wpAny (model prog w) A (eval e env) (fun v s₁ => Ext s.heap s₁.heap ∧ wpAny (model prog w) A (call (.ref a) [v]) Q E s₁) E s)
    (hf : f = (fR k).name := by rfl) (hk : env.scope.kind = .function := by rfl) (hx : env.kindOf f = some .globalImplicit := by rfl) (hg : env.globals = mainGlobals := by rfl)
    (hd : (f == ("__debug__" : Str)) = false := by decide) (he : starEach [e] env = [(false, eval e env)] := by rfl) :
    wpAny (model prog w) A (eval (.Call (.Name f np) [e] [] pos) env) Q E s := by
  obtain ⟨a, ha, hF⟩ := G.fn k hK
  refine wpAny_Call_NameR (Calls.Name_function_global hk hx (Calls.loadGlobal_global (mg := mg) (by rw [hg]; exact G.g) (by rw [hf]; exact ha) ?_) hd)
  obtain ⟨o, pm, code, doc, ho, hdat, hcd⟩ := id hF
  refine callWith_def_at (o := o) (fd := _) ho hdat ?_ he
  rw [he]
  refine Calls.spliced_cons (wpAny_mono (h a hF) (fun v s₁ hv => Calls.spliced_nil ⟨hv.1 _ _ ho, hv.2⟩) fun _ _ x => x)

/-- f(e, e'): two arguments -/
theorem callN2 {k : Nat} {env : Env} {mg mb : Str → Option Value} {np pos : Pos} {e e' : Expr} {f : Str} {Q : Value → Shared → Prop} {E : Value → Shared → Prop} (G : Gl mg mb s.heap)
    (hK : k = 1 ∨ k = 2 ∨ k = 4 ∨ k = 6 ∨ k = 7 ∨ k = 8 ∨ k = 9 ∨ k = 10)
    (h : ∀ a, isFun s.heap k a → wpAny (model prog w) A (eval e env) (fun v s₁ => wpAny (model prog w) A (eval e' env) (fun v' s₂ => Ext s.heap s₂.heap ∧ wpAny (model prog w) A (call (.ref a) [v, v']) Q E s₂) E s₁) E s)
    (hf : f = (fR k).name := by rfl) (hk : env.scope.kind = .function := by rfl) (hx : env.kindOf f = some .globalImplicit := by rfl) (hg : env.globals = mainGlobals := by rfl)
    (hd : (f == ("__debug__" : Str)) = false := by decide) (he : starEach [e, e'] env = (false, eval e env) :: starEach [e'] env := by rfl) (he' : starEach [e'] env = [(false, eval e' env)] := by rfl) :
    wpAny (model prog w) A (eval (.Call (.Name f np) [e, e'] [] pos) env) Q E s := by
  obtain ⟨a, ha, hF⟩ := G.fn k hK
  refine wpAny_Call_NameR (Calls.Name_function_global hk hx (Calls.loadGlobal_global (mg := mg) (by rw [hg]; exact G.g) (by rw [hf]; exact ha) ?_) hd)
  obtain ⟨o, pm, code, doc, ho, hdat, hcd⟩ := id hF
  refine callWith_def_at (o := o) (fd := _) ho hdat ?_ he
  rw [he, he']
  exact Calls.spliced_cons (wpAny_mono (h a hF) (fun v s₁ hv => Calls.spliced_cons (wpAny_mono hv (fun v' s₂ hv' => Calls.spliced_nil ⟨hv'.1 _ _ ho, hv'.2⟩) fun _ _ x => x)) fun _ _ x => x)
end
end Mine
end

/-! text B2 -/
section
open PySem PySem.W PyProof.Rows
set_option Elab.async false
set_option maxRecDepth 100000
namespace Mine

/-! ### what a value stands for, by kinds -/
structure Rel (β : Type) where
  r : (Addr → Prop) → Heap → Value → β → Prop
  stabU : ∀ {X Y : Addr → Prop} {h h' : Heap} {v : Value} {y : β}, r X h v y → (∀ b o, X b → h.get? b = some o → (∀ vs, o.data ≠ .fields vs) → Y b ∧ ∃ sl, h'.get? b = some { o with slots := sl }) → r Y h' v y
theorem Rel.stab {β : Type} (R : Rel β) {X Y : Addr → Prop} {h h' : Heap} {v : Value} {y : β} (x : R.r X h v y) (k : ∀ b o, X b → h.get? b = some o → Y b ∧ h'.get? b = some o) : R.r Y h' v y :=
  R.stabU x fun b o hb q _ => ⟨(k b o hb q).1, o.slots, (k b o hb q).2⟩
theorem Rel.up {β : Type} (R : Rel β) {X : Addr → Prop} {h h' : Heap} {v : Value} {y : β} (x : R.r X h v y) (k : h.UpToSlots h') : R.r X h' v y :=
  R.stabU x fun b o hb q hn => ⟨hb, k b o q hn⟩

abbrev Any : Addr → Prop := fun _ => True
abbrev New (h : Heap) : Addr → Prop := fun a => h.get? a = none

theorem Rel.ext {β : Type} (R : Rel β) {X : Addr → Prop} {h h' : Heap} {v : Value} {y : β} (x : R.r X h v y) (e : Ext h h') : R.r X h' v y := R.stab x fun b o hb q => ⟨hb, e b o q⟩
theorem Rel.any {β : Type} (R : Rel β) {X : Addr → Prop} {h : Heap} {v : Value} {y : β} (x : R.r X h v y) : R.r Any h v y := R.stab x fun _ _ _ q => ⟨trivial, q⟩
theorem Rel.anyExt {β : Type} (R : Rel β) {X : Addr → Prop} {h h' : Heap} {v : Value} {y : β} (x : R.r X h v y) (e : Ext h h') : R.r Any h' v y := R.stab x fun b o _ q => ⟨trivial, e b o q⟩
theorem Rel.older {β : Type} (R : Rel β) {h₀ h₁ h : Heap} {v : Value} {y : β} (x : R.r (New h₁) h v y) (e : Ext h₀ h₁) : R.r (New h₀) h v y :=
  R.stab x fun b o hb q => ⟨(by
    cases q' : h₀.get? b with
    | none => exact q'
    | some o' => have hb' : h₁.get? b = none := hb; rw [e b o' q'] at hb'; cases hb'), q⟩

abbrev mkS (x : List Nat) : Str := ⟨x.toArray⟩
def rS : Rel (List Nat) where
  r := fun _ _ v x => ∃ t, v = .str (mkS x) t
  stabU := fun x _ => x
def rI : Rel Int where
  r := fun _ _ v x => ∃ t, v = .int x t
  stabU := fun x _ => x
def rB : Rel Bool where
  r := fun _ _ v x => v = .bool x
  stabU := fun x _ => x

theorem pget {α β : Type} {F : α → β → Prop} : ∀ {l₁ : List α} {l₂ : List β}, Paired F l₁ l₂ → ∀ (i : Nat) (h₁ : i < l₁.length) (h₂ : i < l₂.length), F l₁[i] l₂[i]
  | _, _, .cons h _, 0, _, _ => h
  | _, _, .cons _ t, i + 1, h₁, h₂ => pget t i (by simpa using h₁) (by simpa using h₂)
theorem pofget {α β : Type} {F : α → β → Prop} : ∀ {l₁ : List α} {l₂ : List β}, l₁.length = l₂.length → (∀ (i : Nat) (h₁ : i < l₁.length) (h₂ : i < l₂.length), F l₁[i] l₂[i]) → Paired F l₁ l₂
  | [], [], _, _ => .nil
  | [], _ :: _, h, _ => by simp at h
  | _ :: _, [], h, _ => by simp at h
  | a :: l₁, b :: l₂, h, k => .cons (k 0 (by simp) (by simp)) (pofget (by simpa using h) fun i h₁ h₂ => k (i + 1) (by simpa using h₁) (by simpa using h₂))
theorem papp {α β : Type} {F : α → β → Prop} : ∀ {l₁ : List α} {l₂ : List β} {m₁ : List α} {m₂ : List β}, Paired F l₁ l₂ → Paired F m₁ m₂ → Paired F (l₁ ++ m₁) (l₂ ++ m₂)
  | _, _, _, _, .nil, t => t
  | _, _, _, _, .cons h t, t' => .cons h (papp t t')


def rL {β : Type} (R : Rel β) : Rel (List β) where
  r := fun X h v xs => ∃ a items, v = .ref a ∧ X a ∧ PlainL h a items ∧ Paired (R.r X h) items.toList xs
  stabU := by
    rintro X Y h h' v y ⟨a, items, rfl, hX, ⟨o, n, ho, hc, hd, hdat⟩, hp⟩ k
    obtain ⟨hY, sl, ho'⟩ := k a o hX ho fun vs q => by rw [hdat] at q; cases q
    exact ⟨a, items, rfl, hY, ⟨_, n, ho', hc, hd, hdat⟩, Paired.mono (fun v x hx => R.stabU hx k) hp⟩

/-! ### order -/
def cmpL {α : Type} (c : α → α → Ordering) : List α → List α → Ordering
  | [], [] => .eq
  | [], _ :: _ => .lt
  | _ :: _, [] => .gt
  | a :: as, b :: bs => match c a b with
    | .eq => cmpL c as bs
    | o => o
def cN (a b : Nat) : Ordering := if a < b then .lt else if b < a then .gt else .eq
abbrev c0 : List Nat → List Nat → Ordering := cmpL cN
abbrev c1 := cmpL c0
abbrev c2 := cmpL c1

theorem c0_lt : ∀ x y : List Nat, (c0 x y == .lt) = decide (x < y)
  | [], [] => rfl
  | [], _ :: _ => by simp [cmpL]
  | _ :: _, [] => by simp [cmpL]
  | a :: as, b :: bs => by
    show ((match cN a b with | .eq => cmpL cN as bs | o => o) == .lt) = _
    unfold cN
    by_cases h1 : a < b
    · rw [if_pos h1]; simp [h1, List.cons_lt_cons_iff]
    · rw [if_neg h1]
      by_cases h2 : b < a
      · rw [if_pos h2]; have : a ≠ b := by omega
        simp [h1, this, List.cons_lt_cons_iff]
      · rw [if_neg h2]; have : a = b := by omega
        subst this
        show (c0 as bs == .lt) = _
        rw [c0_lt as bs]; simp [List.cons_lt_cons_iff]
theorem c0_gt : ∀ x y : List Nat, (c0 x y == .gt) = decide (y < x)
  | [], [] => rfl
  | [], _ :: _ => by simp [cmpL]
  | _ :: _, [] => by simp [cmpL]
  | a :: as, b :: bs => by
    show ((match cN a b with | .eq => cmpL cN as bs | o => o) == .gt) = _
    unfold cN
    by_cases h1 : a < b
    · rw [if_pos h1]; have : ¬ b < a := by omega
      have h3 : b ≠ a := by omega
      simp [this, h3, List.cons_lt_cons_iff]
    · rw [if_neg h1]
      by_cases h2 : b < a
      · rw [if_pos h2]; simp [h2, List.cons_lt_cons_iff]
      · rw [if_neg h2]; have : a = b := by omega
        subst this
        show (c0 as bs == .gt) = _
        rw [c0_gt as bs]; simp [List.cons_lt_cons_iff]
theorem c0_eq : ∀ x y : List Nat, (c0 x y == .eq) = (x == y)
  | [], [] => rfl
  | [], _ :: _ => by simp [cmpL]
  | _ :: _, [] => by simp [cmpL]
  | a :: as, b :: bs => by
    show ((match cN a b with | .eq => cmpL cN as bs | o => o) == .eq) = _
    unfold cN
    by_cases h1 : a < b
    · rw [if_pos h1]; have : a ≠ b := by omega
      simp [this]
    · rw [if_neg h1]
      by_cases h2 : b < a
      · rw [if_pos h2]; have : a ≠ b := by omega
        simp [this]
      · rw [if_neg h2]; have : a = b := by omega
        subst this
        show (c0 as bs == .eq) = _
        rw [c0_eq as bs]; simp

def RcOp (op : CmpOp) (A : Around) (s : Shared) (y x : Value) (b : Bool) : Prop :=
  ∀ (prog : Program) (w : World) (E : Value → Shared → Prop) (Q : Value → Shared → Prop), Q (.bool b) s → wpAny (model prog w) A (richCompare op y x) Q E s

/-- how two values stand to each other, n floors deep -/
def OA (n : Nat) (s : Shared) (v u : Value) (o : Ordering) : Prop :=
  ∀ A : Around, A.units + n < cLine → SeqAt.EqAt A s v u (o == .eq) ∧ RcOp .Eq A s v u (o == .eq) ∧ RcOp .NotEq A s v u (o != .eq) ∧ RcOp .Lt A s v u (o == .lt) ∧ RcOp .Gt A s v u (o == .gt)

theorem OA.str {s : Shared} {x y : List Nat} {t u : Tok} {n : Nat} : OA n s (.str (mkS x) t) (.str (mkS y) u) (c0 x y) := by
  intro A _
  have e1 : ((mkS x).cps.toList == (mkS y).cps.toList) = (c0 x y == .eq) := by rw [c0_eq]
  have hEq : RcOp .Eq A s (.str (mkS x) t) (.str (mkS y) u) (c0 x y == .eq) := fun prog w E Q h => by
    refine PyProof.Rows.eq_str ?_
    rw [← toList_beq, e1]; exact h
  refine ⟨fun prog w E Q h => ?_, hEq, fun prog w E Q h => ?_, fun prog w E Q h => ?_, fun prog w E Q h => ?_⟩
  · unfold eqBool
    refine wpAny_holding ?_
    refine wpAny_ite_split (fun hab => ?_) (fun _ => ?_)
    · have hxy : mkS x = mkS y := by have := eq_of_beq hab; injection this
      have : x = y := by have := congrArg (fun z : Str => z.cps.toList) hxy; simpa using this
      subst this
      have : (c0 x x == .eq) = true := by rw [c0_eq]; simp
      rw [this] at h
      exact wpAny_bind (wpAny_rule (wpAny_pure h))
    · exact wpAny_bind (hEq prog w E _ (wpAny_truthy_bool h))
  · refine PyProof.Rows.ne_str ?_
    rw [← toList_bne]
    have : ((mkS x).cps.toList != (mkS y).cps.toList) = (c0 x y != .eq) := by simp only [bne, e1]
    rw [this]; exact h
  · refine PyProof.Rows.lt_str ?_
    have : (decide ((mkS x).cps.toList < (mkS y).cps.toList)) = (c0 x y == .lt) := by rw [c0_lt]
    rw [this]; exact h
  · refine P.gt_str ?_
    have : (decide ((mkS y).cps.toList < (mkS x).cps.toList)) = (c0 x y == .gt) := by rw [c0_gt]
    rw [this]; exact h
end Mine
end

/-! text B3 -/
section
open PySem PySem.W PyProof.Rows
set_option Elab.async false
set_option maxRecDepth 100000
namespace Mine
open AutoSeq1 (wpAny_loadPart')
open MeetsSeq MeetsSeq2 MeetsSeq3

theorem cmpL_nil_left {α : Type} (c : α → α → Ordering) (ys : List α) : cmpL c [] ys = if ys.length = 0 then .eq else .lt := by
  cases ys <;> simp [cmpL]
theorem cmpL_nil_right {α : Type} (c : α → α → Ordering) (xs : List α) : cmpL c xs [] = if xs.length = 0 then .eq else .gt := by
  cases xs <;> simp [cmpL]

def szB (op : CmpOp) (m n : Nat) : Bool := match op with | .Lt => decide (m < n) | _ => decide (n < m)

set_option maxHeartbeats 4000000 in
theorem cmp_loop {β : Type} (c : β → β → Ordering) (l b : Addr) (items items2 : Array Value) (n n2 : Nat) (dd dd2 : Option Addr) (sl sl2 : Array (Option Value)) (xs ys : List β)
    (hx : items.size = xs.length) (hy : items2.size = ys.length) (op : CmpOp) (code : Int) (tgt : Ordering) (hop : (op = .Lt ∧ code = 0 ∧ tgt = .lt) ∨ (op = .Gt ∧ code = 4 ∧ tgt = .gt)) (k : Nat) :
    ∀ i : Nat, min xs.length ys.length - i = k → i ≤ min xs.length ys.length → Meets (Builtin.«list.__eq__.loop» ⟨[.ref l, .ref b, rawInt i, rawInt code], []⟩)
      (fun A R s => s.heap.get? l = some { cls := .type "list", dict := dd, data := .seq items n, slots := sl } ∧ s.heap.get? b = some { cls := .type "list", dict := dd2, data := .seq items2 n2, slots := sl2 } ∧
        (∀ j (h1 : j < items.size) (h2 : j < items2.size), SeqAt.EqAt A.in1 s items[j] items2[j] (c (xs[j]'(hx ▸ h1)) (ys[j]'(hy ▸ h2)) == .eq) ∧ RcOp op A.in1 s items[j] items2[j] (c (xs[j]'(hx ▸ h1)) (ys[j]'(hy ▸ h2)) == tgt)) ∧
        R (.ok (.ret (.bool (cmpL c (xs.drop i) (ys.drop i) == tgt)))) s) := by
  induction k with
  | zero =>
    intro i hk hi prog w A R s h
    obtain ⟨hp, g, d, tk, os⟩ := s; obtain ⟨hl, hb, he, h⟩ := h
    have hres : R (.ok (.ret (.bool (szB op items.size items2.size)))) ⟨hp, g, d, tk, os⟩ := by
      have : (cmpL c (xs.drop i) (ys.drop i) == tgt) = (szB op items.size items2.size) := by
        rw [hx, hy]
        rcases Nat.le_total xs.length ys.length with hle | hle
        · have e1 : xs.drop i = [] := by rw [List.drop_eq_nil_iff]; omega
          rw [e1, cmpL_nil_left, List.length_drop]
          rcases hop with ⟨rfl, rfl, rfl⟩ | ⟨rfl, rfl, rfl⟩
          · by_cases hz : ys.length - i = 0
            · rw [if_pos hz]; have : ¬ xs.length < ys.length := by omega
              simp [szB, this]
            · rw [if_neg hz]; have : xs.length < ys.length := by omega
              simp [szB, this]
          · have : ¬ ys.length < xs.length := by omega
            by_cases hz : ys.length - i = 0
            · rw [if_pos hz]; simp [szB, this]
            · rw [if_neg hz]; simp [szB, this]
        · have e1 : ys.drop i = [] := by rw [List.drop_eq_nil_iff]; omega
          rw [e1, cmpL_nil_right, List.length_drop]
          rcases hop with ⟨rfl, rfl, rfl⟩ | ⟨rfl, rfl, rfl⟩
          · have : ¬ xs.length < ys.length := by omega
            by_cases hz : xs.length - i = 0
            · rw [if_pos hz]; simp [szB, this]
            · rw [if_neg hz]; simp [szB, this]
          · by_cases hz : xs.length - i = 0
            · rw [if_pos hz]; have : ¬ ys.length < xs.length := by omega
              simp [szB, this]
            · rw [if_neg hz]; have : ys.length < xs.length := by omega
              simp [szB, this]
      rw [← this]; exact h
    have hnone : items[((i : Nat) : Int).toNat]? = none ∨ items2[((i : Nat) : Int).toNat]? = none := by
      rcases Nat.le_total xs.length ys.length with hle | hle
      · left; simp; omega
      · right; simp; omega
    rcases hop with ⟨rfl, rfl, rfl⟩ | ⟨rfl, rfl, rfl⟩
    · wp_walk using wpAny_loadPart' hl, wpAny_loadPart' hb
      rcases hnone with hn | hn
      · rw [hn]; wp_walk using wpAny_loadPart' hl, wpAny_loadPart' hb
        exact hres
      · rw [hn]
        cases hq : items[((i : Nat) : Int).toNat]? with
        | none => wp_walk using wpAny_loadPart' hl, wpAny_loadPart' hb
                  exact hres
        | some _ => wp_walk using wpAny_loadPart' hl, wpAny_loadPart' hb
                    exact hres
    · wp_walk using wpAny_loadPart' hl, wpAny_loadPart' hb
      rcases hnone with hn | hn
      · rw [hn]; wp_walk using wpAny_loadPart' hl, wpAny_loadPart' hb
        exact hres
      · rw [hn]
        cases hq : items[((i : Nat) : Int).toNat]? with
        | none => wp_walk using wpAny_loadPart' hl, wpAny_loadPart' hb
                  exact hres
        | some _ => wp_walk using wpAny_loadPart' hl, wpAny_loadPart' hb
                    exact hres
  | succ k ih =>
    intro i hk hi prog w A R s h
    obtain ⟨hp, g, d, tk, os⟩ := s; obtain ⟨hl, hb, he, h⟩ := h
    have hlt : i < items.size := by omega
    have hlt2 : i < items2.size := by omega
    have hi1 : items[((i : Nat) : Int).toNat]? = some items[i] := by simp [hlt]
    have hi2 : items2[((i : Nat) : Int).toNat]? = some items2[i] := by simp [hlt2]
    have hc : ((i : Int) + 1) = ((i + 1 : Nat) : Int) := by push_cast; rfl
    have hd1 : xs.drop i = xs[i]'(hx ▸ hlt) :: xs.drop (i + 1) := by rw [List.drop_eq_getElem_cons]
    have hd2 : ys.drop i = ys[i]'(hy ▸ hlt2) :: ys.drop (i + 1) := by rw [List.drop_eq_getElem_cons]
    obtain ⟨he1, he2⟩ := he i hlt hlt2
    have step : ∀ (hh : c (xs[i]'(hx ▸ hlt)) (ys[i]'(hy ▸ hlt2)) = .eq), R (.ok (.ret (.bool (cmpL c (xs.drop (i+1)) (ys.drop (i+1)) == tgt)))) ⟨hp, g, d, tk, os⟩ := fun hh => by
      rw [hd1, hd2] at h
      have : cmpL c (xs[i]'(hx ▸ hlt) :: xs.drop (i + 1)) (ys[i]'(hy ▸ hlt2) :: ys.drop (i + 1)) = cmpL c (xs.drop (i+1)) (ys.drop (i+1)) := by simp [cmpL, hh]
      rw [this] at h; exact h
    have stop : ∀ (hh : c (xs[i]'(hx ▸ hlt)) (ys[i]'(hy ▸ hlt2)) ≠ .eq), R (.ok (.ret (.bool (c (xs[i]'(hx ▸ hlt)) (ys[i]'(hy ▸ hlt2)) == tgt)))) ⟨hp, g, d, tk, os⟩ := fun hh => by
      rw [hd1, hd2] at h
      have : cmpL c (xs[i]'(hx ▸ hlt) :: xs.drop (i + 1)) (ys[i]'(hy ▸ hlt2) :: ys.drop (i + 1)) = c (xs[i]'(hx ▸ hlt)) (ys[i]'(hy ▸ hlt2)) := by
        cases hq : c (xs[i]'(hx ▸ hlt)) (ys[i]'(hy ▸ hlt2)) with
        | eq => exact absurd hq hh
        | lt => simp [cmpL, hq]
        | gt => simp [cmpL, hq]
      rw [this] at h; exact h
    by_cases hq : c (xs[i]'(hx ▸ hlt)) (ys[i]'(hy ▸ hlt2)) = .eq
    · have hb' : (c (xs[i]'(hx ▸ hlt)) (ys[i]'(hy ▸ hlt2)) == .eq) = true := by rw [hq]; rfl
      rw [hb'] at he1
      rcases hop with ⟨rfl, rfl, rfl⟩ | ⟨rfl, rfl, rfl⟩
      · wp_walk using wpAny_loadPart' hl, wpAny_loadPart' hb
        rw [hi1, hi2]
        refine wpAny_bind (he1 prog w _ _ ?_)
        wp_walk
        rw [hc]
        exact ⟨plainId_quiet plain_eq_loop _, codeAny_builtin entry_eq_loop (by
          rw [Around.under_plainId plain_eq_loop _]
          exact ih (i + 1) (by omega) (by omega) prog w A R _ ⟨hl, hb, he, step hq⟩)⟩
      · wp_walk using wpAny_loadPart' hl, wpAny_loadPart' hb
        rw [hi1, hi2]
        refine wpAny_bind (he1 prog w _ _ ?_)
        wp_walk
        rw [hc]
        exact ⟨plainId_quiet plain_eq_loop _, codeAny_builtin entry_eq_loop (by
          rw [Around.under_plainId plain_eq_loop _]
          exact ih (i + 1) (by omega) (by omega) prog w A R _ ⟨hl, hb, he, step hq⟩)⟩
    · have hb' : (c (xs[i]'(hx ▸ hlt)) (ys[i]'(hy ▸ hlt2)) == .eq) = false := by
        cases hq' : c (xs[i]'(hx ▸ hlt)) (ys[i]'(hy ▸ hlt2)) with
        | eq => exact absurd hq' hq
        | lt => rfl
        | gt => rfl
      rw [hb'] at he1
      rcases hop with ⟨rfl, rfl, rfl⟩ | ⟨rfl, rfl, rfl⟩
      · wp_walk using wpAny_loadPart' hl, wpAny_loadPart' hb
        rw [hi1, hi2]
        refine wpAny_bind (he1 prog w _ _ ?_)
        wp_walk using wpAny_loadPart' hl, wpAny_loadPart' hb
        rw [hi1, hi2]
        refine wpAny_bind (he2 prog w _ _ ?_)
        wp_walk
        exact stop hq
      · wp_walk using wpAny_loadPart' hl, wpAny_loadPart' hb
        rw [hi1, hi2]
        refine wpAny_bind (he1 prog w _ _ ?_)
        wp_walk using wpAny_loadPart' hl, wpAny_loadPart' hb
        rw [hi1, hi2]
        refine wpAny_bind (he2 prog w _ _ ?_)
        wp_walk
        exact stop hq
end Mine
end

/-! text B4 -/
section
open PySem PySem.W PyProof.Rows
set_option Elab.async false
set_option maxRecDepth 100000
namespace Mine
open AutoSeq1 (wpAny_loadPart')
open MeetsSeq MeetsSeq2 MeetsSeq3

set_option maxHeartbeats 4000000 in
theorem list_lt {β : Type} (c : β → β → Ordering) (l b : Addr) (items items2 : Array Value) (n n2 : Nat) (dd dd2 : Option Addr) (sl sl2 : Array (Option Value)) (xs ys : List β)
    (hx : items.size = xs.length) (hy : items2.size = ys.length) :
    Meets (Builtin.«list.__lt__» ⟨[.ref l, .ref b], []⟩)
      (fun A R s => s.heap.get? l = some { cls := .type "list", dict := dd, data := .seq items n, slots := sl } ∧ s.heap.get? b = some { cls := .type "list", dict := dd2, data := .seq items2 n2, slots := sl2 } ∧
        (∀ j (h1 : j < items.size) (h2 : j < items2.size), SeqAt.EqAt A.in1 s items[j] items2[j] (c (xs[j]'(hx ▸ h1)) (ys[j]'(hy ▸ h2)) == .eq) ∧ RcOp .Lt A.in1 s items[j] items2[j] (c (xs[j]'(hx ▸ h1)) (ys[j]'(hy ▸ h2)) == .lt)) ∧
        R (.ok (.ret (.bool (cmpL c xs ys == .lt)))) s) := by
  intro prog w A R s h
  obtain ⟨hp, g, d, tk, os⟩ := s; obtain ⟨hl, hb, he, h⟩ := h
  have f3 := AutoSeq1.sub_list_list
  wp_walk using wpAny_loadPart' hl, wpAny_loadPart' hb
  exact ⟨plainId_quiet plain_eq_loop _, codeAny_builtin entry_eq_loop (by
    rw [Around.under_plainId plain_eq_loop _]
    exact cmp_loop c l b items items2 n n2 dd dd2 sl sl2 xs ys hx hy .Lt 0 .lt (.inl ⟨rfl, rfl, rfl⟩) _ 0 rfl (Nat.zero_le _) prog w A R _ ⟨hl, hb, he, h⟩)⟩

set_option maxHeartbeats 4000000 in
theorem list_gt {β : Type} (c : β → β → Ordering) (l b : Addr) (items items2 : Array Value) (n n2 : Nat) (dd dd2 : Option Addr) (sl sl2 : Array (Option Value)) (xs ys : List β)
    (hx : items.size = xs.length) (hy : items2.size = ys.length) :
    Meets (Builtin.«list.__gt__» ⟨[.ref l, .ref b], []⟩)
      (fun A R s => s.heap.get? l = some { cls := .type "list", dict := dd, data := .seq items n, slots := sl } ∧ s.heap.get? b = some { cls := .type "list", dict := dd2, data := .seq items2 n2, slots := sl2 } ∧
        (∀ j (h1 : j < items.size) (h2 : j < items2.size), SeqAt.EqAt A.in1 s items[j] items2[j] (c (xs[j]'(hx ▸ h1)) (ys[j]'(hy ▸ h2)) == .eq) ∧ RcOp .Gt A.in1 s items[j] items2[j] (c (xs[j]'(hx ▸ h1)) (ys[j]'(hy ▸ h2)) == .gt)) ∧
        R (.ok (.ret (.bool (cmpL c xs ys == .gt)))) s) := by
  intro prog w A R s h
  obtain ⟨hp, g, d, tk, os⟩ := s; obtain ⟨hl, hb, he, h⟩ := h
  have f3 := AutoSeq1.sub_list_list
  wp_walk using wpAny_loadPart' hl, wpAny_loadPart' hb
  exact ⟨plainId_quiet plain_eq_loop _, codeAny_builtin entry_eq_loop (by
    rw [Around.under_plainId plain_eq_loop _]
    exact cmp_loop c l b items items2 n n2 dd dd2 sl sl2 xs ys hx hy .Gt 4 .gt (.inr ⟨rfl, rfl, rfl⟩) _ 0 rfl (Nat.zero_le _) prog w A R _ ⟨hl, hb, he, h⟩)⟩

/-- equality by places -/
theorem cmpL_eq_all {β : Type} (c : β → β → Ordering) : ∀ (xs ys : List β) (_ : xs.length = ys.length) (e : Nat → Bool),
    (∀ j (h1 : j < xs.length) (h2 : j < ys.length), e j = (c xs[j] ys[j] == .eq)) → (List.range xs.length).all e = (cmpL c xs ys == .eq)
  | [], [], _, _, _ => rfl
  | [], _ :: _, h, _, _ => by simp at h
  | _ :: _, [], h, _, _ => by simp at h
  | x :: xs, y :: ys, h, e, he => by
    have h0 := he 0 (by simp) (by simp)
    have ih := cmpL_eq_all c xs ys (by simpa using h) (fun j => e (j + 1)) fun j h1 h2 => by
      have := he (j + 1) (by simpa using h1) (by simpa using h2)
      simpa using this
    rw [List.length_cons, List.range_succ_eq_map, List.all_cons, List.all_map]
    have e2 : (List.range xs.length).all (e ∘ Nat.succ) = (List.range xs.length).all (fun j => e (j + 1)) := rfl
    rw [e2, ih, h0]
    simp only [List.getElem_cons_zero]
    cases hq : c x y <;> simp [cmpL, hq]

theorem OA.list {β : Type} {c : β → β → Ordering} {n : Nat} {s : Shared} {l b : Addr} {items items2 : Array Value} {xs ys : List β} (hl : s.heap.IsList l items) (hb : s.heap.IsList b items2)
    (hx : items.size = xs.length) (hy : items2.size = ys.length) (hrefl : l = b → cmpL c xs ys = .eq)
    (he : ∀ j (h1 : j < items.size) (h2 : j < items2.size), OA n s items[j] items2[j] (c (xs[j]'(hx ▸ h1)) (ys[j]'(hy ▸ h2)))) : OA (n + 1) s (.ref l) (.ref b) (cmpL c xs ys) := by
  intro A hu
  have hu1 : A.in1.units + n < cLine := by rw [Around.in1_units]; omega
  obtain ⟨⟨cls, dd, data, sl⟩, ho, hc, m, hd⟩ := id hl
  obtain ⟨⟨cls2, dd2, data2, sl2⟩, ho2, hc2, m2, hd2⟩ := id hb
  simp only at hc hd hc2 hd2
  subst hc hd hc2 hd2
  have e2 : ∀ hsz : items.size = items2.size, (List.range items.size).all (fun j => if h : j < items.size ∧ j < items2.size then c (xs[j]'(hx ▸ h.1)) (ys[j]'(hy ▸ h.2)) == .eq else true) = (cmpL c xs ys == .eq) := fun hsz => by
    have := cmpL_eq_all c xs ys (by omega) (fun j => if h : j < items.size ∧ j < items2.size then c (xs[j]'(hx ▸ h.1)) (ys[j]'(hy ▸ h.2)) == .eq else true) fun j h1 h2 => by
      have : j < items.size ∧ j < items2.size := ⟨by omega, by omega⟩
      simp [this]
    exact (congrArg (fun q => (List.range q).all _) hx).trans this
  have hne : items.size ≠ items2.size → cmpL c xs ys ≠ .eq := fun hne he => by
    have aux : ∀ (xs ys : List β), cmpL c xs ys = .eq → xs.length = ys.length := by
      intro xs
      induction xs with
      | nil => intro ys h; cases ys with | nil => rfl | cons _ _ => simp [cmpL] at h
      | cons x xs ih =>
        intro ys h
        cases ys with
        | nil => simp [cmpL] at h
        | cons y ys =>
          cases hq : c x y with
          | eq => simp [cmpL, hq] at h; simp [ih ys h]
          | lt => simp [cmpL, hq] at h
          | gt => simp [cmpL, hq] at h
    exact hne (by rw [hx, hy]; exact aux xs ys he)
  have hItems : items.size = items2.size → ∀ j (h1 : j < items.size) (h2 : j < items2.size), SeqAt.EqAt A.in1 s items[j] items2[j] (if h : j < items.size ∧ j < items2.size then c (xs[j]'(hx ▸ h.1)) (ys[j]'(hy ▸ h.2)) == .eq else true) := fun _ j h1 h2 => by
    have : j < items.size ∧ j < items2.size := ⟨h1, h2⟩
    rw [dif_pos this]; exact (he j h1 h2 A.in1 hu1).1
  have hEq : RcOp .Eq A s (.ref l) (.ref b) (cmpL c xs ys == .eq) := fun prog w E Q h => by
    by_cases hsz : items.size = items2.size
    · refine SeqAt.RcAt.lists hl hb hsz (by omega) (hItems hsz) prog w E Q ?_
      rw [e2 hsz]; exact h
    · refine SeqAt.RcAt.lists_lengths hl hb (by simp [hsz]) (by omega) prog w E Q ?_
      have : (cmpL c xs ys == .eq) = false := by
        have := hne hsz
        cases hq : cmpL c xs ys <;> first | rfl | exact absurd hq this
      rw [this] at h; exact h
  refine ⟨?_, hEq, fun prog w E Q h => ?_, fun prog w E Q h => ?_, fun prog w E Q h => ?_⟩
  · by_cases hlb : l = b
    · subst hlb
      have : (cmpL c xs ys == .eq) = true := by rw [hrefl rfl]; rfl
      rw [this]; exact SeqAt.EqAt.same _
    · exact SeqAt.EqAt.of_refs hlb hEq
  · by_cases hsz : items.size = items2.size
    · refine richCompare_meets_room (op := .NotEq) ⟨_, ho, rfl⟩ ⟨_, ho2, rfl⟩ F.slot_list_ne F.entry_list_ne (F.args_list_ne_2 _ _) (SeqAt.list_neAt l b items items2 m m2 dd dd2 sl sl2 hsz _)
        ⟨ho, ho2, hItems hsz, show Value.bool _ ≠ Value.notImplemented ∧ Q (.bool _) s from ⟨(fun x => nomatch x), ?_⟩⟩ (by omega)
      rw [e2 hsz]; exact h
    · refine richCompare_meets_room (op := .NotEq) ⟨_, ho, rfl⟩ ⟨_, ho2, rfl⟩ F.slot_list_ne F.entry_list_ne (F.args_list_ne_2 _ _) (SeqAt.list_ne_lengthsAt l b items items2 m m2 dd dd2 sl sl2 (by simp [hsz]))
        ⟨ho, ho2, show Value.bool _ ≠ Value.notImplemented ∧ Q (.bool _) s from ⟨(fun x => nomatch x), ?_⟩⟩ (by omega)
      have : (cmpL c xs ys != .eq) = true := by
        have := hne hsz
        cases hq : cmpL c xs ys <;> first | rfl | exact absurd hq this
      rw [this] at h; exact h
  · exact richCompare_meets_room (op := .Lt) ⟨_, ho, rfl⟩ ⟨_, ho2, rfl⟩ F.slot_list_lt F.entry_list_lt (F.args_list_lt_2 _ _) (list_lt c l b items items2 m m2 dd dd2 sl sl2 xs ys hx hy)
      ⟨ho, ho2, fun j h1 h2 => ⟨(he j h1 h2 A.in1 hu1).1, (he j h1 h2 A.in1 hu1).2.2.2.1⟩, show Value.bool _ ≠ Value.notImplemented ∧ Q (.bool _) s from ⟨(fun x => nomatch x), h⟩⟩ (by omega)
  · exact richCompare_meets_room (op := .Gt) ⟨_, ho, rfl⟩ ⟨_, ho2, rfl⟩ F.slot_list_gt F.entry_list_gt (F.args_list_gt_2 _ _) (list_gt c l b items items2 m m2 dd dd2 sl sl2 xs ys hx hy)
      ⟨ho, ho2, fun j h1 h2 => ⟨(he j h1 h2 A.in1 hu1).1, (he j h1 h2 A.in1 hu1).2.2.2.2⟩, show Value.bool _ ≠ Value.notImplemented ∧ Q (.bool _) s from ⟨(fun x => nomatch x), h⟩⟩ (by omega)

/-- a kind whose values have the order c, n floors deep -/
structure Ordd {β : Type} (R : Rel β) (c : β → β → Ordering) (n : Nat) : Prop where
  oa : ∀ {X Y : Addr → Prop} {s : Shared} {v u : Value} {x y : β}, R.r X s.heap v x → R.r Y s.heap u y → OA n s v u (c x y)
  fn : ∀ {X Y : Addr → Prop} {h : Heap} {v : Value} {x y : β}, R.r X h v x → R.r Y h v y → x = y
  refl : ∀ x, c x x = .eq

theorem cmpL_refl {β : Type} {c : β → β → Ordering} (h : ∀ x, c x x = .eq) : ∀ xs : List β, cmpL c xs xs = .eq
  | [] => rfl
  | x :: xs => by simp [cmpL, h x, cmpL_refl h xs]

theorem ordS : Ordd rS c0 0 where
  oa := by rintro X Y s v u x y ⟨t, rfl⟩ ⟨t', rfl⟩; exact OA.str
  fn := by
    rintro X Y h v x y ⟨t, rfl⟩ ⟨t', e⟩
    injection e with e1 _
    have := congrArg (fun z : Str => z.cps.toList) e1
    simpa using this
  refl := fun x => by have := c0_eq x x; simpa using this

theorem pinj {β : Type} {F G : Value → β → Prop} (h : ∀ v x y, F v x → G v y → x = y) : ∀ {vs : List Value} {xs ys : List β}, Paired F vs xs → Paired G vs ys → xs = ys
  | _, _, _, .nil, .nil => rfl
  | _, _, _, .cons a t, .cons b t' => by rw [h _ _ _ a b, pinj h t t']

theorem ordL {β : Type} {R : Rel β} {c : β → β → Ordering} {n : Nat} (O : Ordd R c n) : Ordd (rL R) (cmpL c) (n + 1) where
  oa := by
    rintro X Y s v u xs ys ⟨a, items, rfl, _, hl, hp⟩ ⟨b, items2, rfl, _, hb, hq⟩
    have hx : items.size = xs.length := by have := hp.length; simpa using this
    have hy : items2.size = ys.length := by have := hq.length; simpa using this
    refine OA.list hl.isList hb.isList hx hy (fun hab => ?_) fun j h1 h2 => ?_
    · subst hab
      obtain ⟨o, n1, ho, hc, _, hd⟩ := hl
      obtain ⟨o', n2, ho', hc', _, hd'⟩ := hb
      rw [ho] at ho'; cases ho'
      rw [hd] at hd'; cases hd'
      have : xs = ys := pinj (F := R.r X s.heap) (G := R.r Y s.heap) (fun v x y a b => O.fn a b) hp hq
      rw [this]; exact cmpL_refl O.refl ys
    · have h1' := pget hp j (by simpa using h1) (by rw [← hx]; exact h1)
      have h2' := pget hq j (by simpa using h2) (by rw [← hy]; exact h2)
      rw [Array.getElem_toList] at h1' h2'
      exact O.oa h1' h2'
  fn := by
    rintro X Y h v xs ys ⟨a, items, rfl, _, hl, hp⟩ ⟨b, items2, e, _, hb, hq⟩
    cases e
    obtain ⟨o, n1, ho, hc, _, hd⟩ := hl
    obtain ⟨o', n2, ho', hc', _, hd'⟩ := hb
    rw [ho] at ho'; cases ho'
    rw [hd] at hd'; cases hd'
    exact pinj (F := R.r X h) (G := R.r Y h) (fun v x y a b => O.fn a b) hp hq
  refl := fun xs => cmpL_refl O.refl xs
end Mine
end

/-! text C1 -/
section
open PySem PySem.W PyProof.Rows
set_option Elab.async false
set_option maxRecDepth 100000
namespace Mine

def oI : Ordering → Int
  | .lt => -1
  | .eq => 0
  | .gt => 1

section
variable {prog : Program} {w : World} {A : Around} {s : Shared}
theorem cmp_op {E : Value → Shared → Prop} {β : Type} {R : Rel β} {c : β → β → Ordering} {n : Nat} (O : Ordd R c n) (hu : A.units + n < cLine) {X Y : Addr → Prop} {v u : Value} {x y : β} (hv : R.r X s.heap v x) (hy : R.r Y s.heap u y) {Q : Value → Shared → Prop} :
    (Q (.bool (c x y == .gt)) s → wpAny (model prog w) A (compareOp .Gt v u) Q E s) ∧ (Q (.bool (c x y == .lt)) s → wpAny (model prog w) A (compareOp .Lt v u) Q E s) ∧
    (Q (.bool (c x y == .eq)) s → wpAny (model prog w) A (compareOp .Eq v u) Q E s) ∧ (Q (.bool (c x y != .eq)) s → wpAny (model prog w) A (compareOp .NotEq v u) Q E s) := by
  obtain ⟨_, h2, h3, h4, h5⟩ := O.oa hv hy A hu
  exact ⟨fun q => cmp_ofGt (h5 prog w E Q q), fun q => cmp_ofLt (h4 prog w E Q q), fun q => cmp_ofEq (h2 prog w E Q q), fun q => cmp_ofNotEq (h3 prog w E Q q)⟩

theorem con_cmp {a : Addr} {β : Type} {R : Rel β} {c : β → β → Ordering} {n : Nat} (O : Ordd R c n) (hn : n ≤ 100) (r : Rm 1 A) (hf : isFun s.heap 2 a) (hlim : s.heap.NoLimit) {X Y : Addr → Prop} {v u : Value} {x y : β}
    (hv : R.r X s.heap v x) (hu : R.r Y s.heap u y) : Ev prog w A (call (.ref a) [v, u]) s (fun z _ => ∃ t, z = .int (oI (c x y)) t) := by
  refine callF (k := 2) (binds := [("x", v), ("y", u)]) (by have := r.depth; omega) hf hlim (fun _ _ _ => rfl) (locs rfl) (fun h₁ cd F => ?_) rfl rfl rfl (by decide)
  have hv₁ := R.ext hv F.keep
  have hu₁ := R.ext hu F.keep
  have r' := r.deeper (envOf (fR 2).name (fR 2).scope s.heap.objs.size a cd)
  refine wpAny_execs_cons (wpAny_Return_some (wpAny_BinOp (wpAny_Compare1 (ldl F.ns rfl (ldl F.ns rfl ?_)))))
  refine (cmp_op O (by have := r'.units; omega) hv₁ hu₁).1 ?_
  refine wpAny_Compare1 (ldl F.ns rfl (ldl F.ns rfl ?_))
  refine (cmp_op O (by have := r'.units; omega) hv₁ hu₁).2.1 ?_
  refine sub_bool ⟨kOf F.keep, ?_⟩
  refine ⟨_, congrArg (fun q => Value.int q _) ?_⟩
  cases c x y <;> rfl
end
end Mine
end

/-! text B5 -/
section
open PySem PySem.W PyProof.Rows
set_option Elab.async false
set_option maxRecDepth 100000
namespace Mine

/-- a source that is walked: n items, the i-th is P i; src: what it reads -/
def SrcF (prog : Program) (w : World) (A : Around) (xv : Value) (s₁ : Shared) (n : Nat) (P : Nat → Value → Prop) (src : List Addr) : Prop :=
  ∀ (Q : Value → Shared → Prop) (E : Value → Shared → Prop), (∀ (I : Addr) (h₂ : Heap) (St : Nat → Heap → Prop) (fp : List Addr), Ext s₁.heap h₂ → s₁.heap.get? I = none → (∀ b ∈ fp, b < h₂.objs.size) → (∀ b ∈ fp, b = I ∨ b ∈ src) →
    Walks prog w A I fp [I] n P St → (∀ i h, St i h → ∃ o, h.get? I = some o) → St 0 h₂ → Q (.ref I) { s₁ with heap := h₂ }) → wpAny (model prog w) A (pyIter xv) Q E s₁
def Src (prog : Program) (w : World) (A : Around) (xv : Value) (s₁ : Shared) (n : Nat) (P : Nat → Value → Prop) : Prop := ∃ src, SrcF prog w A xv s₁ n P src

theorem ltSz {h : Heap} {a : Addr} {o : Obj} (e : h.get? a = some o) : @LT.lt Nat instLTNat a h.objs.size := Heap.lt_size e
theorem get_none_size (h : Heap) : h.get? h.objs.size = none := Heap.get?_none_of_le (Nat.le_refl _)
theorem push_ext (h : Heap) (o : Obj) : Ext h (h.push o) := fun _ _ e => Heap.get?_push_of_some _ e

theorem Walks.imp {prog : Program} {w : World} {A : Around} {I : Addr} {fp wr : List Addr} {n : Nat} {P P' : Nat → Value → Prop} {St : Nat → Heap → Prop} (W : Walks prog w A I fp wr n P St) (k : ∀ i v, i < n → P i v → P' i v) :
    Walks prog w A I fp wr n P' St where
  sub := W.sub
  frame := W.frame
  item := fun i s Q E hi st hQ => W.item i s Q E hi st fun v h' tk hP => hQ v h' tk (k i v hi hP)
  done := W.done
  self := W.self

section
variable {prog : Program} {w : World} {A : Around} {s : Shared}
theorem SrcF.imp {xv : Value} {n : Nat} {P P' : Nat → Value → Prop} {src : List Addr} (S : SrcF prog w A xv s n P src) (k : ∀ i v, i < n → P i v → P' i v) : SrcF prog w A xv s n P' src :=
  fun Q E h => S Q E fun I h₂ St fp e n1 n2 n3 W lv st => h I h₂ St fp e n1 n2 n3 (Mine.Walks.imp W k) lv st
theorem SrcF.cast {xv : Value} {n n' : Nat} {P : Nat → Value → Prop} {src : List Addr} (e : n = n') (S : SrcF prog w A xv s n P src) : SrcF prog w A xv s n' P src := e ▸ S

theorem SrcF.ofList {l : Addr} {items : Array Value} (hh : A.handled = none) (hl : s.heap.IsList l items) : SrcF prog w A (.ref l) s items.size (fun i v => items[i]? = some v) [l] := by
  intro Q E h
  have hlt : l < s.heap.objs.size := by obtain ⟨_, e, _⟩ := hl; exact Heap.lt_size e
  refine wpAny_pyIter_list hl ?_
  refine h s.heap.objs.size _ _ _ (push_ext _ _) (get_none_size _) (fun b hb => ?_) (fun b hb => by simpa using hb) (Walks.list hh s.heap.objs.size l (Nat.ne_of_lt hlt) items) (fun i h st => by obtain ⟨o, e, _⟩ := st.1; exact ⟨o, e⟩) ⟨⟨_, Heap.get?_push_size _ rfl, rfl, rfl⟩, hl.push _⟩
  rw [Heap.size_push]
  rcases List.mem_cons.mp hb with rfl | hb
  · exact Nat.lt_succ_self _
  · rw [List.mem_singleton.mp hb]; exact Nat.lt_succ_of_lt hlt

theorem Src.ofL {β : Type} {R : Rel β} {X : Addr → Prop} {v : Value} {xs : List β} (hh : A.handled = none) (hv : (rL R).r X s.heap v xs) :
    Src prog w A v s xs.length (fun i u => ∀ h : i < xs.length, R.r Any s.heap u xs[i]) := by
  obtain ⟨a, items, rfl, _, hl, hp⟩ := hv
  have hlen : items.size = xs.length := by have := hp.length; simpa using this
  have S := SrcF.ofList (prog := prog) (w := w) hh hl.isList
  rw [hlen] at S
  refine ⟨_, S.imp fun i u hi hu h => ?_⟩
  have := pget hp i (by simpa [hlen] using hi) h
  obtain ⟨h1, rfl⟩ := Array.getElem?_eq_some_iff.mp hu
  rw [Array.getElem_toList] at this
  exact R.any this

theorem SrcF.ofStr {x : List Nat} {t : Tok} (hh : A.handled = none) : SrcF prog w A (.str (mkS x) t) s x.length (fun i u => ∀ h : i < x.length, rS.r Any s.heap u [x[i]]) [] := by
  intro Q E h
  have sz : (mkS x).cps.size = x.length := by simp
  have conv : ∀ i u, i < (mkS x).cps.size → SignAt (mkS x) i u → ∀ h : i < x.length, rS.r Any s.heap u [x[i]] := by
    rintro i u hi ⟨c, t', hc, rfl⟩ h
    have : x[i] = c := by
      have h2 : x[i]? = some c := by simpa using hc
      rw [List.getElem?_eq_getElem h] at h2; exact Option.some.inj h2
    exact ⟨t', by rw [this]⟩
  have one : ∀ b ∈ [s.heap.objs.size], ∀ o, b < (s.heap.push o).objs.size := fun b hb o => by rw [List.mem_singleton.mp hb, Heap.size_push]; exact Nat.lt_succ_self _
  cases ha : (mkS x).cps.all (· < 128)
  · refine wpAny_pyIter_wide ha ?_
    have W := Mine.Walks.imp (Walks.strWide (prog := prog) (w := w) (A := A) hh s.heap.objs.size (mkS x) t) conv
    rw [sz] at W
    exact h _ _ _ _ (push_ext _ _) (get_none_size _) (fun b hb => one b hb _) (fun b hb => by simpa using hb) W (fun i h st => by obtain ⟨o, e, _⟩ := st; exact ⟨o, e⟩) ⟨_, Heap.get?_push_size _ rfl, rfl, rfl⟩
  · refine wpAny_pyIter_ascii ha ?_
    have W := Mine.Walks.imp (Walks.strAscii (prog := prog) (w := w) (A := A) hh s.heap.objs.size (mkS x) t) conv
    rw [sz] at W
    exact h _ _ _ _ (push_ext _ _) (get_none_size _) (fun b hb => one b hb _) (fun b hb => by simpa using hb) W (fun i h st => by obtain ⟨o, e, _⟩ := st; exact ⟨o, e⟩) ⟨_, Heap.get?_push_size _ rfl, rfl, rfl⟩

theorem SrcF.ofRange {r : Addr} {a : Int} {n : Nat} {t u v : Tok} (hh : A.handled = none) (hr : IsRange s.heap r a (a + n) 1 t u v) (hs : Builtin.Range.small a (a + n) 1 = true) :
    SrcF prog w A (.ref r) s n (fun i u => ∃ t, u = .int (a + i) t) [] := by
  intro Q E h
  have hn : Builtin.Range.rangeSize a (a + n) 1 = (n : Int) := by
    unfold Builtin.Range.rangeSize
    rw [if_pos (by decide)]
    by_cases hn : a < a + n
    · rw [if_pos hn, Int.ediv_one]; omega
    · rw [if_neg hn]; omega
  refine wpAny_pyIter_range hr hs ?_
  rw [hn]
  refine h s.heap.objs.size _ _ _ (push_ext _ _) (get_none_size _) (fun b hb => by rw [List.mem_singleton.mp hb, Heap.size_push]; exact Nat.lt_succ_self _) (fun b hb => by simpa using hb)
    (Mine.Walks.imp (Walks.range hh s.heap.objs.size a 1 n) fun i u _ ⟨t, e⟩ => ⟨t, by rw [e]; simp⟩) (fun i h st => ⟨_, st⟩) ?_
  show IsRangeIter _ _ _ _ _
  have : (s.heap.push { cls := .type "range_iterator", data := .fields #[rawInt a, rawInt n, rawInt 1] }).get? s.heap.objs.size = some _ := Heap.get?_push_size _ rfl
  simpa using this
end

section
variable {prog : Program} {w : World} {A : Around} {s : Shared} {env : Env} {β γ : Type}

abbrev testsT (ifs : List Expr) (cenv : Env) : Sem Bool := forIn ifs true fun c r => if r = true then do let ok ← isTrue c cenv (eval c cenv); pure (ForInStep.yield ok) else pure (ForInStep.yield r)

/-- what the element and the tests of a comprehension must do -/
structure CompOk (prog : Program) (w : World) (A : Around) (env : Env) (scope : Scope) (cl : List (Str × Addr)) (x : Str) (ifs : List Expr) (elt : Expr) (RI : Rel β) (R : Rel γ) (xs : List β) (p : β → Bool) (f : β → γ) (h₁ : Heap) : Prop where
  tests : ∀ y ∈ xs, ∀ (C : Addr) (v : Value) (s₂ : Shared) (m₂ : Str → Option Value), Ext h₁ s₂.heap → RI.r Any s₂.heap v y → s₂.heap.Ns C m₂ → m₂ x = some v →
    Ev prog w A (testsT ifs (compEnvC scope cl C env)) s₂ (fun ok _ => ok = p y)
  elt : ∀ y ∈ xs, p y = true → ∀ (C : Addr) (v : Value) (s₂ : Shared) (m₂ : Str → Option Value), Ext h₁ s₂.heap → RI.r Any s₂.heap v y → s₂.heap.Ns C m₂ → m₂ x = some v →
    Ev prog w A (eval elt (compEnvC scope cl C env)) s₂ (fun z s₃ => R.r (New s₂.heap) s₃.heap z (f y))

theorem comp_block {elt iter : Expr} {x : Str} {px : Pos} {ifs : List Expr} {scope : Scope} {cl : List (Str × Addr)} {pos : Pos} {s₂ : Shared} {I : Addr} {fp : List Addr} {P : Nat → Value → Prop} {St : Nat → Heap → Prop} {h₁ : Heap} {E : Value → Shared → Prop}
    {RI : Rel β} {R : Rel γ} {xs : List β} {p : β → Bool} {f : β → γ}
    (W : Walks prog w A I fp [I] xs.length P St) (hsz : xs.length ≤ sizeLine) {RR : Value → Addr → Result → Shared → Prop} (hlive : ∀ i h, St i h → ∃ o, h.get? I = some o)
    (hcell : ∀ y ∈ scope.names, y.2 ≠ .cell) (hkind : scope.kind = .function) (hx : scope.names.lookup x = some .local) (hst : St 0 s₂.heap) (hfp : ∀ b ∈ fp, b < s₂.heap.objs.size)
    (e12 : Ext h₁ s₂.heap) (hI : h₁.get? I = none) (hP : ∀ i v, P i v → ∀ hi : i < xs.length, RI.r Any h₁ v xs[i])
    (ok : CompOk prog w A env scope cl x ifs elt RI R xs p f h₁)
    (hRR : ∀ D C h' tk m', h₁.get? D = none → h₁.get? C = none → D ≠ C → h'.Ns C m' → (rL R).r (fun a => h₁.get? a = none ∧ a ≠ C) h' (.ref D) ((xs.filter p).map f) → Ext h₁ h' → RR (.ref D) C (.ok .next) { s₂ with heap := h', toks := tk }) :
    wpAny (model prog w) A (newList []) (fun acc s₃ => wpAny (model prog w) A (newFunctionEnv scope env.globals cl [] env.qual none .none (some env)) (fun cenv s₄ =>
      codeAny (model prog w) A (.compStart (.ListComp elt [⟨.Name x px, iter, ifs, 0⟩] scope pos) 0 (.ref I) acc { cenv with scope := relabel scope env }) (RR acc cenv.locals) s₄) E s₃) E s₂ := by
  refine wpAny_newObj_type (wpAny_newFunctionEnv hcell (by intro y hy; simp at hy) (fun h₃ hns₁ hsb₁ => ?_) hkind)
  dsimp only at hns₁ hsb₁ ⊢
  generalize hH2 : s₂.heap.push { cls := .type "list", dict := none, data := .seq ([] : List Value).toArray } = H2 at hns₁ hsb₁ ⊢
  generalize hDv : s₂.heap.objs.size = D at *
  have hCs : H2.objs.size = D + 1 := by rw [← hH2, Heap.size_push, hDv]
  generalize hCv : H2.objs.size = C at *
  have hDC : D ≠ C := by omega
  have hIo : ∃ o, s₂.heap.get? I = some o := hlive _ _ hst
  have hIlt : @LT.lt Nat instLTNat I D := by obtain ⟨o, e⟩ := hIo; have := ltSz e; omega
  have below : ∀ b : Nat, b < D → b ≠ C ∧ b ≠ D := fun b hb => ⟨by omega, by omega⟩
  have hDf : D ∉ fp := fun hm => by have h : @LT.lt Nat instLTNat D s₂.heap.objs.size := hDv ▸ hfp _ hm; omega
  have hCf : C ∉ fp := fun hm => by have h : @LT.lt Nat instLTNat C s₂.heap.objs.size := hDv ▸ hfp _ hm; omega
  have old : ∀ b o, s₂.heap.get? b = some o → h₃.get? b = some o := fun b o e =>
    hsb₁.extBut b o (below b (by have := ltSz e; omega)).1 (Heap.get?_push_of_some _ (hH2 ▸ Heap.get?_push_of_some _ e))
  have hD1 : h₁.get? D = none := by
    cases e : h₁.get? D with
    | none => rfl
    | some o => have := ltSz (e12 _ _ e); omega
  have hC1 : h₁.get? C = none := by
    cases e : h₁.get? C with
    | none => rfl
    | some o => have := ltSz (e12 _ _ e); omega
  have hDo : H2.get? D = some { cls := .type "list", dict := none, data := .seq ([] : List Value).toArray } := by rw [← hH2, ← hDv]; exact Heap.get?_push_size _ rfl
  have hacc : PlainL h₃ D #[] := ⟨_, _, hsb₁.extBut _ _ hDC (Heap.get?_push_of_some _ hDo), rfl, rfl, rfl⟩
  have hst₁ : St 0 h₃ := W.frame _ _ _ hst fun b _ o e => old b o e
  have notW : ∀ b o, h₁.get? b = some o → b ≠ I ∧ b ≠ C ∧ b ≠ D := fun b o e =>
    ⟨(fun q => by rw [q, hI] at e; cases e), (fun q => by rw [q, hC1] at e; cases e), (fun q => by rw [q, hD1] at e; cases e)⟩
  have loop : ∀ s₃ : Shared, s₃ = { s₂ with heap := h₃, toks := s₂.toks + ([] : List (Str × Value)).length } →
      codeAny (model prog w) A (.compLoop (.ListComp elt [⟨.Name x px, iter, ifs, 0⟩] scope pos) 0 (.ref I) (.ref D) (compEnvC scope cl C env)) (RR (.ref D) C) s₃ := by
    rintro s₃ rfl
    refine codeAny_compLoop_tests
      (fun k s' => ∃ h' tk m' ys i, s' = { s₂ with heap := h', toks := tk } ∧ i ≤ xs.length ∧ k = xs.length + 1 - i ∧ St i h' ∧ PlainL h' D ys ∧ h'.Ns C m' ∧
        Paired (R.r (fun a => h₁.get? a = none ∧ a ≠ C ∧ a ≠ D ∧ a ≠ I) h') ys.toList (((xs.take i).filter p).map f) ∧ Ext h₁ h') ?_ (xs.length + 1)
      ⟨h₃, _, _, #[], 0, rfl, Nat.zero_le _, rfl, hst₁, hacc, hns₁, by simpa using Paired.nil, e12.trans old⟩
    rintro k s' ⟨H, tk, m', ys, i, rfl, hi, rfl, hst', hacc', hn', hF, hk⟩
    have hIC : I ≠ C := neN (by omega)
    by_cases hlt : i < xs.length
    · refine W.item i _ _ _ hlt hst' fun v H1 tk₁ hPv hst₁' hk₁ => ?_
      refine wpAny_assign_Name (wpAny_storeName_local (env := compEnvC scope cl C env) (lookup_relabel_local hx) (hn'.at' fun o e => hk₁ _ o (by simpa using Ne.symm hIC) e) (fun H2' hn₂ hs₂ => ?_) (by simp [compEnvC, relabel, hkind]))
      have hn₂ : H2'.Ns C _ := hn₂
      have hs₂ : Heap.SameBut C H1 H2' := hs₂
      have up₂ : ∀ b o, b ≠ C → b ≠ I → H.get? b = some o → H2'.get? b = some o := fun b o hbC hbI e => hs₂.extBut b o hbC (hk₁ b o (by simpa using hbI) e)
      have hst₂ : St (i + 1) H2' := W.frame _ _ _ hst₁' fun b hb o e => hs₂.extBut b o (fun h => hCf (h ▸ hb)) e
      have hk₂ : Ext h₁ H2' := fun b o e => up₂ b o (notW b o e).2.1 (notW b o e).1 (hk b o e)
      have hv₂ : RI.r Any H2' v xs[i] := RI.ext (hP i v hPv hlt) hk₂
      refine (ok.tests xs[i] (List.getElem_mem hlt) C v { s₂ with heap := H2', toks := tk₁ + 1 } _ hk₂ hv₂ hn₂ (by simp)).use fun okb s₃ hK hb => ?_
      obtain ⟨h₃', tk₃, rfl, hk₃⟩ := hK
      have hk₃ : Ext H2' h₃' := hk₃
      have hst₃ : St (i + 1) h₃' := W.frame _ _ _ hst₂ fun b _ o e => hk₃ b o e
      have hacc₃ : PlainL h₃' D ys := PlainL.at hacc' fun o e => hk₃ _ o (up₂ D o hDC (neN (by omega)) e)
      have hn₃ := Heap.Ns.keeps hn₂ hk₃
      have hk₃' : Ext h₁ h₃' := hk₂.trans hk₃
      have hF₃ : Paired (R.r (fun a => h₁.get? a = none ∧ a ≠ C ∧ a ≠ D ∧ a ≠ I) h₃') ys.toList (((xs.take i).filter p).map f) := Paired.mono (fun u z hz => R.stab hz fun b o hb e => ⟨hb, hk₃ b o (up₂ b o hb.2.1 hb.2.2.2 e)⟩) hF
      have htake : (xs.take (i + 1)).filter p = (xs.take i).filter p ++ (if p xs[i] then [xs[i]] else []) := take_succ_filter p _ i xs[i] (List.getElem?_eq_getElem hlt)
      subst hb
      cases hpv : p xs[i] with
      | false =>
        simp only [Bool.false_eq_true, if_false]
        refine ⟨xs.length + 1 - (i + 1), by omega, h₃', tk₃, _, ys, i + 1, rfl, hlt, rfl, hst₃, hacc₃, hn₃, ?_, hk₃'⟩
        rw [htake, hpv]; simpa using hF₃
      | true =>
        simp only [if_true]
        refine (ok.elt xs[i] (List.getElem_mem hlt) hpv C v { s₂ with heap := h₃', toks := tk₃ } _ hk₃' (RI.ext hv₂ hk₃) hn₃ (by simp)).use fun z s₄ hK hz => ?_
        obtain ⟨h₄, tk₄, rfl, hk₄⟩ := hK
        have hk₄ : Ext h₃' h₄ := hk₄
        have hz : R.r (New h₃') h₄ z (f xs[i]) := hz
        have hys : ys.size ≤ sizeLine := by
          have e1 := hF.length
          have e2 : ((xs.take i).filter p).length ≤ (xs.take i).length := List.length_filter_le _ _
          have e3 : (xs.take i).length ≤ xs.length := by rw [List.length_take]; omega
          have e4 : ys.toList.length = ys.size := by simp
          rw [List.length_map] at e1
          omega
        refine list_append_plainL (hsz := hys) (PlainL.at hacc₃ fun o e => hk₄ _ o e) fun h₅ hl₅ hs₅ => ?_
        have hk₅ : ∀ b o, b ≠ D → h₄.get? b = some o → h₅.get? b = some o := fun b o hb e => hs₅.extBut b o hb e
        refine ⟨xs.length + 1 - (i + 1), by omega, h₅, tk₄, _, ys.push z, i + 1, rfl, hlt, rfl, ?_, hl₅, (Heap.Ns.keeps hn₃ hk₄).sameBut hs₅ (Ne.symm hDC), ?_, fun b o e => hk₅ b o (notW b o e).2.2 (hk₄ b o (hk₃' b o e))⟩
        · exact W.frame _ _ h₅ hst₃ fun b hb o e => hk₅ b o (fun h => hDf (h ▸ hb)) (hk₄ b o e)
        · rw [htake, hpv]
          simp only [if_true, List.map_append, List.map_cons, List.map_nil, Array.toList_push]
          refine papp (Paired.mono (fun u z hz => R.stab hz fun b o hb e => ⟨hb, hk₅ b o hb.2.2.1 (hk₄ b o e)⟩) hF₃) (.cons (R.stab hz fun b o hb e => ⟨⟨?_, ?_, ?_, ?_⟩, hk₅ b o ?_ e⟩) .nil)
          · have hb' : h₃'.get? b = none := hb
            cases q : h₁.get? b with
            | none => rfl
            | some o' => rw [hk₃' _ _ q] at hb'; cases hb'
          · rintro rfl; obtain ⟨o', _, _, ho', _⟩ := hn₃; have hb' : h₃'.get? b = none := hb; rw [hb'] at ho'; cases ho'
          · rintro rfl; obtain ⟨o', _, ho', _⟩ := hacc₃; have hb' : h₃'.get? b = none := hb; rw [hb'] at ho'; cases ho'
          · rintro rfl; obtain ⟨o', ho'⟩ := hlive _ _ hst₃; have hb' : h₃'.get? b = none := hb; rw [hb'] at ho'; cases ho'
          · rintro rfl; obtain ⟨o', _, ho', _⟩ := hacc₃; have hb' : h₃'.get? b = none := hb; rw [hb'] at ho'; cases ho'
    · have hin : i = xs.length := by omega
      subst hin
      refine W.done _ _ _ hst' fun H1 tk₁ hk₁ => ?_
      have hk₁' : ∀ b o, b ≠ I → H.get? b = some o → H1.get? b = some o := fun b o hb e => hk₁ b o (by simpa using hb) e
      refine hRR D C H1 tk₁ m' hD1 hC1 hDC (hn'.at' fun o e => hk₁' _ o (Ne.symm hIC) e) ⟨D, ys, rfl, ⟨hD1, hDC⟩, (PlainL.at hacc' fun o e => (hk₁' _ o (neN (by omega)) e)), ?_⟩ fun b o e => hk₁' b o (notW b o e).1 (hk b o e)
      rw [List.take_length] at hF
      exact Paired.mono (fun u z hz => R.stab hz fun b o hb e => ⟨⟨hb.1, hb.2.1⟩, hk₁' b o hb.2.2.2 e⟩) hF
  exact codeAny_compStart_list (loop _ rfl) (W.self 0 _ _ _ hst₁ (loop _ rfl))
end
end Mine
end

/-! text B6 -/
section
open PySem PySem.W PyProof.Rows
set_option Elab.async false
set_option maxRecDepth 100000
namespace Mine

section
variable {prog : Program} {w : World} {A : Around} {s : Shared} {env : Env} {β γ : Type}

theorem CompOk.up {scope : Scope} {cl : List (Str × Addr)} {x : Str} {ifs : List Expr} {elt : Expr} {RI : Rel β} {R : Rel γ} {xs : List β} {p : β → Bool} {f : β → γ} {h₁ h₂ : Heap}
    (ok : CompOk prog w A env scope cl x ifs elt RI R xs p f h₁) (e : Ext h₁ h₂) : CompOk prog w A env scope cl x ifs elt RI R xs p f h₂ where
  tests := fun y hy C v s₂ m₂ e' => ok.tests y hy C v s₂ m₂ (e.trans e')
  elt := fun y hy hp C v s₂ m₂ e' => ok.elt y hy hp C v s₂ m₂ (e.trans e')

theorem comp_val {elt iter : Expr} {x : Str} {px : Pos} {ifs : List Expr} {scope : Scope} {cl : List (Str × Addr)} {pos : Pos} {RI : Rel β} {R : Rel γ} {xs : List β} {p : β → Bool} {f : β → γ}
    (hclos : closureFor scope env = pure cl) (hcell : ∀ y ∈ scope.names, y.2 ≠ .cell) (hkind : scope.kind = .function)
    (hnames : ∀ y ∈ scope.names, y.2 = .local → scope.names.lookup y.1 = some .local) (hx : scope.names.lookup x = some .local)
    (hit : Ev prog w A (eval iter env) s (fun xv s₁ => Src prog w A xv s₁ xs.length (fun i v => ∀ hi : i < xs.length, RI.r Any s₁.heap v xs[i])))
    (ok : CompOk prog w A env scope cl x ifs elt RI R xs p f s.heap) (hsz : xs.length ≤ sizeLine)
    (hs : ∀ x, foldedSetIterable iter env x = pure x := by intro _; rfl) :
    Ev prog w A (eval (.ListComp elt [⟨.Name x px, iter, ifs, 0⟩] scope pos) env) s (fun z s' => (rL R).r (New s.heap) s'.heap z ((xs.filter p).map f)) := by
  intro E
  rw [eval_ListComp]
  refine wpAny_comprehension_free (use := none) rfl hs hclos hkind hnames (hit.use fun xv s₁ hK S => ?_)
  obtain ⟨h₁, tk₁, rfl, e₁⟩ := hK
  have e₁ : Ext s.heap h₁ := e₁
  obtain ⟨src, S⟩ := S
  refine S _ _ fun I h₂ St fp e12 hI hfp _ W hlive hst => ?_
  have e12 : Ext h₁ h₂ := e12
  refine comp_block (s₂ := { s with heap := h₂, toks := tk₁ }) (h₁ := h₁) (RR := fun acc C => compPost (model prog w) A E none _ acc C) W hsz hlive hcell hkind hx hst hfp e12 hI (fun i v h => h) (ok.up e₁) ?_
  intro D C h' tk m' hD hC hDC hn hl he
  refine ⟨m', hn, fun h'' hs'' => ⟨kOf fun b o e => hs''.extBut b o ?_ (he b o (e₁ b o e)), (rL R).older ((rL R).stab hl fun b o hb e => ⟨hb.1, hs''.extBut b o hb.2 e⟩) e₁⟩⟩
  rintro rfl
  rw [e₁ _ _ e] at hC; cases hC

theorem comp_assign {elt iter : Expr} {x y : Str} {px py : Pos} {ifs : List Expr} {scope : Scope} {cl : List (Str × Addr)} {pos spos : Pos} {RI : Rel β} {R : Rel γ} {xs : List β} {p : β → Bool} {f : β → γ} {m : Str → Option Value} {Q : Flow → Shared → Prop} {E : Value → Shared → Prop}
    (hsw : swapsWith (.ListComp elt [⟨.Name x px, iter, ifs, 0⟩] scope pos) (some (.Name y py)) spos.line env = pure true)
    (hclos : closureFor scope env = pure cl) (hcell : ∀ y ∈ scope.names, y.2 ≠ .cell) (hkind : scope.kind = .function)
    (hnames : ∀ y ∈ scope.names, y.2 = .local → scope.names.lookup y.1 = some .local) (hx : scope.names.lookup x = some .local)
    (hy : env.kindOf y = some .local) (hp : (env.scope.kind == .class || (env.scope.kind == .module && env.locals != env.globals)) = false) (hn : s.heap.Ns env.locals m)
    (hit : Ev prog w A (eval iter env) s (fun xv s₁ => Src prog w A xv s₁ xs.length (fun i v => ∀ hi : i < xs.length, RI.r Any s₁.heap v xs[i])))
    (ok : CompOk prog w A env scope cl x ifs elt RI R xs p f s.heap) (hsz : xs.length ≤ sizeLine)
    (k : ∀ D h' tk, h'.Ns env.locals (fun z => if z = y then some (.ref D) else m z) → (rL R).r (New s.heap) h' (.ref D) ((xs.filter p).map f) → (∀ b o, b ≠ env.locals → s.heap.get? b = some o → h'.get? b = some o) → Q .next { s with heap := h', toks := tk })
    (hs : ∀ x, foldedSetIterable iter env x = pure x := by intro _; rfl) :
    wpAny (model prog w) A (exec (.Assign [.Name y py] (.ListComp elt [⟨.Name x px, iter, ifs, 0⟩] scope pos) spos) env) Q E s := by
  rw [exec_Assign_Name_used _ _ _ _ hsw]
  refine wpAny_bind (wpAny_standAt (wpAny_bind ?_))
  show wpAny _ A (do let _ ← comprehension (.ListComp elt [⟨.Name x px, iter, ifs, 0⟩] scope pos) scope env _ (newList []) false (eval iter env) (some (assign (.Name y py) env))) _ _ s
  refine wpAny_bind (wpAny_mono (wpAny_comprehension_free (use := some (assign (.Name y py) env)) (Q := fun _ s' => Q .next s') rfl hs hclos hkind hnames (hit.use fun xv s₁ hK S => ?_)) (fun _ s' hq => wpAny_pure (wpAny_pure hq)) fun _ _ e => e)
  obtain ⟨h₁, tk₁, rfl, e₁⟩ := hK
  have e₁ : Ext s.heap h₁ := e₁
  obtain ⟨src, S⟩ := S
  refine S _ _ fun I h₂ St fp e12 hI hfp _ W hlive hst => ?_
  have e12 : Ext h₁ h₂ := e12
  refine comp_block (s₂ := { s with heap := h₂, toks := tk₁ }) (h₁ := h₁) (RR := fun acc C => compPost (model prog w) A E (some (assign (.Name y py) env)) _ acc C) W hsz hlive hcell hkind hx hst hfp e12 hI (fun i v h => h) (ok.up e₁) ?_
  intro D C h' tk m' hD hC hDC hnC hl he
  have hLC : env.locals ≠ C := by rintro rfl; obtain ⟨o, _, _, ho, _⟩ := hn; rw [e₁ _ _ ho] at hC; cases hC
  show wpAny _ A (assign (.Name y py) env (.ref D)) _ _ _
  refine wpAny_assign_Name (wpAny_storeName_local hy ((hn.keeps e₁).keeps he) (fun h₂' hn₂ hs₂ => ?_) hp)
  refine ⟨m', hnC.sameBut hs₂ (Ne.symm hLC), fun h₃ hs₃ => ?_⟩
  refine k D h₃ _ (hn₂.sameBut hs₃ hLC) ?_ fun b o hbL e => hs₃.extBut b o ?_ (hs₂.extBut b o hbL (he b o (e₁ b o e)))
  · refine (rL R).older ((rL R).stab hl fun b o hb e => ⟨hb.1, hs₃.extBut b o hb.2 (hs₂.extBut b o ?_ e)⟩) e₁
    rintro rfl
    obtain ⟨o', _, _, ho', _⟩ := hn
    have hb' := hb.1
    rw [e₁ _ _ ho'] at hb'; cases hb'
  · rintro rfl
    rw [e₁ _ _ e] at hC; cases hC
end
end Mine
end

/-! text C2 -/
section
open PySem PySem.W PyProof.Rows
set_option Elab.async false
set_option maxRecDepth 100000
namespace Mine

def joinL (sep : List Nat) : List (List Nat) → List Nat
  | [] => []
  | [x] => x
  | x :: y :: r => x ++ sep ++ joinL sep (y :: r)
def esc (c : Nat) : List Nat := if c = 92 ∨ c = 34 then [92, c] else [c]
def quo (t : List Nat) : List Nat := 34 :: (t.flatMap esc ++ [34])
def written (ts : List (List Nat)) : List Nat := joinL [44] (ts.map quo)

theorem mkS_app (a b : List Nat) : mkS a ++ mkS b = mkS (a ++ b) := by
  show Str.append _ _ = _
  simp [Str.append]
theorem mkS_len (a : List Nat) : (mkS a).length = a.length := by simp [Str.length]
theorem mkS_join (sep : List Nat) : ∀ xs : List (List Nat), Str.join (mkS sep) (xs.map mkS) = mkS (joinL sep xs)
  | [] => rfl
  | [x] => rfl
  | x :: y :: r => by
    show mkS x ++ mkS sep ++ Str.join (mkS sep) ((y :: r).map mkS) = _
    rw [mkS_join sep (y :: r), mkS_app, mkS_app]; rfl

theorem joinL_nil_flat : ∀ xs : List (List Nat), joinL [] xs = xs.flatten
  | [] => rfl
  | [x] => by simp [joinL]
  | x :: y :: r => by
    show x ++ [] ++ joinL [] (y :: r) = _
    rw [joinL_nil_flat (y :: r)]; simp
theorem joinL_len (sep : List Nat) : ∀ xs : List (List Nat), (joinL sep xs).length ≤ (xs.map List.length).sum + xs.length * sep.length
  | [] => by simp [joinL]
  | [x] => by simp [joinL]
  | x :: y :: r => by
    have ih := joinL_len sep (y :: r)
    show (x ++ sep ++ joinL sep (y :: r)).length ≤ _
    simp only [List.length_append, List.map_cons, List.sum_cons, List.length_cons, Nat.add_mul, Nat.one_mul] at ih ⊢
    omega

theorem strsAre_of {X : Addr → Prop} {h : Heap} : ∀ {vs : List Value} {xs : List (List Nat)}, Paired (rS.r X h) vs xs → StrsAre vs (xs.map mkS)
  | _, _, .nil => .nil
  | _, _, .cons ⟨t, e⟩ r => by subst e; exact .cons _ t (strsAre_of r)

section
variable {prog : Program} {w : World} {A : Around} {s : Shared} {env : Env} {E : Value → Shared → Prop} {Q : Value → Shared → Prop}

theorem cstr {x : Str} {l : List Nat} {k : Nat} {pos : Pos} (h : ∀ t, Q (.str (mkS l) t) { s with toks := s.toks + 1 }) (hx : x = mkS l := by decide +kernel) : wpAny (model prog w) A (eval (.Constant (.str x) k pos) env) Q E s := by
  subst hx; exact Calls.Constant_str (h _)

theorem addS {a b : List Nat} {t u : Tok} (hsz : a.length + b.length ≤ 16777216) (h : ∀ t' tk, Q (.str (mkS (a ++ b)) t') { s with toks := tk }) : wpAny (model prog w) A (binaryOp .Add (.str (mkS a) t) (.str (mkS b) u)) Q E s :=
  PyProof.Rows.add_str (fun t' tk => by rw [mkS_app]; exact h t' tk) (by rw [mkS_len, mkS_len]; exact hsz)
theorem iaddS {a b : List Nat} {t u : Tok} (hsz : a.length + b.length ≤ 16777216) (h : ∀ t' tk, Q (.str (mkS (a ++ b)) t') { s with toks := tk }) : wpAny (model prog w) A (inplaceOp .Add (.str (mkS a) t) (.str (mkS b) u)) Q E s :=
  PyProof.Rows.iadd_str (fun t' tk => by rw [mkS_app]; exact h t' tk) (by rw [mkS_len, mkS_len]; exact hsz)

theorem inS {c : Nat} {l : List Nat} {t u : Tok} (h : Q (.bool (decide (c ∈ l))) s) : wpAny (model prog w) A (compareOp .In (.str (mkS [c]) t) (.str (mkS l) u)) Q E s := by
  refine PyProof.Rows.in_str ?_
  have := StrLaws.found_one (mkS l) c
  rw [show (mkS [c]) = (⟨#[c]⟩ : Str) from rfl, this]
  simpa using h

/-- o.name(e) of a built-in type -/
theorem meth1 {T id : String} {o e : Expr} {name : Str} {apos pos : Pos} (pa : PlainAttrs T) (slot : Slot T name id) (hty : typeOf (.builtin id) = pure (.type "method_descriptor"))
    (h : wpAny (model prog w) A (eval o env) (fun ov s₁ => s₁.TypeIs ov T ∧ (∀ a, ov = .ref a → ∃ ob, s₁.heap.get? a = some ob ∧ ob.dict = none) ∧ wpAny (model prog w) A (eval e env) (fun v s₂ => wpAny (model prog w) A (call (.builtin id) [ov, v]) Q E s₂) E s₁) E s)
    (hbase : attributeBase o name env (eval o env) = eval o env := by rfl)
    (hfew : ((backTo pos (starEach [e] env)).all (fun x => !x.1) && (backToKw pos (keywordEach [] env)).all (fun x => x.1.isSome)
      && decide ([e].length + ([] : List Keyword).length + (if ([] : List Keyword).isEmpty then 0 else 1) < 30)) = true := by rfl)
    (hline : (apos.endLine == pos.line) = true := by rfl) (he : backTo pos (starEach [e] env) = [(false, eval e env)] := by rfl) :
    wpAny (model prog w) A (eval (.Call (.Attribute o name apos) [e] [] pos) env) Q E s := by
  refine wpAny_Call_method_lateS hbase hfew hline (wpAny_mono h (fun ov s₁ h₁ => ⟨T, id, pa, slot, hty, h₁.1, h₁.2.1, ?_⟩) fun _ _ x => x)
  rw [he]
  exact Calls.callWith_builtin rfl (Calls.evalArgs_plain (Calls.spliced_cons (wpAny_mono h₁.2.2 (fun v s₂ h₂ => Calls.spliced_nil h₂) fun _ _ x => x)))

/-- sep.join(e) -/
theorem join1 {sep : Str} {l : List Nat} {e : Expr} {k : Nat} {p apos pos : Pos} (hx : sep = mkS l)
    (h : Ev prog w A (eval e env) { s with toks := s.toks + 1 } (fun v s₂ => ∃ X xs, (rL rS).r X s₂.heap v xs ∧ (xs.map List.length).sum + xs.length * l.length ≤ 16777216 ∧ ∀ t' tk, Q (.str (mkS (joinL l xs)) t') { s₂ with toks := tk }))
    (hbase : attributeBase (.Constant (.str sep) k p) "join" env (eval (.Constant (.str sep) k p) env) = eval (.Constant (.str sep) k p) env := by rfl)
    (hfew : ((backTo pos (starEach [e] env)).all (fun x => !x.1) && (backToKw pos (keywordEach [] env)).all (fun x => x.1.isSome)
      && decide ([e].length + ([] : List Keyword).length + (if ([] : List Keyword).isEmpty then 0 else 1) < 30)) = true := by rfl)
    (hline : (apos.endLine == pos.line) = true := by rfl) (he : backTo pos (starEach [e] env) = [(false, eval e env)] := by rfl) :
    wpAny (model prog w) A (eval (.Call (.Attribute (.Constant (.str sep) k p) "join" apos) [e] [] pos) env) Q E s := by
  refine meth1 F.plainAttrs_str F.slot_str_join F.type_str_join ?_ hbase hfew hline he
  subst hx
  refine cstr (l := l) (fun t => ⟨typeIs_str _ _ _, (fun _ e => nomatch e), ?_⟩) rfl
  refine h.use fun v s₂ _ ⟨X, xs, hv, hsz, hq⟩ => ?_
  obtain ⟨a, items, rfl, _, hl, hp⟩ := hv
  refine join_list hl.isList (strsAre_of hp) ?_ fun t' tk => ?_
  · rw [mkS_len, List.map_map, List.length_map]
    have : (List.map ((fun x : Str => x.length) ∘ mkS) xs) = xs.map List.length := List.map_congr_left fun x _ => mkS_len x
    rw [this]; exact hsz
  · rw [show Txt.join (mkS l) (xs.map mkS) = Str.join (mkS l) (xs.map mkS) from StrLaws.glued_eq_join _ _, mkS_join]
    exact hq t' tk

theorem Src.chars {x : List Nat} {t : Tok} (hh : A.handled = none) : Src prog w A (.str (mkS x) t) s (x.map fun c => [c]).length (fun i u => ∀ h : i < (x.map fun c => [c]).length, rS.r Any s.heap u (x.map fun c => [c])[i]) := by
  have S := SrcF.ofStr (prog := prog) (w := w) (A := A) (s := s) (x := x) (t := t) hh
  refine ⟨[], SrcF.cast (n := x.length) (by simp) (S.imp fun i u hi hu h => ?_)⟩
  have := hu hi
  simpa using this

theorem tests0 {cenv : Env} {p : Bool} (h : p = true) : Ev prog w A (testsT [] cenv) s (fun ok _ => ok = p) := fun _ => wpAny_tests_nil ⟨kRefl _, h.symm⟩
end
end Mine
end

/-! text B7 -/
section
open PySem PySem.W PyProof.Rows
set_option Elab.async false
set_option maxRecDepth 100000
namespace Mine

section
variable {prog : Program} {w : World} {A : Around} {s : Shared} {env : Env}

/-- a for loop over a source, by an invariant J of the frame's map and the heap; I: the iterator -/
theorem for_src {x : Str} {px pos : Pos} {iter : Expr} {body : List Stmt} {n : Nat} {P : Nat → Value → Prop} {h₀ : Heap} {m : Str → Option Value} {Q : Flow → Shared → Prop} {E : Value → Shared → Prop}
    (C : List Addr → Prop) (J : Addr → List Addr → Nat → (Str → Option Value) → Heap → Prop)
    (F : Fr h₀ env.locals s.heap m) (hit : Ev prog w A (eval iter env) s (fun xv s₁ => ∃ src, SrcF prog w A xv s₁ n P src ∧ C src))
    (h0 : ∀ I src h₁, C src → Ext s.heap h₁ → s.heap.get? I = none → J I src 0 m h₁)
    (hJ : ∀ I src i m h h', J I src i m h → (∀ b o, b ≠ I → b ≠ env.locals → h.get? b = some o → h'.get? b = some o) → J I src i m h')
    (step : ∀ I src i v m₁ (s₁ : Shared), C src → i < n → P i v → I ≠ env.locals → h₀.get? I = none → (∃ o, s₁.heap.get? I = some o) → J I src i m₁ s₁.heap → Fr h₀ env.locals s₁.heap (fun y => if y = x then some v else m₁ y) →
      (∃ h tk, s₁ = { s with heap := h, toks := tk }) →
      wpAny (model prog w) A (execs body env) (fun f s₂ => match f with
        | .brk => Q .next s₂
        | .ret v => Q (.ret v) s₂
        | _ => ∃ m₂, (∃ h tk, s₂ = { s₁ with heap := h, toks := tk }) ∧ Fr h₀ env.locals s₂.heap m₂ ∧ J I src (i + 1) m₂ s₂.heap ∧ (∀ b, b = I ∨ b ∈ src → ∀ o, s₁.heap.get? b = some o → s₂.heap.get? b = some o)) (fun _ _ => False) s₁)
    (fin : ∀ I src h' tk m', C src → Fr h₀ env.locals h' m' → J I src n m' h' → Q .next { s with heap := h', toks := tk })
    (hsrcL : ∀ src, C src → env.locals ∉ src)
    (hx : env.kindOf x = some .local := by rfl) (hp : (env.scope.kind == .class || (env.scope.kind == .module && env.locals != env.globals)) = false := by rfl)
    (hs : ∀ x, foldedSetIterable iter env x = pure x := by intro _; rfl) :
    wpAny (model prog w) A (exec (.For (.Name x px) iter body [] pos) env) Q E s := by
  refine wpAny_For (hit.use fun xv s₁ hK hS => ?_) hs
  obtain ⟨src, S, hC⟩ := hS
  obtain ⟨h₁, tk₁, rfl, e₁⟩ := hK
  have e₁ : Ext s.heap h₁ := e₁
  refine S _ _ fun I h₂ St fp e12 hI hfp hfs W hlive hst => ?_
  have e12 : Ext h₁ h₂ := e12
  have hI : h₁.get? I = none := hI
  have e2 : Ext s.heap h₂ := e₁.trans e12
  have hIs : s.heap.get? I = none := by
    cases q : s.heap.get? I with
    | none => rfl
    | some o => rw [e₁ _ _ q] at hI; cases hI
  have hI0 : h₀.get? I = none := by
    cases q : h₀.get? I with
    | none => rfl
    | some o => rw [F.keep _ _ q] at hIs; cases hIs
  have hIL : I ≠ env.locals := by
    rintro rfl
    obtain ⟨o, _, _, ho, _⟩ := F.ns
    rw [hIs] at ho; cases ho
  have hLf : env.locals ∉ fp := fun hm => by
    rcases hfs _ hm with q | q
    · exact hIL q.symm
    · exact hsrcL src hC q
  refine codeAny_forLoop
    (fun k s' => ∃ h' tk m' i, s' = { s with heap := h', toks := tk } ∧ i ≤ n ∧ k = n + 1 - i ∧ St i h' ∧ Fr h₀ env.locals h' m' ∧ J I src i m' h') ?_ (n + 1)
    ⟨h₂, tk₁, m, 0, rfl, Nat.zero_le _, rfl, hst, ⟨F.ns.keeps e2, fun b o e => e2 b o (F.keep b o e), F.above⟩, h0 I src h₂ hC e2 hIs⟩
  rintro k s' ⟨H, tk, m', i, rfl, hi, rfl, hst', F', hJ'⟩
  by_cases hlt : i < n
  · refine W.item i _ _ _ hlt hst' fun v H1 tk₁ hPv hst₁ hk₁ => ?_
    have hk₁ : ∀ b o, b ≠ I → H.get? b = some o → H1.get? b = some o := fun b o hb e => hk₁ b o (by simpa using hb) e
    refine wpAny_assign_Name (wpAny_storeName_local hx (F'.ns.at' fun o e => hk₁ _ o (Ne.symm hIL) e) (fun H2 hn₂ hs₂ => ?_) hp)
    have up : ∀ b o, b ≠ I → b ≠ env.locals → H.get? b = some o → H2.get? b = some o := fun b o hbI hbL e => hs₂.extBut b o hbL (hk₁ b o hbI e)
    have hst₂ : St (i + 1) H2 := W.frame _ _ _ hst₁ fun b hb o e => hs₂.extBut b o (fun q => hLf (q ▸ hb)) e
    have F₂ : Fr h₀ env.locals H2 (fun y => if y = x then some v else m' y) := ⟨hn₂, fun b o e => up b o (fun q => by rw [q, hI0] at e; cases e) (fun q => by
      have h1 := Heap.lt_size e; rw [q] at h1; exact absurd h1 (Nat.not_lt.mpr F.above)) (F'.keep b o e), F.above⟩
    refine wpAny_mono (step I src i v m' { s with heap := H2, toks := tk₁ + 1 } hC hlt hPv hIL hI0 (hlive _ _ hst₂) (hJ I src i m' H H2 hJ' up) F₂ ⟨H2, _, rfl⟩) (fun f s₃ h₃ => ?_) fun _ _ e => e.elim
    have go : (∃ m₂, (∃ h tk, s₃ = { ({ s with heap := H2, toks := tk₁ + 1 } : Shared) with heap := h, toks := tk }) ∧ Fr h₀ env.locals s₃.heap m₂ ∧ J I src (i + 1) m₂ s₃.heap ∧ (∀ b, b = I ∨ b ∈ src → ∀ o, H2.get? b = some o → s₃.heap.get? b = some o)) →
        ∃ m, m < n + 1 - i ∧ ∃ h' tk m' i, s₃ = { s with heap := h', toks := tk } ∧ i ≤ n ∧ m = n + 1 - i ∧ St i h' ∧ Fr h₀ env.locals h' m' ∧ J I src i m' h' := by
      rintro ⟨m₂, ⟨h, tk, rfl⟩, F₃, J₃, k₃⟩
      exact ⟨n + 1 - (i + 1), by omega, h, tk, m₂, i + 1, rfl, hlt, rfl, W.frame _ _ _ hst₂ fun b hb o e => k₃ b (hfs b hb) o e, F₃, J₃⟩
    cases f with
    | next => exact go h₃
    | cont => exact go h₃
    | brk => exact h₃
    | ret v => exact h₃
  · have hin : i = n := by omega
    subst hin
    refine W.done _ _ _ hst' fun H1 tk₁ hk₁ => ?_
    have hk₁ : ∀ b o, b ≠ I → H.get? b = some o → H1.get? b = some o := fun b o hb e => hk₁ b o (by simpa using hb) e
    refine wpAny_execs_nil ?_
    exact fin I src H1 tk₁ m' hC ⟨F'.ns.at' fun o e => hk₁ _ o (Ne.symm hIL) e, fun b o e => hk₁ b o (fun q => by rw [q, hI0] at e; cases e) (F'.keep b o e), F.above⟩ (hJ I src i m' H H1 hJ' fun b o hb _ e => hk₁ b o hb e)
end
end Mine
end

/-! text C3 -/
section
open PySem PySem.W PyProof.Rows
set_option Elab.async false
set_option maxRecDepth 100000
namespace Mine

theorem esc_len (c : Nat) : (esc c).length ≤ 2 := by unfold esc; split <;> simp
theorem flatMap_esc_len : ∀ t : List Nat, (t.flatMap esc).length ≤ 2 * t.length
  | [] => by simp
  | c :: t => by
    have := flatMap_esc_len t
    have h2 := esc_len c
    rw [List.flatMap_cons, List.length_append, List.length_cons]; omega
theorem quo_len (t : List Nat) : (quo t).length ≤ 2 * t.length + 2 := by
  have := flatMap_esc_len t
  simp only [quo, List.length_cons, List.length_append, List.length_nil]; omega
def wt (ts : List (List Nat)) : Nat := (ts.map fun t => 2 * t.length + 3).sum
theorem quo_sum : ∀ ts : List (List Nat), ((ts.map quo).map List.length).sum + (ts.map quo).length * 1 ≤ wt ts
  | [] => by simp [wt]
  | t :: ts => by
    have := quo_sum ts
    have h2 := quo_len t
    simp only [wt, List.map_cons, List.sum_cons, List.length_cons, List.length_map] at this ⊢; omega
theorem written_len (ts : List (List Nat)) : (written ts).length ≤ wt ts := Nat.le_trans (joinL_len [44] (ts.map quo)) (quo_sum ts)
theorem len_le_wt {t : List Nat} : ∀ {ts : List (List Nat)}, t ∈ ts → 2 * t.length + 3 ≤ wt ts
  | t' :: ts, h => by
    rcases List.mem_cons.mp h with rfl | h
    · simp [wt]
    · have := len_le_wt h; simp only [wt, List.map_cons, List.sum_cons] at this ⊢; omega
theorem length_le_wt : ∀ ts : List (List Nat), 3 * ts.length ≤ wt ts
  | [] => by simp [wt]
  | t :: ts => by have := length_le_wt ts; simp only [wt, List.map_cons, List.sum_cons, List.length_cons] at this ⊢; omega

section
variable {prog : Program} {w : World} {A : Around} {s : Shared}

theorem singles : ∀ t : List Nat, (t.map fun c => [c]).flatten = t
  | [] => rfl
  | c :: t => by simp [singles t]

set_option maxHeartbeats 1000000 in
theorem con_written {a : Addr} (r : Rm 1 A) (hf : isFun s.heap 7 a) (hlim : s.heap.NoLimit) {X : Addr → Prop} {v : Value} {xs : List (List Nat)}
    (hv : (rL rS).r X s.heap v xs) (hsz : wt xs ≤ 1000000) : Ev prog w A (call (.ref a) [v]) s (fun z _ => ∃ t, z = .str (mkS (written xs)) t) := by
  refine callF (k := 7) (binds := [("texts", v)]) (by have := r.depth; omega) hf hlim (fun _ _ _ => rfl) (locs rfl) (fun h₁ cd F => ?_) rfl rfl rfl (by decide)
  have hv₁ := (rL rS).ext hv F.keep
  have r' := r.deeper (envOf (fR 7).name (fR 7).scope s.heap.objs.size a cd)
  have hh := r'.hh
  refine wpAny_execs_cons ?_
  with_reducible refine wpAny_Return_some ?_
  with_reducible refine join1 (l := [44]) ?_ ?_ ?_ ?_ ?_ ?_
  · decide +kernel
  rotate_left
  · rfl
  · rfl
  · rfl
  · rfl
  refine (comp_val (RI := rS) (R := rS) (xs := xs) (p := fun _ => true) (f := quo) (closureFor_none (by decide)) (by decide) rfl (by decide) rfl (fun E => ldl F.ns rfl ⟨kRefl _, Src.ofL hh hv₁⟩) ⟨fun _ _ _ _ _ _ _ _ _ _ => tests0 rfl, ?_⟩ ?_).mono ?_
  · -- the element
    intro t ht _ C v' s₂ m₂ e₂ hv' hn₂ hm₂
    have hlen : 2 * t.length + 3 ≤ 1000000 := Nat.le_trans (len_le_wt ht) hsz
    intro E
    with_reducible refine wpAny_BinOp ?_
    with_reducible refine wpAny_BinOp ?_
    with_reducible refine cstr (l := [34]) (fun t₁ => ?_) ?_
    rotate_left
    · decide +kernel
    with_reducible refine join1 (l := []) ?_ ?_ ?_ ?_ ?_ ?_
    · decide +kernel
    rotate_left
    · rfl
    · rfl
    · rfl
    · rfl
    obtain ⟨tt, rfl⟩ := hv'
    refine (comp_val (RI := rS) (R := rS) (xs := t.map fun c => [c]) (p := fun _ => true) (f := fun c => c.flatMap esc) (closureFor_none (by decide)) (by decide) rfl (by decide) rfl (fun E => ldl hn₂ hm₂ ⟨kRefl _, ?_⟩) ⟨fun _ _ _ _ _ _ _ _ _ _ => tests0 rfl, ?_⟩ ?_).mono ?_
    · exact Src.chars hh
    · intro c' hc' _ C' v'' s₃ m₃ e₃ hv'' hn₃ hm₃ E
      obtain ⟨c, hc, rfl⟩ := List.mem_map.mp hc'
      obtain ⟨t₃, rfl⟩ := hv''
      refine IfExp_ (wpAny_isTrue_Compare1 (ldl hn₃ hm₃ (cstr (l := [92, 34]) fun t₄ => inS (wpAny_truthy_bool ?_))))
      by_cases hc2 : c = 92 ∨ c = 34
      · have hd : decide (c ∈ [92, 34]) = true := by simpa using hc2
        rw [hd]
        simp only [if_true]
        refine wpAny_BinOp (cstr (l := [92]) fun t₅ => ldl hn₃ hm₃ (addS (by simp) fun t' tk => ⟨kOf (Ext.refl _), t', ?_⟩))
        simp [esc, hc2]
      · have hd : decide (c ∈ [92, 34]) = false := by simpa using hc2
        rw [hd]
        simp only [Bool.false_eq_true, if_false]
        refine ldl hn₃ hm₃ ⟨kOf (Ext.refl _), t₃, ?_⟩
        simp [esc, hc2]
    · rw [List.length_map, sizeLine_eq]; omega
    · intro z s₃ hK hz
      have e1 : ((List.filter (fun _ => true) (List.map (fun c => [c]) t)).map fun c => c.flatMap esc) = t.map esc := by
        rw [List.filter_eq_self.mpr (fun _ _ => rfl), List.map_map]; exact List.map_congr_left fun c _ => by simp
      rw [e1] at hz
      refine ⟨_, t.map esc, hz, ?_, fun t' tk => ?_⟩
      · have : ∀ t : List Nat, ((t.map esc).map List.length).sum ≤ 2 * t.length := by
          intro t
          induction t with
          | nil => simp
          | cons c t ih => have h2 := esc_len c; rw [List.map_cons, List.map_cons, List.sum_cons, List.length_cons]; omega
        have := this t
        simp only [List.length_nil, Nat.mul_zero, Nat.add_zero]; omega
      · have e2 : joinL [] (t.map esc) = t.flatMap esc := by rw [joinL_nil_flat]; rfl
        rw [e2]
        have hl := flatMap_esc_len t
        refine addS (by rw [List.length_singleton]; omega) fun t₅ tk₅ => cstr (l := [34]) fun t₆ => addS (by rw [List.length_append, List.length_singleton]; omega) fun t₇ tk₇ => ⟨?_, t₇, ?_⟩
        · exact kTrans hK (kOf (Ext.refl _))
        · simp [quo]
  · have := length_le_wt xs; rw [sizeLine_eq]; omega
  · intro z s₃ hK hz
    have e1 : (xs.filter fun _ => true) = xs := by simp
    rw [e1] at hz
    refine ⟨_, xs.map quo, hz, ?_, fun t' tk => ⟨?_, t', rfl⟩⟩
    · have := quo_sum xs; simp only [List.length_cons, List.length_nil, Nat.zero_add] at *; omega
    · exact kTrans (kOf F.keep) (kTrans hK (kOf (Ext.refl _)))
end
end Mine
end

/-! text C4 -/
section
open PySem PySem.W PyProof.Rows
set_option Elab.async false
set_option maxRecDepth 100000
namespace Mine

structure PS where
  res : List (List Nat)
  part : List Nat
  esc : Bool
  quo : Bool
def pstep (p : PS) (c : Nat) : PS :=
  if p.esc then { p with part := p.part ++ [c], esc := false }
  else if p.quo then
    if c = 92 then { p with esc := true }
    else if c = 34 then { p with quo := false, part := p.part ++ [c] }
    else { p with part := p.part ++ [c] }
  else if c = 44 then { p with res := p.res ++ [p.part], part := [] }
  else if c = 34 then { p with quo := true, part := p.part ++ [c] }
  else { p with part := p.part ++ [c] }
def pfold (x : List Nat) : PS := x.foldl pstep ⟨[], [], false, false⟩
def strp (x : List Nat) : List Nat := (Txt.strip (mkS x)).cps.toList
def pend (p : PS) : List (List Nat) := if p.part = [] then p.res else p.res ++ [p.part]
def parse (x : List Nat) : List (List Nat) := (pend (pfold x)).map strp

theorem pfold_snoc (x : List Nat) (c : Nat) : pfold (x ++ [c]) = pstep (pfold x) c := by simp [pfold]
theorem pfold_take {x : List Nat} {i : Nat} (h : i < x.length) : pfold (x.take (i + 1)) = pstep (pfold (x.take i)) x[i] := by
  rw [List.take_add_one, List.getElem?_eq_getElem h]; exact pfold_snoc _ _
theorem pstep_part (p : PS) (c : Nat) : (pstep p c).part.length ≤ p.part.length + 1 ∧ (pstep p c).res.length ≤ p.res.length + 1 := by
  unfold pstep
  repeat' split
  all_goals simp
theorem pfold_part (x : List Nat) : (pfold x).part.length ≤ x.length ∧ (pfold x).res.length ≤ x.length := by
  have aux : ∀ (x : List Nat) (p : PS), (x.foldl pstep p).part.length ≤ p.part.length + x.length ∧ (x.foldl pstep p).res.length ≤ p.res.length + x.length := by
    intro x
    induction x with
    | nil => intro p; simp
    | cons c x ih =>
      intro p
      have h1 := ih (pstep p c)
      have h2 := pstep_part p c
      rw [List.foldl_cons, List.length_cons]; omega
  have := aux x ⟨[], [], false, false⟩
  simpa [pfold] using this
theorem pstep_mem (p : PS) (c : Nat) {N : Nat} (h1 : p.part.length ≤ N) (h2 : ∀ t ∈ p.res, t.length ≤ N) : ∀ t ∈ (pstep p c).res, t.length ≤ N := by
  unfold pstep
  repeat' split
  all_goals simp only []
  all_goals first | exact h2 | skip
  intro t ht
  rcases List.mem_append.mp ht with h | h
  · exact h2 t h
  · rw [List.mem_singleton.mp h]; exact h1
theorem pfold_mem (x : List Nat) : ∀ t ∈ (pfold x).res, t.length ≤ x.length := by
  have aux : ∀ (n : Nat) (x : List Nat), x.length = n → ∀ t ∈ (pfold x).res, t.length ≤ x.length := by
    intro n
    induction n with
    | zero => intro x hx t ht; have : x = [] := List.eq_nil_of_length_eq_zero hx; subst this; simp [pfold] at ht
    | succ n ih =>
      intro x hx
      obtain ⟨y, c, rfl⟩ : ∃ y c, x = y ++ [c] := ⟨x.dropLast, x.getLast (by intro h; subst h; simp at hx), (List.dropLast_concat_getLast _).symm⟩
      have hy : y.length = n := by simpa using hx
      rw [pfold_snoc]
      refine pstep_mem _ c ?_ ?_
      · have := (pfold_part y).1; simp; omega
      · intro t ht; have := ih y hy t ht; simp; omega
  exact aux _ x rfl

theorem upd_ne {m : Str → Option Value} {x y : Str} {v : Value} {r : Option Value} (h : m y = r) (hne : y ≠ x := by decide) : (fun z => if z = x then some v else m z) y = r := by
  show (if y = x then some v else m y) = r
  rw [if_neg hne]; exact h
theorem upd_eq {m : Str → Option Value} {x : Str} {v : Value} : (fun z => if z = x then some v else m z) x = some v := by
  show (if x = x then some v else m x) = some v
  rw [if_pos rfl]

section
variable {prog : Program} {w : World} {A : Around} {s : Shared} {env : Env} {E : Value → Shared → Prop} {h₀ : Heap} {m : Str → Option Value}
theorem stK {x : Str} {v : Value} {Q : Unit → Shared → Prop} (F : Fr h₀ env.locals s.heap m)
    (h : ∀ h', Fr h₀ env.locals h' (fun y => if y = x then some v else m y) → Heap.SameBut env.locals s.heap h' → Q () { s with heap := h', toks := s.toks + 1 })
    (hl : env.kindOf x = some .local := by rfl) (hp : (env.scope.kind == .class || (env.scope.kind == .module && env.locals != env.globals)) = false := by rfl) :
    wpAny (model prog w) A (storeName env x v) Q E s := wpAny_storeName_local hl F.ns (fun h' hn hs => h h' (F.set hn hs) hs) hp
theorem ifName {x : Str} {pos : Pos} {b : Bool} {Q : Bool → Shared → Prop} (hn : s.heap.Ns env.locals m) (hv : m x = some (.bool b)) (h : Q b s)
    (hk : env.scope.kind = .function := by rfl) (hl : env.kindOf x = some .local := by rfl) (hd : (x == ("__debug__" : Str)) = false := by decide) :
    wpAny (model prog w) A (isTrue (.Name x pos) env (eval (.Name x pos) env)) Q E s := isTrue_plain (ldl hn hv (wpAny_truthy_bool h) hk hl hd)
theorem eqS {a b : List Nat} {t u : Tok} {Q : Value → Shared → Prop} (h : Q (.bool (decide (a = b))) s) : wpAny (model prog w) A (compareOp .Eq (.str (mkS a) t) (.str (mkS b) u)) Q E s := by
  refine PyProof.Rows.eq_str ?_
  have : (mkS a == mkS b) = decide (a = b) := by
    rw [← toList_beq, Bool.eq_iff_iff]; simp
  rw [this]; exact h
end

/-- the reader's state in the frame -/
structure PSt (D : Addr) (h : Heap) (m : Str → Option Value) (p : PS) : Prop where
  res : m "res" = some (.ref D)
  part : ∃ t, m "part" = some (.str (mkS p.part) t)
  esc : m "escape" = some (.bool p.esc)
  quo : m "quote" = some (.bool p.quo)
  lst : ∃ items, PlainL h D items ∧ StrsAre items.toList (p.res.map mkS)

section
variable {prog : Program} {w : World} {A : Around} {s : Shared}
theorem PSt.at {D : Addr} {h h' : Heap} {m : Str → Option Value} {p : PS} (x : PSt D h m p) (e : ∀ o, h.get? D = some o → h'.get? D = some o) : PSt D h' m p :=
  ⟨x.res, x.part, x.esc, x.quo, let ⟨i, a, b⟩ := x.lst; ⟨i, PlainL.at a e, b⟩⟩

theorem asgNil {env : Env} {x : Str} {px lp pos : Pos} {Q : Flow → Shared → Prop} {E : Value → Shared → Prop} {h₀ : Heap} {m : Str → Option Value} (F : Fr h₀ env.locals s.heap m)
    (h : ∀ D h', s.heap.get? D = none → D ≠ env.locals → PlainL h' D #[] → Fr h₀ env.locals h' (fun y => if y = x then some (.ref D) else m y) → (∀ b o, b ≠ env.locals → s.heap.get? b = some o → h'.get? b = some o) →
      Q .next { s with heap := h', toks := s.toks + 1 })
    (hl : env.kindOf x = some .local := by rfl) (hp : (env.scope.kind == .class || (env.scope.kind == .module && env.locals != env.globals)) = false := by rfl)
    (hs : swapsWith (.List [] lp) (some (.Name x px)) pos.line env = pure false := by rfl) :
    wpAny (model prog w) A (exec (.Assign [.Name x px] (.List [] lp) pos) env) Q E s := by
  refine wpAny_Assign_Name (wpAny_List (Calls.spliced_nil ⟨Nat.zero_le _, ?_⟩)) hs
  have hLlt : env.locals < s.heap.objs.size := F.ns.lt
  refine stK (F.push _) (fun h' F' hs' => ?_) hl hp
  refine h s.heap.objs.size h' (get_none_size _) (Nat.ne_of_gt hLlt) ?_ F' fun b o hb e => hs'.extBut b o hb (push_ext _ _ b o e)
  exact ⟨_, _, hs'.extBut _ _ (Nat.ne_of_gt hLlt) (Heap.get?_push_size _ rfl), rfl, rfl, rfl⟩

/-- x += e of texts -/
theorem augS {env : Env} {x : Str} {px pos : Pos} {e : Expr} {Q : Flow → Shared → Prop} {E : Value → Shared → Prop} {h₀ : Heap} {m : Str → Option Value} {a : List Nat} {t : Tok} (F : Fr h₀ env.locals s.heap m) (hv : m x = some (.str (mkS a) t))
    (h : wpAny (model prog w) A (eval e env) (fun u s₂ => ∃ b tb, u = .str (mkS b) tb ∧ a.length + b.length ≤ 16777216 ∧ s₂.heap = s.heap ∧ (∃ tk, s₂ = { s with toks := tk }) ∧
      ∀ t' tk h', Fr h₀ env.locals h' (fun y => if y = x then some (.str (mkS (a ++ b)) t') else m y) → Heap.SameBut env.locals s.heap h' → Q .next { s with heap := h', toks := tk }) E s)
    (hk : env.scope.kind = .function := by rfl) (hl : env.kindOf x = some .local := by rfl) (hp : (env.scope.kind == .class || (env.scope.kind == .module && env.locals != env.globals)) = false := by rfl) :
    wpAny (model prog w) A (exec (.AugAssign (.Name x px) .Add e pos) env) Q E s := by
  refine wpAny_AugAssign_Name (wpAny_loadName_local hk hl F.ns hv (wpAny_mono h (fun u s₂ hu => ?_) fun _ _ x => x))
  obtain ⟨b, tb, rfl, hsz, _, ⟨tk, rfl⟩, hq⟩ := hu
  refine iaddS hsz fun t' tk' => ?_
  exact stK F (fun h' F' hs' => hq t' _ h' F' hs') hl hp

theorem paired_of {X : Addr → Prop} {h : Heap} : ∀ {vs : List Value} {xs : List (List Nat)}, StrsAre vs (xs.map mkS) → Paired (rS.r X h) vs xs
  | _, [], .nil => .nil
  | _, _ :: _, .cons _ t r => .cons ⟨t, rfl⟩ (paired_of r)

/-- x.append(e) as a statement -/
theorem appS {env : Env} {o e : Expr} {apos cpos pos : Pos} {Q : Flow → Shared → Prop} {E : Value → Shared → Prop} 
    (h : wpAny (model prog w) A (eval o env) (fun ov s₁ => ∃ D its, ov = .ref D ∧ PlainL s₁.heap D its ∧ wpAny (model prog w) A (eval e env) (fun v s₂ => PlainL s₂.heap D its ∧ its.size ≤ sizeLine ∧
      ∀ h', PlainL h' D (its.push v) → Heap.SameBut D s₂.heap h' → Q .next { s₂ with heap := h' }) E s₁) E s)
    (hi : interactive env = false := by rfl) (hs : swapsWith (.Call (.Attribute o "append" apos) [e] [] cpos) none pos.line env = pure false := by rfl)
    (hbase : attributeBase o "append" env (eval o env) = eval o env := by rfl)
    (hfew : ((backTo cpos (starEach [e] env)).all (fun x => !x.1) && (backToKw cpos (keywordEach [] env)).all (fun x => x.1.isSome)
      && decide ([e].length + ([] : List Keyword).length + (if ([] : List Keyword).isEmpty then 0 else 1) < 30)) = true := by rfl)
    (hline : (apos.endLine == cpos.line) = true := by rfl) (he : backTo cpos (starEach [e] env) = [(false, eval e env)] := by rfl) :
    wpAny (model prog w) A (exec (.Expr (.Call (.Attribute o "append" apos) [e] [] cpos) pos) env) Q E s := by
  refine wpAny_Expr (meth1 PySem.F.plainAttrs_list PySem.F.slot_list_append type_list_append (wpAny_mono h (fun ov s₁ h₁ => ?_) fun _ _ x => x) hbase hfew hline he) hi hs
  obtain ⟨D, its, rfl, hl, h₂⟩ := h₁
  obtain ⟨ob, n, hob, hc, hd, hdat⟩ := id hl
  refine ⟨⟨ob, hob, hc⟩, fun a q => ⟨ob, by cases q; exact hob, hd⟩, wpAny_mono h₂ (fun v s₂ h₃ => ?_) fun _ _ x => x⟩
  exact list_append_plainL h₃.1 (fun h' hl' hs' => h₃.2.2 h' hl' hs') h₃.2.1

set_option maxHeartbeats 2000000 in
theorem con_parse {a : Addr} (r : Rm 1 A) (hf : isFun s.heap 4 a) (hlim : s.heap.NoLimit) {v : Value} {x : List Nat} {tx : Tok} (hv : v = .str (mkS x) tx) (hsz : x.length ≤ 1000000) :
    Ev prog w A (call (.ref a) [v]) s (fun z s' => (rL rS).r (New s.heap) s'.heap z (parse x)) := by
  subst hv
  refine callF (k := 4) (binds := [("s", .str (mkS x) tx)]) (by have := r.depth; omega) hf hlim (fun _ _ _ => rfl) (locs rfl) (fun h₁ cd F => ?_) rfl rfl rfl (by decide)
  have r' := r.deeper (envOf (fR 4).name (fR 4).scope s.heap.objs.size a cd)
  have hh := r'.hh
  -- res = []
  refine wpAny_execs_cons (asgNil F fun D h₂ hD hDL hDl F₂ _ => ?_)
  have hD0 : s.heap.get? D = none := by
    cases q : s.heap.get? D with
    | none => rfl
    | some o => have hD' : h₁.get? D = none := hD; rw [F.keep _ _ q] at hD'; cases hD'
  -- part = ''
  refine wpAny_execs_cons (wpAny_Assign_Name (cstr (l := []) fun t₁ => stK F₂ fun h₃ F₃ hs₃ => ?_))
  -- escape = quote = False
  refine wpAny_execs_cons (wpAny_Assign_two (Constant_bool (wpAny_assign_Name (stK F₃ fun h₄ F₄ hs₄ => wpAny_assign_Name (stK F₄ fun h₅ F₅ hs₅ => ?_)))))
  have hD₅ : PlainL h₅ D #[] := PlainL.at hDl fun o e => hs₅.extBut _ _ hDL (hs₄.extBut _ _ hDL (hs₃.extBut _ _ hDL e))
  -- the loop
  refine wpAny_execs_cons (for_src (n := x.length) (P := fun i u => ∀ h : i < x.length, rS.r Any h₅ u [x[i]]) (C := fun src => src = []) (J := fun I _ i m h => D ≠ I ∧ PSt D h m (pfold (x.take i))) F₅
    (fun E => ldl F₅.ns rfl ⟨kRefl _, [], SrcF.ofStr hh, rfl⟩) ?h0 ?hJ ?step ?fin ?hsrcL)
  case hsrcL => rintro src rfl; simp
  case h0 =>
    intro I src h₆ _ e hI
    refine ⟨?_, rfl, ⟨t₁, rfl⟩, rfl, rfl, #[], PlainL.at hD₅ fun o q => e _ _ q, .nil⟩
    rintro rfl
    obtain ⟨o, _, q, _⟩ := hD₅
    have hI' : h₅.get? D = none := hI
    rw [hI'] at q; cases q
  case hJ =>
    rintro I src i m h h' ⟨hDI, hP⟩ k
    exact ⟨hDI, hP.at fun o e => k D o hDI hDL e⟩
  case step =>
    rintro I src i v m₁ s₁ rfl hi hv hIL hI0 hIo ⟨hDI, hP⟩ F₁ ⟨H, tk, rfl⟩
    obtain ⟨tc, rfl⟩ := hv hi
    have hlen : (pfold (x.take i)).part.length ≤ 1000000 := by
      have := (pfold_part (x.take i)).1
      rw [List.length_take] at this; omega
    have hrl : (pfold (x.take i)).res.length ≤ 1000000 := by
      have := (pfold_part (x.take i)).2
      rw [List.length_take] at this; omega
    rw [pfold_take hi]
    generalize hp : pfold (x.take i) = p at *
    generalize hc : x[i] = c at *
    obtain ⟨hres, ⟨tp, hpart⟩, hesc, hquo, its, hl, hs⟩ := hP
    have done : ∀ (h' : Heap) (tk' : Nat) (m₂ : Str → Option Value), Fr s.heap s.heap.objs.size h' m₂ → PSt D h' m₂ (pstep p c) → (∀ b o, b ≠ s.heap.objs.size → b ≠ D → H.get? b = some o → h'.get? b = some o) →
        ∃ m₂, (∃ h tk₀, ({ s with heap := h', toks := tk' } : Shared) = { ({ s with heap := H, toks := tk } : Shared) with heap := h, toks := tk₀ }) ∧ Fr s.heap s.heap.objs.size h' m₂ ∧ (D ≠ I ∧ PSt D h' m₂ (pstep p c)) ∧ (∀ b, b = I ∨ b ∈ ([] : List Addr) → ∀ o, H.get? b = some o → h'.get? b = some o) := by
      intro h' tk' m₂ F' P' k
      refine ⟨m₂, ⟨h', tk', rfl⟩, F', ⟨hDI, P'⟩, fun b hb o e => ?_⟩
      rcases hb with rfl | hb
      · exact k b o hIL (Ne.symm hDI) e
      · cases hb
    have plk : ∀ {h h' : Heap}, PlainL h D its → Heap.SameBut s.heap.objs.size h h' → PlainL h' D its := fun x e => PlainL.at x fun o q => e.extBut _ o hDL q
    have hlc : p.part.length + [c].length ≤ 16777216 := by simp; omega
    -- if escape
    refine wpAny_execs_cons (wpAny_If (ifName F₁.ns hesc ?_))
    cases he : p.esc with
    | true =>
      simp only [if_true]
      refine wpAny_execs_cons (augS F₁ hpart (ldl F₁.ns rfl ⟨[c], tc, rfl, hlc, rfl, ⟨_, rfl⟩, fun t' tk₂ h₂' F₂' hs₂' => ?_⟩))
      refine wpAny_execs_cons (wpAny_Assign_Name (Constant_bool (stK F₂' fun h₃' F₃' hs₃' => ?_)))
      refine wpAny_execs_cons (wpAny_Continue ?_)
      refine done _ _ _ F₃' ?_ fun b o hb _ e => hs₃'.extBut b o hb (hs₂'.extBut b o hb e)
      rw [show pstep p c = { p with part := p.part ++ [c], esc := false } by simp [pstep, he]]
      exact ⟨hres, ⟨t', rfl⟩, rfl, hquo, its, plk (plk hl hs₂') hs₃', hs⟩
    | false =>
      simp only [Bool.false_eq_true, if_false]
      refine wpAny_execs_nil ?_
      refine wpAny_execs_cons (wpAny_If (ifName F₁.ns hquo ?_))
      cases hq : p.quo with
      | true =>
        simp only [if_true]
        refine wpAny_execs_cons (wpAny_If (wpAny_isTrue_Compare1 (ldl F₁.ns rfl (cstr (l := [92]) fun t₂ => eqS (wpAny_truthy_bool ?_)))))
        by_cases hc92 : c = 92
        · have : decide ([c] = [92]) = true := by simp [hc92]
          rw [this]
          simp only [if_true]
          refine wpAny_execs_cons (wpAny_Assign_Name (Constant_bool (stK F₁ fun h₃' F₃' hs₃' => ?_)))
          refine wpAny_execs_cons (wpAny_Continue ?_)
          refine done _ _ _ F₃' ?_ fun b o hb _ e => hs₃'.extBut b o hb e
          rw [show pstep p c = { p with esc := true } by simp [pstep, he, hq, hc92]]
          exact ⟨hres, ⟨tp, hpart⟩, rfl, hquo, its, plk hl hs₃', hs⟩
        · have : decide ([c] = [92]) = false := by simp [hc92]
          rw [this]
          simp only [Bool.false_eq_true, if_false]
          refine wpAny_execs_cons (wpAny_If (wpAny_isTrue_Compare1 (ldl F₁.ns rfl (cstr (l := [34]) fun t₃ => eqS (wpAny_truthy_bool ?_)))))
          by_cases hc34 : c = 34
          · have : decide ([c] = [34]) = true := by simp [hc34]
            rw [this]
            simp only [if_true]
            refine wpAny_execs_cons (wpAny_Assign_Name (Constant_bool (stK F₁ fun h₃' F₃' hs₃' => ?_)))
            refine wpAny_execs_nil ?_
            refine wpAny_execs_nil ?_
            refine wpAny_execs_cons (augS F₃' hpart (ldl F₃'.ns rfl ⟨[c], tc, rfl, hlc, rfl, ⟨_, rfl⟩, fun t' tk₂ h₂' F₂' hs₂' => ?_⟩))
            refine wpAny_execs_cons (wpAny_Continue ?_)
            refine done _ _ _ F₂' ?_ fun b o hb _ e => hs₂'.extBut b o hb (hs₃'.extBut b o hb e)
            rw [show pstep p c = { p with quo := false, part := p.part ++ [c] } by simp [pstep, he, hq, hc34]]
            exact ⟨hres, ⟨t', rfl⟩, hesc, rfl, its, plk (plk hl hs₃') hs₂', hs⟩
          · have : decide ([c] = [34]) = false := by simp [hc34]
            rw [this]
            simp only [Bool.false_eq_true, if_false]
            refine wpAny_execs_nil ?_
            refine wpAny_execs_nil ?_
            refine wpAny_execs_cons (augS F₁ hpart (ldl F₁.ns rfl ⟨[c], tc, rfl, hlc, rfl, ⟨_, rfl⟩, fun t' tk₂ h₂' F₂' hs₂' => ?_⟩))
            refine wpAny_execs_cons (wpAny_Continue ?_)
            refine done _ _ _ F₂' ?_ fun b o hb _ e => hs₂'.extBut b o hb e
            rw [show pstep p c = { p with part := p.part ++ [c] } by simp [pstep, he, hq, hc92, hc34]]
            exact ⟨hres, ⟨t', rfl⟩, hesc, hquo, its, plk hl hs₂', hs⟩
      | false =>
        simp only [Bool.false_eq_true, if_false]
        refine wpAny_execs_nil ?_
        refine wpAny_execs_cons (wpAny_If (wpAny_isTrue_Compare1 (ldl F₁.ns rfl (cstr (l := [44]) fun t₂ => eqS (wpAny_truthy_bool ?_)))))
        by_cases hc44 : c = 44
        · have : decide ([c] = [44]) = true := by simp [hc44]
          rw [this]
          simp only [if_true]
          refine wpAny_execs_cons (appS (ldl F₁.ns hres ⟨D, its, rfl, hl, ldl F₁.ns hpart ⟨hl, ?_, fun h₂' hl₂ hs₂' => ?_⟩⟩))
          · have : its.toList.length = p.res.length := by rw [StrsAre.length hs, List.length_map]
            rw [sizeLine_eq]; simp at this; omega
          have F₂' : Fr s.heap s.heap.objs.size h₂' _ := ⟨F₁.ns.sameBut hs₂' (Ne.symm hDL), fun b o e => hs₂'.extBut b o (by rintro rfl; rw [hD0] at e; cases e) (F₁.keep b o e), F₁.above⟩
          refine wpAny_execs_cons (wpAny_Assign_Name (cstr (l := []) fun t₃ => stK F₂' fun h₃' F₃' hs₃' => ?_))
          refine wpAny_execs_cons (wpAny_Continue ?_)
          refine done _ _ _ F₃' ?_ fun b o hb hbD e => hs₃'.extBut b o hb (hs₂'.extBut b o hbD e)
          rw [show pstep p c = { p with res := p.res ++ [p.part], part := [] } by simp [pstep, he, hq, hc44]]
          refine ⟨hres, ⟨t₃, rfl⟩, hesc, hquo, _, PlainL.at hl₂ fun o q => hs₃'.extBut _ o hDL q, ?_⟩
          rw [Array.toList_push, List.map_append]
          exact PySem.W.KStt.strs_snoc hs
        · have : decide ([c] = [44]) = false := by simp [hc44]
          rw [this]
          simp only [Bool.false_eq_true, if_false]
          refine wpAny_execs_nil ?_
          refine wpAny_execs_cons (wpAny_If (wpAny_isTrue_Compare1 (ldl F₁.ns rfl (cstr (l := [34]) fun t₃ => eqS (wpAny_truthy_bool ?_)))))
          by_cases hc34 : c = 34
          · have : decide ([c] = [34]) = true := by simp [hc34]
            rw [this]
            simp only [if_true]
            refine wpAny_execs_cons (wpAny_Assign_Name (Constant_bool (stK F₁ fun h₃' F₃' hs₃' => ?_)))
            refine wpAny_execs_nil ?_
            refine wpAny_execs_cons (augS F₃' hpart (ldl F₃'.ns rfl ⟨[c], tc, rfl, hlc, rfl, ⟨_, rfl⟩, fun t' tk₂ h₂' F₂' hs₂' => ?_⟩))
            refine wpAny_execs_nil ?_
            refine done _ _ _ F₂' ?_ fun b o hb _ e => hs₂'.extBut b o hb (hs₃'.extBut b o hb e)
            rw [show pstep p c = { p with quo := true, part := p.part ++ [c] } by simp [pstep, he, hq, hc34]]
            exact ⟨hres, ⟨t', rfl⟩, hesc, rfl, its, plk (plk hl hs₃') hs₂', hs⟩
          · have : decide ([c] = [34]) = false := by simp [hc34]
            rw [this]
            simp only [Bool.false_eq_true, if_false]
            refine wpAny_execs_nil ?_
            refine wpAny_execs_cons (augS F₁ hpart (ldl F₁.ns rfl ⟨[c], tc, rfl, hlc, rfl, ⟨_, rfl⟩, fun t' tk₂ h₂' F₂' hs₂' => ?_⟩))
            refine wpAny_execs_nil ?_
            refine done _ _ _ F₂' ?_ fun b o hb _ e => hs₂'.extBut b o hb e
            rw [show pstep p c = { p with part := p.part ++ [c] } by simp [pstep, he, hq, hc44, hc34]]
            exact ⟨hres, ⟨t', rfl⟩, hesc, hquo, its, plk hl hs₂', hs⟩
  case fin =>
    rintro I src h₆ tk m' rfl F₆ ⟨hDI, hP⟩
    rw [List.take_length] at hP
    have hpl := pfold_part x
    have hpm := pfold_mem x
    have hex : parse x = (pend (pfold x)).map strp := rfl
    rw [hex]
    generalize hp : pfold x = p at *
    obtain ⟨hres, ⟨tp, hpart⟩, hesc, hquo, its, hl, hs⟩ := hP
    refine wpAny_execs_cons (wpAny_mono (Q := fun f s' => f = .next ∧ ∃ h₇ tk₇ its', s' = { s with heap := h₇, toks := tk₇ } ∧ Fr s.heap s.heap.objs.size h₇ m' ∧ PlainL h₇ D its' ∧ StrsAre its'.toList ((pend p).map mkS)) ?ifp ?rest fun _ _ e => e)
    case ifp =>
      refine wpAny_If (isTrue_plain (ldl F₆.ns hpart (P.truthy_str (by rw [mkS_len]; omega) ?_)))
      rw [mkS_len]
      by_cases hpz : p.part = []
      · have : (((p.part.length : Nat) : Int) != 0) = false := by simp [hpz]
        rw [this]
        simp only [Bool.false_eq_true, if_false]
        refine wpAny_execs_nil ⟨rfl, h₆, _, its, rfl, F₆, hl, ?_⟩
        rw [show pend p = p.res by simp [pend, hpz]]; exact hs
      · have : (((p.part.length : Nat) : Int) != 0) = true := by simp [hpz]
        rw [this]
        simp only [if_true]
        refine wpAny_execs_cons (appS (ldl F₆.ns hres ⟨D, its, rfl, hl, ldl F₆.ns hpart ⟨hl, ?_, fun h₂' hl₂ hs₂' => ?_⟩⟩))
        · have : its.toList.length = p.res.length := by rw [StrsAre.length hs, List.length_map]
          rw [sizeLine_eq]; simp at this; omega
        refine wpAny_execs_nil ⟨rfl, h₂', _, _, rfl, ⟨F₆.ns.sameBut hs₂' (Ne.symm hDL), fun b o e => hs₂'.extBut b o (by rintro rfl; rw [hD0] at e; cases e) (F₆.keep b o e), F₆.above⟩, hl₂, ?_⟩
        rw [Array.toList_push, show pend p = p.res ++ [p.part] by simp [pend, hpz], List.map_append]
        exact PySem.W.KStt.strs_snoc hs
    case rest =>
      rintro f s' ⟨rfl, h₇, tk₇, its', rfl, F₇, hl₇, hs₇⟩
      refine wpAny_execs_cons (wpAny_Return_some ?_)
      have hlen : ∀ t ∈ pend p, t.length ≤ 1000000 := by
        intro t ht
        unfold pend at ht
        split at ht
        · exact Nat.le_trans (hpm t ht) hsz
        · rcases List.mem_append.mp ht with h | h
          · exact Nat.le_trans (hpm t h) hsz
          · rw [List.mem_singleton.mp h]; omega
      have hcnt : (pend p).length ≤ 1000001 := by
        unfold pend
        split
        · omega
        · rw [List.length_append, List.length_singleton]; omega
      have hrel : (rL rS).r Any h₇ (.ref D) (pend p) := ⟨D, its', rfl, trivial, hl₇, paired_of hs₇⟩
      refine (comp_val (RI := rS) (R := rS) (xs := pend p) (p := fun _ => true) (f := strp) (closureFor_none (by decide)) (by decide) rfl (by decide) rfl (fun E => ldl F₇.ns hres ⟨kRefl _, Src.ofL hh hrel⟩) ⟨fun _ _ _ _ _ _ _ _ _ _ => tests0 rfl, ?_⟩ (by rw [sizeLine_eq]; omega)).use ?_
      · intro t ht _ C v' s₂ m₂ e₂ hv' hn₂ hm₂ E
        obtain ⟨tt, rfl⟩ := hv'
        refine wpAny_Call_method_lateS rfl rfl rfl (ldl hn₂ hm₂ (SB.strip (fun t' k => ⟨kOf (Ext.refl _), t', ?_⟩) (by rw [mkS_len, sizeLine_eq]; have := hlen t ht; omega)))
        show Value.str (Txt.strip (mkS t)) t' = Value.str (mkS (strp t)) t'
        simp [strp]
      · intro z s₃ hK hz
        have e1 : ((pend p).filter fun _ => true) = pend p := List.filter_eq_self.mpr (fun _ _ => rfl)
        rw [e1] at hz
        exact ⟨kTrans (kOf F₇.keep) hK, (rL rS).older hz F₇.keep⟩
end
end Mine
end

/-! text C5 -/
section
open PySem PySem.W PyProof.Rows
set_option Elab.async false
set_option maxRecDepth 100000
namespace Mine

def cut (x : List Nat) : List Nat := (x.drop 1).take (x.length - 2)
def readT (x : List Nat) : List (List (List Nat)) := (parse x).map fun it => parse (cut it)

theorem cut_len (x : List Nat) : (cut x).length ≤ x.length := by
  unfold cut; rw [List.length_take, List.length_drop]; omega

theorem cut_picked (x : List Nat) : (Builtin.Str.strSliceIndices (some 1) (some (-1)) 1 (mkS x).length).filterMap ((mkS x).cps[·]?) = cut x := by
  rw [mkS_len]
  match x with
  | [] => rfl
  | [a] => rfl
  | a :: b :: r =>
    have h := StrLaws.sliced_plain (mkS (a :: b :: r)) (a := 1) (b := r.length + 1) (by omega) (by rw [mkS_len]; simp)
    rw [mkS_len] at h
    have e : Builtin.Str.strSliceIndices (some 1) (some (-1)) 1 (a :: b :: r).length = Builtin.Str.strSliceIndices (some ((1 : Nat) : Int)) (some ((r.length + 1 : Nat) : Int)) 1 (a :: b :: r).length := by
      unfold Builtin.Str.strSliceIndices
      have h1 : (-1 : Int) + ((a :: b :: r).length : Nat) = ((r.length + 1 : Nat) : Int) := by simp; omega
      have h2 : ¬ (((r.length + 1 : Nat) : Int) < 0) := by omega
      simp only [show ((-1 : Int) < 0) = True by simp, if_true, h1, h2, if_false]
      rfl
    rw [e, h]
    simp [cut]

theorem strp_len (x : List Nat) : (strp x).length ≤ x.length := by
  have := len_strip (mkS x)
  have e : (Txt.strip (mkS x)).length = (strp x).length := by simp [strp, Str.length]
  rw [e, mkS_len] at this; exact this
theorem pend_mem (x : List Nat) : ∀ t ∈ pend (pfold x), t.length ≤ x.length := by
  intro t ht
  unfold pend at ht
  split at ht
  · exact pfold_mem x t ht
  · rcases List.mem_append.mp ht with h | h
    · exact pfold_mem x t h
    · rw [List.mem_singleton.mp h]; exact (pfold_part x).1
theorem parse_mem (x : List Nat) : ∀ t ∈ parse x, t.length ≤ x.length := by
  intro t ht
  obtain ⟨u, hu, rfl⟩ := List.mem_map.mp ht
  exact Nat.le_trans (strp_len u) (pend_mem x u hu)
theorem parse_cnt (x : List Nat) : (parse x).length ≤ x.length + 1 := by
  have := (pfold_part x).2
  unfold parse pend
  rw [List.length_map]
  split
  · omega
  · rw [List.length_append, List.length_singleton]; omega

section
variable {prog : Program} {w : World} {A : Around} {s : Shared} {env : Env} {E : Value → Shared → Prop} {Q : Value → Shared → Prop}

/-- x[1:-1] of a text -/
theorem cutE {x : Str} {t : List Nat} {tt : Tok} {m : Str → Option Value} {p1 p2 p3 p4 p5 p6 : Pos} {k1 k2 : Nat} (hn : s.heap.Ns env.locals m) (hm : m x = some (.str (mkS t) tt)) (hsz : t.length ≤ 1000000)
    (h : ∀ t' h' tk, Ext s.heap h' → Q (.str (mkS (cut t)) t') { s with heap := h', toks := tk })
    (hk : env.scope.kind = .function := by rfl) (hl : env.kindOf x = some .local := by rfl) (hd : (x == ("__debug__" : Str)) = false := by decide) :
    wpAny (model prog w) A (eval (.Subscript (.Name x p1) (.Slice (some (.Constant (.int 1) k1 p2)) (some (.UnaryOp .USub (.Constant (.int 1) k2 p3) p4)) none p5) p6) env) Q E s := by
  refine wpAny_Subscript_str_slice (ldl hn hm (evalPart_some_step (wpAny_Constant_int (evalPart_some_step (UnaryOp_ (wpAny_Constant_int (PyProof.Rows.neg_int ⟨mkS t, tt, some (1, _), some (-1, _), rfl, rfl, rfl, ?_⟩)))))) hk hl hd)
  have hp : (slicePicked (mkS t) (some ((1 : Int), s.toks)) (some ((-1 : Int), s.toks + 1 + 1)) none).filterMap ((mkS t).cps[·]?) = cut t := cut_picked t
  unfold sliceMade
  by_cases hc : ((Option.map (fun x : Int × Tok => x.1) none).getD (1 : Int) == 1 && (slicePicked (mkS t) (some ((1 : Int), s.toks)) (some ((-1 : Int), s.toks + 1 + 1)) none).length == (mkS t).length) = true
  · rw [if_pos hc]
    have hlen : (slicePicked (mkS t) (some ((1 : Int), s.toks)) (some ((-1 : Int), s.toks + 1 + 1)) none).length = t.length := by
      have := (Bool.and_eq_true_iff.mp hc).2
      rw [mkS_len] at this; simpa using this
    have hz : t = [] := by
      match t, hlen with
      | [], _ => rfl
      | [c], hlen => exact absurd (show (0 : Nat) = 1 from hlen) (by decide)
      | c :: d :: r, hlen =>
        have h1 := StrLaws.strSliceIndices_plain (a := 1) (b := r.length + 1) (len := (c :: d :: r).length) (by omega) (by simp)
        have e : slicePicked (mkS (c :: d :: r)) (some ((1 : Int), s.toks)) (some ((-1 : Int), s.toks + 1 + 1)) none = Builtin.Str.strSliceIndices (some ((1 : Nat) : Int)) (some ((r.length + 1 : Nat) : Int)) 1 (c :: d :: r).length := by
          show Builtin.Str.strSliceIndices (some 1) (some (-1)) 1 (mkS (c :: d :: r)).length = _
          rw [mkS_len]
          unfold Builtin.Str.strSliceIndices
          have h1 : (-1 : Int) + ((c :: d :: r).length : Nat) = ((r.length + 1 : Nat) : Int) := by simp; omega
          have h2 : ¬ (((r.length + 1 : Nat) : Int) < 0) := by omega
          simp only [show ((-1 : Int) < 0) = True by simp, if_true, h1, h2, if_false]
          rfl
        rw [e, h1] at hlen
        simp at hlen
        omega
    subst hz
    exact h tt _ _ (push_ext _ _)
  · rw [if_neg hc]
    refine ⟨?_, ?_⟩
    · rw [hp, mkS_len, sizeLine_eq]; have := cut_len t; omega
    · rw [hp]; exact h _ _ _ (push_ext _ _)

theorem isFunK {h h' : Heap} {k : Nat} {a : Addr} (x : isFun h k a) (e : Ext h h') : isFun h' k a := let ⟨o, pm, c, d, h1, h2, h3⟩ := x; ⟨o, pm, c, d, e _ _ h1, h2, h3.keeps e⟩
theorem Gl.fun4 {mg mb : Str → Option Value} {h : Heap} (G : Gl mg mb h) : ∃ a, mg (fR 4).name = some (.ref a) ∧ isFun h 4 a := G.fn 4 (by omega)

set_option maxHeartbeats 1000000 in
theorem con_read {a : Addr} {mg mb : Str → Option Value} (G : Gl mg mb s.heap) (r : Rm 2 A) (hf : isFun s.heap 10 a) {v : Value} {x : List Nat} {tx : Tok} (hv : v = .str (mkS x) tx) (hsz : x.length ≤ 900000) :
    Ev prog w A (call (.ref a) [v]) s (fun z s' => (rL (rL rS)).r (New s.heap) s'.heap z (readT x)) := by
  subst hv
  refine callF (k := 10) (binds := [("text", .str (mkS x) tx)]) (by have := r.depth; omega) hf G.nolimit (fun _ _ _ => rfl) (locs rfl) (fun h₁ cd F => ?_) rfl rfl rfl (by decide)
  have r' := r.deeper (envOf (fR 10).name (fR 10).scope s.heap.objs.size a cd)
  have hh := r'.hh
  have G₁ := G.keeps F.keep
  refine wpAny_execs_cons (wpAny_Return_some ?_)
  refine (comp_val (RI := rS) (R := rL rS) (xs := parse x) (p := fun _ => true) (f := fun it => parse (cut it)) (closureFor_none (by decide)) (by decide) rfl (by decide) rfl (fun E => ?_) ⟨fun _ _ _ _ _ _ _ _ _ _ => tests0 rfl, ?_⟩ ?_).use ?_
  · refine callN1 (k := 4) G₁ (by omega) fun f hF => ldl F.ns rfl ⟨Ext.refl _, (con_parse r' hF G₁.nolimit rfl (by omega)).use fun z s' hK hz => ⟨hK, Src.ofL hh hz⟩⟩
  · intro t ht _ C v' s₂ m₂ e₂ hv' hn₂ hm₂ E
    obtain ⟨tt, rfl⟩ := hv'
    have hlen := parse_mem x t ht
    have hc := cut_len t
    refine callN1 (k := 4) (G₁.keeps e₂) (by omega) fun f hF => cutE hn₂ hm₂ (by omega) fun t' h' tk e' => ⟨e', ?_⟩
    refine (con_parse (s := { s₂ with heap := h', toks := tk }) r' (isFunK hF e') ((G₁.keeps e₂).keeps e').nolimit rfl (by omega)).use fun z s' hK hz => ⟨kTrans (kOf e') hK, (rL rS).older hz e'⟩
  · have := parse_cnt x; rw [sizeLine_eq]; omega
  · intro z s₃ hK hz
    have e1 : ((parse x).filter fun _ => true) = parse x := List.filter_eq_self.mpr (fun _ _ => rfl)
    rw [e1] at hz
    exact ⟨kTrans (kOf F.keep) hK, (rL (rL rS)).older hz F.keep⟩
end
end Mine
end

/-! text E1 -/
section
open PySem PySem.W PyProof.Rows
set_option Elab.async false
set_option maxRecDepth 100000
namespace Mine

/-- an IndexError in flight: st = none: not yet noted; some fl: noted, its flight field is fl; c: no context -/
def Exn (base h : Heap) (e : Addr) (st : Option Value) (c : Bool) : Prop :=
  base.get? e = none ∧ ∃ oe vs, h.get? e = some oe ∧ oe.cls = .type "IndexError" ∧ oe.data = .fields vs ∧ 2 < vs.size ∧ (c = true → vs[2]? = some .none) ∧
    (match st with
     | none => vs[1]? = some .none
     | some fl => ∃ T oT ts, vs[1]? = some (.ref T) ∧ T ≠ e ∧ base.get? T = none ∧ h.get? T = some oT ∧ oT.data = .fields ts ∧ ts[3]? = some fl)

/-- the heap goes on: all but records is as it was, up to slots; the base stays -/
def Via (base h h' : Heap) : Prop := h.UpToSlots h' ∧ ∀ b o, base.get? b = some o → h.get? b = some o → h'.get? b = some o
theorem Via.refl (base h : Heap) : Via base h h := ⟨.refl h, fun _ _ _ e => e⟩
theorem Via.trans {base a b c : Heap} (x : Via base a b) (y : Via base b c) : Via base a c := ⟨x.1.trans y.1, fun p o hb e => y.2 p o hb (x.2 p o hb e)⟩
theorem Via.ext {base h h' : Heap} (e : Ext h h') : Via base h h' := ⟨.of_keeps e, fun b o _ q => e b o q⟩

section
variable {M : Model} {A : Around} {E : Value → Shared → Prop} {s : Shared}

theorem setFlightX {base : Heap} {e : Addr} {fl : Value} {c : Bool} {fr : Option Addr} {Q : Unit → Shared → Prop} (x : Exn base s.heap e (some fl) c)
    (h : ∀ h', Via base s.heap h' → Exn base h' e (some (fr.elim .none fun f => rawInt f)) c → Q () { s with heap := h' }) : wpAny M A (setFlight (.ref e) fr) Q E s := by
  obtain ⟨hen, oe, vs, he, hcls, hd, hsz, hc, T, oT, ts, h1, hTe, hnT, hT, hdT, h3⟩ := x
  have hsz3 : 3 < ts.size := (Array.getElem?_eq_some_iff.mp h3).1
  have other : ∀ b, b ≠ T → (s.heap.update T (Obj.mapFields (·.setIfInBounds 3 (fr.elim Value.none fun f => rawInt f)))).get? b = s.heap.get? b :=
    fun b hb => Heap.get?_update_other _ _ (Ne.symm hb)
  have noRecord : ∀ b o, s.heap.get? b = some o → (∀ vs, o.data ≠ .fields vs) → b ≠ T := fun b o hb hnf q => by
    rw [q, hT] at hb; injection hb with hb; subst hb; exact hnf ts hdT
  unfold setFlight
  refine wpAny_bind (wpAny_field he hd h1 ?_)
  rw [if_pos (show (Value.ref T != Value.none) = true from by simp)]
  refine wpAny_setField hT hdT hsz3 (h _ ⟨fun b o hb hnf => ⟨o.slots, (other b (noRecord b o hb hnf)).trans hb⟩, fun b o hb q => (other b fun q' => by rw [q', hnT] at hb; cases hb).trans q⟩ ?_)
  exact ⟨hen, oe, vs, (other e (Ne.symm hTe)).trans he, hcls, hd, hsz, hc, T, _, _, h1, hTe, hnT, Heap.get?_update_self _ hT (Obj.isFreed_of_fields (Obj.data_mapFields hdT _)), Obj.data_mapFields hdT _, by simp [hsz3]⟩

theorem noteX {base : Heap} {env : Env} {outer : List Env} {L e : Addr} {c : Bool} {Q : Unit → Shared → Prop} (hfr : A.frames = some (env :: outer)) (hl : s.heap.FunFrames base (env :: outer)) (hf : env.frame = some L)
    (x : Exn base s.heap e none c) (hst : base.StaysIn s.heap) (h : ∀ h', Via base s.heap h' → Exn base h' e (some (rawInt L)) c → Q () { s with heap := h' }) : wpAny M A (noteFrame (.ref e) env) Q E s := by
  obtain ⟨hen, oe, vs, he, hcls, hd, hsz, hc, h1⟩ := x
  have hene : e ∉ (env :: outer).filterMap (·.frame) := fun hm => by
    obtain ⟨_, o, ho, hnf⟩ := hl.mem hm
    rw [he] at ho; injection ho with ho; subst ho; exact hnf vs hd
  unfold noteFrame
  simp only [hf]
  refine wpAny_bind (wpAny_field he hd h1 ?_)
  rw [if_neg (by decide)]
  refine wpAny_bind (wpAny_frameOf_fun hfr hl hf fun h₁ hs₁ => ?_)
  refine wpAny_bind (wpAny_entryPlaceOf fun pl hpl => ?_)
  unfold EntryCells.newEntry newFields
  refine wpAny_bind (wpAny_newObj_type ?_ (hpl.sizeOk5 _ _ _ _ _))
  have he₁ : h₁.get? e = some oe := (hs₁.2.1 e hene).trans he
  have kb₁ : base.StaysIn h₁ := fun b o hbo => (hs₁.2.1 b fun hm => by rw [(hl.mem hm).1] at hbo; cases hbo).trans (hst b o hbo)
  have he₂ := Heap.get?_push_of_some (h := h₁) { cls := .type "traceback", dict := none, data := .fields ([Value.none, .ref L, .none, rawInt L, .none] ++ (if pl.isEmpty then List.replicate 6 Value.none else pl)).toArray } he₁
  have hsz1 : 1 < vs.size := by omega
  refine wpAny_setField he₂ hd hsz1 (h _ ?_ ?_)
  all_goals
    have hTe : h₁.objs.size ≠ e := Nat.ne_of_gt (Heap.lt_size he₁)
    have keep : ∀ b o, b ≠ e → h₁.get? b = some o →
        ((h₁.push { cls := .type "traceback", dict := none, data := .fields ([Value.none, .ref L, .none, rawInt L, .none] ++ (if pl.isEmpty then List.replicate 6 Value.none else pl)).toArray }).update e (Obj.mapFields (·.setIfInBounds 1 (Value.ref h₁.objs.size)))).get? b = some o :=
      fun b o hbe hb => by
        rw [Heap.get?_update_other _ _ (Ne.symm hbe)]
        exact Heap.get?_push_of_some _ hb
    have noRecord : ∀ b o, s.heap.get? b = some o → (∀ vs, o.data ≠ .fields vs) → b ≠ e := fun b o hb hnf q => by
      rw [q, he] at hb; injection hb with hb; subst hb; exact hnf vs hd
  · refine ⟨fun b o hb hnf => ?_, fun b o hbo _ => keep b o (fun q => by rw [q, hen] at hbo; cases hbo) (kb₁ b o hbo)⟩
    obtain ⟨sl, hs⟩ := hs₁.2.2 b o hb
    exact ⟨sl, keep b _ (noRecord b o hb hnf) hs⟩
  · have hd₃ := Obj.data_mapFields hd (·.setIfInBounds 1 (Value.ref h₁.objs.size))
    have he₃ := Heap.get?_update_self (Obj.mapFields (·.setIfInBounds 1 (Value.ref h₁.objs.size))) he₂ (Obj.isFreed_of_fields hd₃)
    have hT₃ := (Heap.get?_update_other (h₁.push { cls := .type "traceback", dict := none, data := .fields ([Value.none, .ref L, .none, rawInt L, .none] ++ (if pl.isEmpty then List.replicate 6 Value.none else pl)).toArray })
      (Obj.mapFields (·.setIfInBounds 1 (Value.ref h₁.objs.size))) (Ne.symm hTe)).trans (Heap.get?_push_size h₁ rfl)
    refine ⟨hen, _, _, he₃, (Obj.cls_mapFields _ _).trans hcls, hd₃, by simpa using hsz, fun hct => ?_, h₁.objs.size, _, _, by simp [hsz1], hTe, kb₁.fresh, hT₃, rfl, ?_⟩
    · rw [Array.getElem?_setIfInBounds_ne (by decide)]; exact hc hct
    · first | (simp; done) | (rcases hpl with rfl | ⟨_, _, _, _, _, _, _, rfl⟩ <;> simp)

theorem noteAgain {base : Heap} {env : Env} {L e : Addr} {c : Bool} {Q : Unit → Shared → Prop} (hf : env.frame = some L) (x : Exn base s.heap e (some (rawInt L)) c) (h : Q () s) : wpAny M A (noteFrame (.ref e) env) Q E s := by
  obtain ⟨hen, oe, vs, he, hcls, hd, hsz, hc, T, oT, ts, h1, hTe, hnT, hT, hdT, h3⟩ := x
  unfold noteFrame
  simp only [hf]
  refine wpAny_bind (wpAny_field he hd h1 ?_)
  rw [if_pos (show (Value.ref T != Value.none) = true from by simp)]
  refine wpAny_bind (wpAny_field hT hdT h3 ?_)
  rw [if_pos (show (rawInt L == rawInt L) = true from by simp)]
  exact wpAny_pure h

/-- an exception that came back into its own frame's activation -/
theorem cameBackX {base : Heap} {env : Env} {L e : Addr} {fl : Value} {c : Bool} (hf : env.frame = some L) (x : Exn base s.heap e (some fl) c)
    (h : ∀ h', Via base s.heap h' → Exn base h' e (some (rawInt L)) c → E (.ref e) { s with heap := h' }) : cameBackBy M A env E (.ref e) s := by
  have x' := x
  obtain ⟨hen, oe, vs, he, hcls, hd, hsz, hc, T, oT, ts, h1, hTe, hnT, hT, hdT, h3⟩ := x'
  unfold cameBackBy
  refine wpAny_bind (wpAny_field he hd h1 ?_)
  rw [if_neg (by simp)]
  rw [hf]
  exact setFlightX x fun h' v x' => h h' v x'

theorem passOnX {α : Type} {what : String} {base : Heap} {env : Env} {L e : Addr} {fl : Value} {c : Bool} {Q : α → Shared → Prop} (hf : env.frame = some L) (x : Exn base s.heap e (some fl) c)
    (h : ∀ h', Via base s.heap h' → Exn base h' e (some (rawInt L)) c → E (.ref e) { s with heap := h' }) : wpAny M A (PySem.passOn what (.ref e) env : Sem α) Q E s := by
  have x' := x
  obtain ⟨hen, oe, vs, he, hcls, hd, hsz, hc, T, oT, ts, h1, hTe, hnT, hT, hdT, h3⟩ := x'
  unfold PySem.passOn
  refine wpAny_bind (wpAny_field he hd h1 ?_)
  rw [if_neg (by simp), hf]
  exact wpAny_bind (setFlightX x fun h' v x' => wpAny_throw (h h' v x'))

/-- what is handled where an error may come up -/
def HdOk (A : Around) (h : Heap) (c : Bool) : Prop := (c = true ∧ A.handled = none) ∨ (c = false ∧ ∃ e₁ o₁ vs₁, A.handled = some (.ref e₁) ∧ h.get? e₁ = some o₁ ∧ o₁.data = .fields vs₁ ∧ vs₁[2]? = some .none)

end

section
variable {prog : Program} {w : World} {A : Around} {E : Value → Shared → Prop} {s : Shared}

theorem entry_unchain : entryFor table "proto.unchain" = some Builtin.«proto.unchain» := entryFor_of_tree (by kernel_rfl)

theorem raiseIx {α : Type} {base : Heap} {msg : String} {c : Bool} {Q : α → Shared → Prop} (hst : base.StaysIn s.heap) (hh : HdOk A s.heap c)
    (h : ∀ h' tk e, Ext s.heap h' → Exn base h' e none c → E (.ref e) { s with heap := h', toks := tk }) : wpAny (model prog w) A (raiseErrorWords "IndexError" msg : Sem α) Q E s := by
  unfold raiseErrorWords
  refine wpAny_bind (wpAny_mkText (wpAny_bind ?_))
  unfold newExc newTuple
  refine wpAny_bind (wpAny_newObj_type ?_)
  refine wpAny_bind (m := firstArgMember _ _) (wpAny_of_eq (a := Value.none) (by simp only [firstArgMember, plainExc_IndexError.first]; rfl) ?_)
  rw [plainExc_IndexError.own]
  refine wpAny_newObj_type ?_
  unfold raiseNew
  refine wpAny_bind (wpAny_handled ?_)
  have fr : ∀ a : Nat, s.heap.objs.size ≤ a → base.get? a = none := fun a ha => by
    cases q : base.get? a with
    | none => rfl
    | some o => have := ltSz (hst _ _ q); omega
  rcases hh with ⟨rfl, hh⟩ | ⟨rfl, e₁, o₁, vs₁, hh, he₁, hd₁, hc₁⟩
  · rw [hh]
    first
      | refine wpAny_throw ?_
      | refine wpAny_bind (wpAny_pure (wpAny_throw ?_))
    refine h _ _ _ (fun b o hb => Heap.get?_push_of_some _ (Heap.get?_push_of_some _ hb)) ⟨fr _ (by simp), _, _, Heap.get?_push_size _ rfl, rfl, rfl, by simp, fun _ => by simp, by simp⟩
  · rw [hh]
    dsimp only
    generalize hH : (s.heap.push { cls := .type "tuple", data := .seq [Value.str (Str.ofString msg) s.toks].toArray }) = H1
    have hs1 : H1.objs.size = s.heap.objs.size + 1 := by rw [← hH, Heap.size_push]
    have hlt := ltSz he₁
    rw [if_pos (by simp only [bne_iff_ne, ne_eq, Value.ref.injEq]; exact neN (by omega))]
    have e1 : Ext s.heap H1 := hH ▸ push_ext _ _
    refine wpAny_bind (wpAny_holding (wpAny_runValue (codeAny_builtin entry_unchain ?_)))
    unfold Builtin.«proto.unchain»
    dsimp only
    refine wpAny_bind (wpAny_field (push_ext _ _ _ _ (e1 _ _ he₁)) hd₁ hc₁ ?_)
    rw [if_pos (by rfl)]
    refine wpAny_pure ?_
    show wpAny _ _ (setField (.ref H1.objs.size) 2 (.ref e₁) >>= fun _ => throw _) _ _ _
    refine wpAny_bind (wpAny_setField (Heap.get?_push_size _ rfl) rfl (by simp) (wpAny_throw ?_))
    refine h _ _ _ (fun b o hb => ?_) ⟨fr _ (by omega), _, _, Heap.get?_update_self _ (Heap.get?_push_size _ rfl) rfl, rfl, rfl, by simp, (fun q => by cases q), by simp⟩
    have := ltSz hb
    rw [Heap.get?_update_other _ _ (neN (by omega))]
    exact push_ext _ _ _ _ (e1 _ _ hb)

theorem itemOut {base : Heap} {l : Addr} {items : Array Value} {k : Int} {t : Tok} {c : Bool} {Q : Value → Shared → Prop} (hst : base.StaysIn s.heap) (hh : HdOk A s.heap c) (hl : s.heap.IsList l items) (hout : (items.size : Int) ≤ k) (hlo : -(2 ^ 63) ≤ k) (hhi : k < 2 ^ 63)
    (hE : ∀ h' tk e, Ext s.heap h' → Exn base h' e none c → E (.ref e) { s with heap := h', toks := tk }) : wpAny (model prog w) A (getItem (.ref l) (.int k t)) Q E s := by
  obtain ⟨o, ho, hc, ne, hd⟩ := id hl
  unfold getItem
  try with_reducible refine wpAny_holding ?_
  first | refine wpAny_bind (wpAny_pure ?_) | skip
  refine wpAny_bind (wpAny_sequenceKey hl.typeIs (by decide) ?_)
  refine wpAny_bind (wpAny_callSpecial?_slot (name := Str.ofString "__getitem__") hl.typeIs slot_list_getitem
    (wpAny_call_entry slot_list_getitem hl.typeIs entry_list_getitem ?_ (args_list_getitem _ _)))
  show wpAny _ _ (Builtin.List.listSubscript? (.int k t) >>= _) _ _ s
  refine wpAny_bind (wpAny_listSubscript_int (fitsIndex_both hlo hhi) ?_)
  clear hlo hhi
  obtain ⟨j, rfl⟩ : ∃ j, k = Int.ofNat j := by
    cases k with
    | negSucc j => exact absurd hout (by have := Int.negSucc_lt_zero j; omega)
    | ofNat j => exact ⟨j, rfl⟩
  have hx : items[j]? = none := Array.getElem?_eq_none (by have : (items.size : Int) ≤ (j : Int) := hout; omega)
  show wpAny _ _ ((seqItemAt l j >>= fun r => pure (r.map (j, ·))) >>= _) _ _ s
  refine wpAny_bind (wpAny_bind (wpAny_seqItemAt ho hd (wpAny_pure ?_)))
  rw [hx]
  have hh' : HdOk A.in1 s.heap c := hh
  exact wpAny_bind (wpAny_rule (wpAny_bind (raiseIx hst hh' hE)))

/-- x[i], both names of the frame -/
theorem subN {env : Env} {base : Heap} {x i : Str} {p1 p2 p3 : Pos} {l : Addr} {items : Array Value} {j : Nat} {t : Tok} {c : Bool} {m : Str → Option Value} {Q : Value → Shared → Prop} (hst : base.StaysIn s.heap) (hh : HdOk A s.heap c)
    (hn : s.heap.Ns env.locals m) (hx : m x = some (.ref l)) (hi : m i = some (.int (j : Int) t)) (hl : s.heap.IsList l items) (hj : j < 2 ^ 62)
    (hQ : ∀ h : j < items.size, Q items[j] s) (hE : items.size ≤ j → ∀ h' tk e, Ext s.heap h' → Exn base h' e none c → E (.ref e) { s with heap := h', toks := tk })
    (hk : env.scope.kind = .function := by rfl) (hlx : env.kindOf x = some .local := by rfl) (hli : env.kindOf i = some .local := by rfl) (hdx : (x == ("__debug__" : Str)) = false := by decide) (hdi : (i == ("__debug__" : Str)) = false := by decide) :
    wpAny (model prog w) A (eval (.Subscript (.Name x p1) (.Name i p2) p3) env) Q E s := by
  refine Subscript_Name (ldl hn hx (ldl hn hi ⟨"list", _, slot_list_getitem.lookup, hl.typeIs, ?_⟩ hk hli hdi) hk hlx hdx)
  by_cases h : j < items.size
  · exact wpAny_getItem_list hl (by omega) (by omega) (by simp [h]) (hQ h)
  · exact itemOut hst hh hl (by omega) (by omega) (by omega) (hE (by omega))
end
end Mine
end

/-! text E2 -/
section
open PySem PySem.W PyProof.Rows
set_option Elab.async false
set_option maxRecDepth 100000
namespace Mine

structure Wd (base g : Heap) (L : Addr) (h : Heap) (m : Str → Option Value) : Prop where
  ns : h.Ns L m
  stay : base.StaysIn h
  up : g.UpToSlots h
  newB : base.get? L = none
  newG : g.get? L = none

theorem Wd.via {base g h h' : Heap} {L : Addr} {m : Str → Option Value} (W : Wd base g L h m) (v : Via base h h') : Wd base g L h' m :=
  ⟨v.1.ns W.ns, fun b o e => v.2 b o e (W.stay b o e), W.up.trans v.1, W.newB, W.newG⟩
theorem Wd.change {base g h h' : Heap} {L D : Addr} {m : Str → Option Value} (W : Wd base g L h m) (hs : Heap.SameBut D h h') (hb : base.get? D = none) (hg : g.get? D = none) (hD : D ≠ L) : Wd base g L h' m :=
  ⟨W.ns.sameBut hs (Ne.symm hD), fun b o e => hs.extBut b o (by rintro rfl; rw [hb] at e; cases e) (W.stay b o e), fun b o e hn => by
    obtain ⟨sl, q⟩ := W.up b o e hn
    exact ⟨sl, hs.extBut b _ (by rintro rfl; rw [hg] at e; cases e) q⟩, W.newB, W.newG⟩
theorem Wd.store {base g h h' : Heap} {L : Addr} {m m' : Str → Option Value} (W : Wd base g L h m) (hs : Heap.SameBut L h h') (hn : h'.Ns L m') : Wd base g L h' m' :=
  ⟨hn, fun b o e => hs.extBut b o (by rintro rfl; rw [W.newB] at e; cases e) (W.stay b o e), fun b o e hn => by
    obtain ⟨sl, q⟩ := W.up b o e hn
    exact ⟨sl, hs.extBut b _ (by rintro rfl; rw [W.newG] at e; cases e) q⟩, W.newB, W.newG⟩
theorem Wd.frames {base g h : Heap} {L : Addr} {m : Str → Option Value} {env : Env} {outer : List Env} (W : Wd base g L h m) (hk : env.scope.kind = .function) (hf : env.frame = some L) (hg : g.FunFrames base outer) : h.FunFrames base (env :: outer) :=
  Heap.FunFrames.cons (by rw [hk]; decide) hf W.ns W.newB (hg.of_keeps fun b o e hn => by obtain ⟨sl, q⟩ := W.up b o e hn; exact ⟨_, q, rfl⟩)
theorem plVia {base h h' : Heap} {a : Addr} {its : Array Value} (x : PlainL h a its) (v : Via base h h') : PlainL h' a its := by
  obtain ⟨o, n, ho, hc, hd, hdat⟩ := x
  obtain ⟨sl, q⟩ := v.1 a o ho fun vs e => by rw [hdat] at e; cases e
  exact ⟨_, n, q, hc, hd, hdat⟩

section
variable {prog : Program} {w : World} {A : Around} {s : Shared} {env : Env} {E : Value → Shared → Prop} {base g : Heap} {outer : List Env} {m : Str → Option Value}

theorem stW {x : Str} {v : Value} {Q : Unit → Shared → Prop} (W : Wd base g env.locals s.heap m)
    (h : ∀ h', Wd base g env.locals h' (fun y => if y = x then some v else m y) → Heap.SameBut env.locals s.heap h' → Q () { s with heap := h', toks := s.toks + 1 })
    (hl : env.kindOf x = some .local := by rfl) (hp : (env.scope.kind == .class || (env.scope.kind == .module && env.locals != env.globals)) = false := by rfl) :
    wpAny (model prog w) A (storeName env x v) Q E s := wpAny_storeName_local hl W.ns (fun h' hn hs => h h' (W.store hs hn) hs) hp

/-- x += 1 -/
theorem incW {x : Str} {px pos p1 : Pos} {k : Nat} {j : Nat} {t : Tok} {Q : Flow → Shared → Prop} (W : Wd base g env.locals s.heap m) (hv : m x = some (.int (j : Int) t))
    (h : ∀ t' tk h', Wd base g env.locals h' (fun y => if y = x then some (.int ((j + 1 : Nat) : Int) t') else m y) → Heap.SameBut env.locals s.heap h' → Q .next { s with heap := h', toks := tk })
    (hk : env.scope.kind = .function := by rfl) (hl : env.kindOf x = some .local := by rfl) (hp : (env.scope.kind == .class || (env.scope.kind == .module && env.locals != env.globals)) = false := by rfl) :
    wpAny (model prog w) A (exec (.AugAssign (.Name x px) .Add (.Constant (.int 1) k p1) pos) env) Q E s := by
  refine wpAny_AugAssign_Name (wpAny_loadName_local hk hl W.ns hv (wpAny_Constant_int ?_))
  refine iadd_int ?_
  refine stW (s := _) W (fun h' W' hs' => ?_) hl hp
  exact h _ _ h' (by simpa using W') hs'

def dropE {β : Type} (c : β → β → Ordering) (x : β) (l : List β) : List β := l.dropWhile fun z => c z x == .eq

/-- as it was, up to slots, but for the records and L -/
def UpBut (L : Addr) (h h' : Heap) : Prop := ∀ b o, b ≠ L → h.get? b = some o → (∀ vs, o.data ≠ .fields vs) → ∃ sl, h'.get? b = some { o with slots := sl }
theorem UpBut.refl (L : Addr) (h : Heap) : UpBut L h h := fun _ o _ e _ => ⟨o.slots, e⟩
theorem UpBut.trans {L : Addr} {a b c : Heap} (x : UpBut L a b) (y : UpBut L b c) : UpBut L a c := fun p o hp e hn => by
  obtain ⟨sl, q⟩ := x p o hp e hn
  obtain ⟨sl', q'⟩ := y p _ hp q hn
  exact ⟨sl', q'⟩
theorem UpBut.same {L : Addr} {h h' : Heap} (x : Heap.SameBut L h h') : UpBut L h h' := fun b o hb e _ => ⟨o.slots, x.extBut b o hb e⟩
theorem UpBut.ups {L : Addr} {h h' : Heap} (x : h.UpToSlots h') : UpBut L h h' := fun b o _ e hn => x b o e hn
theorem plUp {L : Addr} {h h' : Heap} {a : Addr} {its : Array Value} (x : PlainL h a its) (v : UpBut L h h') (ha : a ≠ L) : PlainL h' a its := by
  obtain ⟨o, n, ho, hc, hd, hdat⟩ := x
  obtain ⟨sl, q⟩ := v a o ha ho fun vs e => by rw [hdat] at e; cases e
  exact ⟨_, n, q, hc, hd, hdat⟩

theorem HdOk.same {A : Around} {h h' : Heap} {c : Bool} {L : Addr} {m : Str → Option Value} (x : HdOk A h c) (hn : h.Ns L m) (hs : Heap.SameBut L h h') : HdOk A h' c := by
  rcases x with x | ⟨hc, e₁, o₁, vs₁, hh, he, hd, h2⟩
  · exact .inl x
  · refine .inr ⟨hc, e₁, o₁, vs₁, hh, hs.extBut _ _ ?_ he, hd, h2⟩
    rintro rfl
    obtain ⟨o, es, ep, ho, hdat, _⟩ := hn
    rw [he] at ho; cases ho; rw [hd] at hdat; cases hdat
theorem Exn.same {base h h' : Heap} {e : Addr} {st : Option Value} {c : Bool} {L : Addr} {m : Str → Option Value} (x : Exn base h e st c) (hn : h.Ns L m) (hs : Heap.SameBut L h h') : Exn base h' e st c := by
  obtain ⟨hen, oe, vs, he, hcls, hd, hsz, hc, r⟩ := x
  obtain ⟨o, es, ep, ho, hdat, _⟩ := hn
  have ne : ∀ {b : Addr} {o' : Obj} {us : Array Value}, h.get? b = some o' → o'.data = .fields us → b ≠ L := fun {b o' us} q q' z => by
    rw [z, ho] at q; cases q; rw [hdat] at q'; cases q'
  refine ⟨hen, oe, vs, hs.extBut _ _ (ne he hd) he, hcls, hd, hsz, hc, ?_⟩
  cases st with
  | none => exact r
  | some fl =>
    obtain ⟨T, oT, ts, h1, hTe, hnT, hT, hdT, h3⟩ := r
    exact ⟨T, oT, ts, h1, hTe, hnT, hs.extBut _ _ (ne hT hdT) hT, hdT, h3⟩
theorem Exn.ext {base h h' : Heap} {e : Addr} {st : Option Value} {c : Bool} (x : Exn base h e st c) (k : Ext h h') : Exn base h' e st c := by
  obtain ⟨hen, oe, vs, he, hcls, hd, hsz, hc, r⟩ := x
  refine ⟨hen, oe, vs, k _ _ he, hcls, hd, hsz, hc, ?_⟩
  cases st with
  | none => exact r
  | some fl =>
    obtain ⟨T, oT, ts, h1, hTe, hnT, hT, hdT, h3⟩ := r
    exact ⟨T, oT, ts, h1, hTe, hnT, k _ _ hT, hdT, h3⟩
theorem Exn.ne {base h : Heap} {e D : Addr} {st : Option Value} {c : Bool} {its : Array Value} (x : Exn base h e st c) (p : PlainL h D its) : e ≠ D := by
  rintro rfl
  obtain ⟨_, oe, vs, he, _, hd, _⟩ := x
  obtain ⟨o, n, ho, _, _, hdat⟩ := p
  rw [he] at ho; cases ho; rw [hd] at hdat; cases hdat

/-- while x[i] == v: i += 1 -/
theorem skipW {β : Type} {R : Rel β} {cc : β → β → Ordering} {n : Nat} (O : Ordd R cc n) (hu : A.units + n < cLine) {X I V : Str} {p1 p2 p3 p4 p5 p6 p7 p8 pos : Pos} {k : Nat} {Z Z' : Addr → Prop} {v u : Value} {xs : List β} {x : β} {i : Nat} {t : Tok} {c : Bool}
    {Q : Flow → Shared → Prop} (hfr : A.frames = some (env :: outer)) (hgF : g.FunFrames base outer) (hff : env.frame = some env.locals) (W : Wd base g env.locals s.heap m) (hX : m X = some v) (hv : (rL R).r Z g v xs) (hI : m I = some (.int (i : Int) t))
    (hV : m V = some u) (hx : R.r Z' g u x) (hlen : xs.length < 2 ^ 61) (hi : i ≤ xs.length) (hIX : X ≠ I) (hIV : V ≠ I) (hh : HdOk A s.heap c)
    (k1 : ∀ i' t' h' tk, i ≤ i' → i' < xs.length → xs.drop i' = dropE cc x (xs.drop i) → Wd base g env.locals h' (fun y => if y = I then some (.int ((i' : Nat) : Int) t') else m y) → Heap.SameBut env.locals s.heap h' → Q .next { s with heap := h', toks := tk })
    (k2 : ∀ t' h' tk e, dropE cc x (xs.drop i) = [] → Wd base g env.locals h' (fun y => if y = I then some (.int ((xs.length : Nat) : Int) t') else m y) → UpBut env.locals s.heap h' → Exn base h' e (some (rawInt env.locals)) c → E (.ref e) { s with heap := h', toks := tk })
    (hk : env.scope.kind = .function := by rfl) (hlX : env.kindOf X = some .local := by rfl) (hlI : env.kindOf I = some .local := by rfl) (hlV : env.kindOf V = some .local := by rfl)
    (hdX : (X == ("__debug__" : Str)) = false := by decide) (hdI : (I == ("__debug__" : Str)) = false := by decide) (hdV : (V == ("__debug__" : Str)) = false := by decide)
    (hp : (env.scope.kind == .class || (env.scope.kind == .module && env.locals != env.globals)) = false := by rfl) :
    wpAny (model prog w) A (exec (.While (.Compare (.Subscript (.Name X p1) (.Name I p2) p3) [.Eq] [.Name V p4] p5) [.AugAssign (.Name I p6) .Add (.Constant (.int 1) k p7) p8] [] pos) env) Q E s := by
  obtain ⟨lx, items, rfl, hZ, hl, hp'⟩ := hv
  have hsz : items.size = xs.length := by have := hp'.length; simpa using this
  refine wpAny_While (codeAny_whileLoop
    (fun q s' => ∃ i' t' h' tk, s' = { s with heap := h', toks := tk } ∧ i ≤ i' ∧ i' ≤ xs.length ∧ q = xs.length + 1 - i' ∧ Wd base g env.locals h' (fun y => if y = I then some (.int ((i' : Nat) : Int) t') else m y) ∧ Heap.SameBut env.locals s.heap h' ∧ dropE cc x (xs.drop i') = dropE cc x (xs.drop i))
    ?_ (xs.length + 1 - i) ⟨i, t, s.heap, s.toks, rfl, Nat.le_refl _, hi, rfl, ?_, .refl .., rfl⟩)
  · rintro q s' ⟨i', t', h', tk, rfl, hii, hix, rfl, W', hs', hd'⟩
    have hl' : h'.IsList lx items := by
      obtain ⟨o, nn, ho, hc, _, hdat⟩ := hl
      obtain ⟨sl, q⟩ := W'.up lx o ho fun vs e => by rw [hdat] at e; cases e
      exact ⟨_, q, hc, nn, hdat⟩
    have hXm : (fun y => if y = I then some (Value.int ((i' : Nat) : Int) t') else m y) X = some (.ref lx) := upd_ne hX hIX
    have hVm : (fun y => if y = I then some (Value.int ((i' : Nat) : Int) t') else m y) V = some u := upd_ne hV hIV
    refine wpAny_isTrue_Compare1 (subN (base := base) (c := c) W'.stay (hh.same W.ns hs') W'.ns hXm upd_eq hl' (by omega) (fun hlt => ?_) (fun hge h'' tk' e ext ex => ?_) hk hlX hlI hdX hdI)
    · refine ldl W'.ns hVm ?_ hk hlV hdV
      have hxi : i' < xs.length := by omega
      have he : R.r Z g items[i'] xs[i'] := by have := pget hp' i' (by simpa using hlt) hxi; rwa [Array.getElem_toList] at this
      refine (cmp_op O hu (s := { s with heap := h', toks := tk }) (R.up he W'.up) (R.up hx W'.up)).2.2.1 (wpAny_truthy_bool ?_)
      have hcons : xs.drop i' = xs[i'] :: xs.drop (i' + 1) := by rw [List.drop_eq_getElem_cons]
      cases hc : cc xs[i'] x == .eq with
      | true =>
        simp only [if_true]
        refine wpAny_execs_cons (incW W' upd_eq (fun t₂ tk₂ h₂ W₂ hs₂ => ?_) hk hlI hp)
        refine wpAny_execs_nil ⟨xs.length + 1 - (i' + 1), by omega, i' + 1, t₂, h₂, tk₂, rfl, by omega, by omega, rfl, ?_, hs'.trans hs₂, ?_⟩
        · have : (fun y => if y = I then some (Value.int ((i' + 1 : Nat) : Int) t₂) else m y) = (fun y => if y = I then some (Value.int ((i' + 1 : Nat) : Int) t₂) else (fun y => if y = I then some (Value.int ((i' : Nat) : Int) t') else m y) y) := by
            funext y; by_cases hy : y = I <;> simp [hy]
          rw [this]; exact W₂
        · rw [← hd']; unfold dropE; rw [hcons, List.dropWhile_cons, if_pos hc]
      | false =>
        simp only [Bool.false_eq_true, if_false]
        refine wpAny_execs_nil ?_
        refine k1 i' t' h' tk hii hxi ?_ W' hs'
        rw [← hd']; unfold dropE; rw [hcons, List.dropWhile_cons, if_neg (by rw [hc]; simp)]
    · -- the error
      have hxl : i' = xs.length := by omega
      subst hxl
      have W'' := W'.via (Via.ext (base := base) ext)
      refine noteX (s := { s with heap := h'', toks := tk' }) hfr (W''.frames hk hff hgF) hff ex W''.stay fun h₃ v₃ ex₃ => ?_
      refine cameBackX (s := { s with heap := h₃, toks := tk' }) hff ex₃ fun h₄ v₄ ex₄ => ?_
      refine k2 t' h₄ tk' e ?_ ((W''.via v₃).via v₄) ?_ ex₄
      · rw [← hd']; simp [dropE]
      · exact (UpBut.same hs').trans ((UpBut.ups (.of_keeps ext)).trans ((UpBut.ups v₃.1).trans (UpBut.ups v₄.1)))
  · have : (fun y => if y = I then some (Value.int ((i : Nat) : Int) t) else m y) = m := by
      funext y; by_cases hy : y = I
      · subst hy; simp [hI]
      · simp [hy]
    rw [this]; exact W
end
end Mine
end

/-! text E3 -/
section
open PySem PySem.W PyProof.Rows
set_option Elab.async false
set_option maxRecDepth 100000
namespace Mine

section
variable {prog : Program} {w : World} {A : Around} {s : Shared} {env : Env} {E : Value → Shared → Prop}

theorem extCall {D b : Addr} {its its2 : Array Value} {Q : Value → Shared → Prop} (hl : PlainL s.heap D its) (hb : s.heap.IsList b its2) (hsz : its.size + its2.size ≤ 1000000)
    (h : ∀ h', PlainL h' D (its ++ its2) → Heap.SameBut D s.heap h' → Q .none { s with heap := h' }) : wpAny (model prog w) A (call (.builtin "list.extend") [.ref D, .ref b]) Q E s := by
  obtain ⟨o, n, ho, hc, hdn, hd⟩ := id hl
  obtain ⟨ob, hob, hcb, nb, hdb⟩ := id hb
  refine wpAny_call_entry PySem.F.slot_list_extend hl.isList.typeIs PySem.F.entry_list_extend ?_ (PySem.F.args_list_extend_2 _ _)
  show wpAny _ _ (Builtin.List.listExtendWith (.ref D) (.ref b) .none) _ _ s
  unfold Builtin.List.listExtendWith
  refine wpAny_bind (wpAny_typeOf (T := "list") ⟨ob, hob, hcb⟩ ?_)
  have ht : (Value.type "list" == Value.type "list") = true := by rfl
  rw [if_pos (by rw [ht]; simp)]
  refine wpAny_bind (listItems_at hob hdb ?_)
  refine wpAny_bind (listItems_at ho hd ?_)
  rw [if_neg (by
    have : Builtin.List.listTooLong (its.size + its2.size) = false := by
      unfold Builtin.List.listTooLong
      have := sizeLine_eq
      simp; omega
    rw [this]; simp)]
  refine wpAny_bind (listUpdate_at ho hd ?_ (by rw [sizeLine_eq]; omega) (by show (its ++ its2).size ≤ _; rw [Array.size_append, sizeLine_eq]; omega))
  refine wpAny_pure ⟨_, rfl, h _ ?_ (Heap.SameBut.update ..)⟩
  obtain ⟨n', hd'⟩ := Obj.data_mapSeq hd (· ++ its2)
  refine ⟨_, n', Heap.get?_update_self _ ho (Obj.isFreed_of_seq hd'), (Obj.cls_mapSeq ..).trans hc, ?_, hd'⟩
  obtain ⟨c, d, dt, sl⟩ := o
  subst hd
  exact hdn

/-- x.extend(e) as a statement -/
theorem extS {o e : Expr} {apos cpos pos : Pos} {Q : Flow → Shared → Prop}
    (h : wpAny (model prog w) A (eval o env) (fun ov s₁ => ∃ D its, ov = .ref D ∧ PlainL s₁.heap D its ∧ wpAny (model prog w) A (eval e env) (fun v s₂ => ∃ b its2, v = .ref b ∧ PlainL s₂.heap D its ∧ s₂.heap.IsList b its2 ∧ its.size + its2.size ≤ 1000000 ∧
      ∀ h', PlainL h' D (its ++ its2) → Heap.SameBut D s₂.heap h' → Q .next { s₂ with heap := h' }) E s₁) E s)
    (hi : interactive env = false := by rfl) (hs : swapsWith (.Call (.Attribute o "extend" apos) [e] [] cpos) none pos.line env = pure false := by rfl)
    (hbase : attributeBase o "extend" env (eval o env) = eval o env := by rfl)
    (hfew : ((backTo cpos (starEach [e] env)).all (fun x => !x.1) && (backToKw cpos (keywordEach [] env)).all (fun x => x.1.isSome)
      && decide ([e].length + ([] : List Keyword).length + (if ([] : List Keyword).isEmpty then 0 else 1) < 30)) = true := by rfl)
    (hline : (apos.endLine == cpos.line) = true := by rfl) (he : backTo cpos (starEach [e] env) = [(false, eval e env)] := by rfl) :
    wpAny (model prog w) A (exec (.Expr (.Call (.Attribute o "extend" apos) [e] [] cpos) pos) env) Q E s := by
  refine wpAny_Expr (meth1 PySem.F.plainAttrs_list PySem.F.slot_list_extend PySem.F.type_list_extend (wpAny_mono h (fun ov s₁ h₁ => ?_) fun _ _ x => x) hbase hfew hline he) hi hs
  obtain ⟨D, its, rfl, hl, h₂⟩ := h₁
  obtain ⟨ob, n, hob, hc, hd, hdat⟩ := id hl
  refine ⟨⟨ob, hob, hc⟩, fun a q => ⟨ob, by cases q; exact hob, hd⟩, wpAny_mono h₂ (fun v s₂ h₃ => ?_) fun _ _ x => x⟩
  obtain ⟨b, its2, rfl, hl2, hb, hsz, hq⟩ := h₃
  exact extCall hl2 hb hsz fun h' hl' hs' => hq h' hl' hs'

/-- x[i:] of a list, both names of the frame -/
theorem fromN {x i : Str} {p1 p2 p3 p4 : Pos} {l : Addr} {items : Array Value} {j : Nat} {t : Tok} {m : Str → Option Value} {Q : Value → Shared → Prop}
    (hn : s.heap.Ns env.locals m) (hx : m x = some (.ref l)) (hi : m i = some (.int (j : Int) t)) (hl : s.heap.IsList l items) (hsz : items.size ≤ 1000000)
    (h : ∀ b h', Ext s.heap h' → s.heap.get? b = none → PlainL h' b (items.toList.drop j).toArray → Q (.ref b) { s with heap := h' })
    (hk : env.scope.kind = .function := by rfl) (hlx : env.kindOf x = some .local := by rfl) (hli : env.kindOf i = some .local := by rfl) (hdx : (x == ("__debug__" : Str)) = false := by decide) (hdi : (i == ("__debug__" : Str)) = false := by decide) :
    wpAny (model prog w) A (eval (.Subscript (.Name x p1) (.Slice (some (.Name i p2)) none none p3) p4) env) Q E s := by
  refine wpAny_Subscript_list_slice (ldl hn hx (evalPart_some_step (ldl hn hi (evalPart_none_step ⟨l, items, some (j : Int), none, rfl, hl, by rw [sizeLine_eq]; omega, .int _ _, .none, ?_⟩) hk hli hdi)) hk hlx hdx)
  rw [slicePick_from']
  have hg : ((s.heap.push { cls := .type "slice", data := .fields #[.int (j : Int) t, .none, .none] }).push { cls := .type "list", data := .seq (items.toList.drop j).toArray }).get? (s.heap.objs.size + 1) = some { cls := .type "list", data := .seq (items.toList.drop j).toArray } := by
    rw [show s.heap.objs.size + 1 = (s.heap.push { cls := .type "slice", data := .fields #[.int (j : Int) t, .none, .none] }).objs.size by rw [Heap.size_push]]
    exact Heap.get?_push_size _ rfl
  exact h _ _ (fun b o e => push_ext _ _ _ _ (push_ext _ _ _ _ e)) (Heap.get?_none_of_le (by simp)) ⟨_, _, hg, rfl, rfl, rfl⟩
end

/-! ### the plain reading -/
def sld {β : Type} (c : β → β → Ordering) : List β → List β → List β × List β
  | [], ys => ([], ys)
  | x :: xs, [] => (x :: xs, [])
  | x :: xs, y :: ys => match c x y with
    | .lt => (x :: (sld c (dropE c x xs) (y :: ys)).1, (sld c (dropE c x xs) (y :: ys)).2)
    | .gt => ((sld c (x :: xs) (dropE c y ys)).1, y :: (sld c (x :: xs) (dropE c y ys)).2)
    | .eq => sld c (dropE c x xs) (dropE c y ys)
termination_by xs ys => xs.length + ys.length
decreasing_by
  all_goals
    have h1 : (dropE c x xs).length ≤ xs.length := (List.dropWhile_sublist _).length_le
    have h2 : (dropE c y ys).length ≤ ys.length := (List.dropWhile_sublist _).length_le
    simp only [List.length_cons]; omega

theorem sld_nil_l {β : Type} (c : β → β → Ordering) (ys : List β) : sld c [] ys = ([], ys) := by rw [sld]
theorem sld_nil_r {β : Type} (c : β → β → Ordering) (xs : List β) : sld c xs [] = (xs, []) := by cases xs <;> rw [sld]
theorem sld_lt {β : Type} {c : β → β → Ordering} {x y : β} {xs ys : List β} (h : c x y = .lt) : sld c (x :: xs) (y :: ys) = (x :: (sld c (dropE c x xs) (y :: ys)).1, (sld c (dropE c x xs) (y :: ys)).2) := by rw [sld, h]
theorem sld_gt {β : Type} {c : β → β → Ordering} {x y : β} {xs ys : List β} (h : c x y = .gt) : sld c (x :: xs) (y :: ys) = ((sld c (x :: xs) (dropE c y ys)).1, y :: (sld c (x :: xs) (dropE c y ys)).2) := by rw [sld, h]
theorem sld_eq {β : Type} {c : β → β → Ordering} {x y : β} {xs ys : List β} (h : c x y = .eq) : sld c (x :: xs) (y :: ys) = sld c (dropE c x xs) (dropE c y ys) := by rw [sld, h]
end Mine
end

/-! text E4 -/
section
open PySem PySem.W PyProof.Rows
set_option Elab.async false
set_option maxRecDepth 100000
namespace Mine

structure SL {β : Type} (R : Rel β) (base g : Heap) (L D1 D2 : Addr) (v u : Value) (nx ny : Nat) (h : Heap) (m : Str → Option Value) (i j : Nat) (ms us : List β) : Prop where
  W : Wd base g L h m
  ex : m "expected" = some v
  ac : m "actual" = some u
  hi : ∃ t, m "i" = some (.int (i : Int) t)
  hj : ∃ t, m "j" = some (.int (j : Int) t)
  hm : m "missing" = some (.ref D1)
  hu : m "unexpected" = some (.ref D2)
  p1 : ∃ its, PlainL h D1 its ∧ Paired (R.r Any g) its.toList ms
  p2 : ∃ its, PlainL h D2 its ∧ Paired (R.r Any g) its.toList us
  li : ms.length ≤ i ∧ i ≤ nx
  lj : us.length ≤ j ∧ j ≤ ny

theorem SL.via {β : Type} {R : Rel β} {base g : Heap} {L D1 D2 : Addr} {v u : Value} {nx ny : Nat} {h h' : Heap} {m : Str → Option Value} {i j : Nat} {ms us : List β} (S : SL R base g L D1 D2 v u nx ny h m i j ms us) (k : Via base h h') :
    SL R base g L D1 D2 v u nx ny h' m i j ms us :=
  ⟨S.W.via k, S.ex, S.ac, S.hi, S.hj, S.hm, S.hu, let ⟨i, a, b⟩ := S.p1; ⟨i, plVia a k, b⟩, let ⟨i, a, b⟩ := S.p2; ⟨i, plVia a k, b⟩, S.li, S.lj⟩

theorem pdrop {α β : Type} {F : α → β → Prop} : ∀ {l₁ : List α} {l₂ : List β}, Paired F l₁ l₂ → ∀ i, Paired F (l₁.drop i) (l₂.drop i)
  | _, _, h, 0 => h
  | _, _, .nil, _ + 1 => .nil
  | _, _, .cons _ t, i + 1 => pdrop t i

/-- what comes after, by a name of its own -/
theorem genQ {α : Type} {M : Model} {A : Around} {t : Sem α} {Q : α → Shared → Prop} {E : Value → Shared → Prop} {s : Shared} (h : ∀ Q' : α → Shared → Prop, (∀ a s', Q a s' → Q' a s') → wpAny M A t Q' E s) : wpAny M A t Q E s := h Q fun _ _ x => x
theorem genE {α : Type} {M : Model} {A : Around} {t : Sem α} {Q : α → Shared → Prop} {E : Value → Shared → Prop} {s : Shared} (h : ∀ E' : Value → Shared → Prop, (∀ a s', E a s' → E' a s') → wpAny M A t Q E' s) : wpAny M A t Q E s := h E fun _ _ x => x

/-- what the pair of lists is -/
def PairR {β : Type} (R : Rel β) (h : Heap) (z : Value) (p : List β × List β) : Prop :=
  ∃ t l1 l2, z = .ref t ∧ h.get? t = some { cls := .type "tuple", data := .seq #[l1, l2] } ∧ (rL R).r Any h l1 p.1 ∧ (rL R).r Any h l2 p.2

section
variable {prog : Program} {w : World} {A : Around} {s : Shared}

set_option maxHeartbeats 2000000 in
theorem con_sld {a : Addr} {mg mb : Str → Option Value} (G : Gl mg mb s.heap) (r : Rm 1 A) (hf : isFun s.heap 1 a) {outer : List Env} {base : Heap} (hfr : A.frames = some outer) (hgF : s.heap.FunFrames base outer) (hst : base.StaysIn s.heap)
    {β : Type} {R : Rel β} {c : β → β → Ordering} {n : Nat} (O : Ordd R c n) (hn : n ≤ 100) {X Y : Addr → Prop} {v u : Value} {xs ys : List β} (hv : (rL R).r X s.heap v xs) (hu : (rL R).r Y s.heap u ys) (hlx : xs.length ≤ 400000) (hly : ys.length ≤ 400000)
    {Q : Value → Shared → Prop} {E : Value → Shared → Prop}
    (k : ∀ z h tk, base.StaysIn h → s.heap.UpToSlots h → PairR R h z (sld c xs ys) → Q z { s with heap := h, toks := tk }) :
    wpAny (model prog w) A (call (.ref a) [v, u]) Q E s := by
  obtain ⟨o, pm, code, doc, ho, hd, hcd⟩ := id hf
  refine wpAny_call (call_plain_ret (name := (fR 1).name) (params := (fR 1).params) (body := (fR 1).body) (scope := (fR 1).scope) (binds := [("expected", v), ("actual", u)]) (by have := r.depth; omega) ho hd G.nolimit hcd rfl (locs rfl) (fun h₁ F => ?_) rfl rfl rfl (by decide))
  have r' := r.deeper (envOf (fR 1).name (fR 1).scope s.heap.objs.size a code)
  have hfr' := Around.frames_deeper (env := envOf (fR 1).name (fR 1).scope s.heap.objs.size a code) hfr
  generalize A.deeper (envOf (fR 1).name (fR 1).scope s.heap.objs.size a code) = B at r' hfr' ⊢
  have hU : B.units + n < cLine := by have := r'.units; omega
  have hL0 : base.get? s.heap.objs.size = none := by
    cases q : base.get? s.heap.objs.size with
    | none => rfl
    | some o => have := hst _ _ q; rw [get_none_size] at this; cases this
  refine wpAny_execs_cons (wpAny_Assign_two (wpAny_Constant_int (wpAny_assign_Name (stK F fun h₂ F₂ hs₂ => wpAny_assign_Name (stK F₂ fun h₃ F₃ hs₃ => ?_)))))
  refine wpAny_execs_cons (asgNil F₃ fun D1 h₄ hD1 hD1L hD1l F₄ k₄ => ?_)
  refine wpAny_execs_cons (asgNil F₄ fun D2 h₅ hD2 hD2L hD2l F₅ k₅ => ?_)
  have hD1g : s.heap.get? D1 = none := by
    cases q : s.heap.get? D1 with
    | none => rfl
    | some o => have hD' : h₃.get? D1 = none := hD1; rw [F₃.keep _ _ q] at hD'; cases hD'
  have hD2g : s.heap.get? D2 = none := by
    cases q : s.heap.get? D2 with
    | none => rfl
    | some o => have hD' : h₄.get? D2 = none := hD2; rw [F₄.keep _ _ q] at hD'; cases hD'
  have hb : ∀ {D : Addr}, s.heap.get? D = none → base.get? D = none := fun {D} hD => by
    cases q : base.get? D with
    | none => rfl
    | some o => have := hst _ _ q; rw [hD] at this; cases this
  have hDD : D1 ≠ D2 := by
    rintro rfl
    obtain ⟨o, _, q, _⟩ := hD1l
    have hD' : h₄.get? D1 = none := hD2
    rw [q] at hD'; cases hD'
  have hD1l₅ : PlainL h₅ D1 #[] := PlainL.at hD1l fun o e => k₅ _ o hD1L e
  have W₅ : Wd base s.heap s.heap.objs.size h₅ _ := ⟨F₅.ns, fun b o e => F₅.keep _ _ (hst b o e), .of_keeps F₅.keep, hL0, get_none_size _⟩
  have S₀ : SL R base s.heap s.heap.objs.size D1 D2 v u xs.length ys.length h₅ _ 0 0 [] [] := ⟨W₅, rfl, rfl, ⟨_, rfl⟩, ⟨_, rfl⟩, rfl, rfl, ⟨_, hD1l₅, .nil⟩, ⟨_, hD2l, .nil⟩, by simp, by simp⟩
  refine wpAny_execs_cons (wpAny_While (codeAny_whileLoop
    (fun q s' => ∃ h m tk i j ms us, s' = { s with heap := h, toks := tk } ∧ q = (xs.length - i) + (ys.length - j) ∧ SL R base s.heap s.heap.objs.size D1 D2 v u xs.length ys.length h m i j ms us ∧
      ms ++ (sld c (xs.drop i) (ys.drop j)).1 = (sld c xs ys).1 ∧ us ++ (sld c (xs.drop i) (ys.drop j)).2 = (sld c xs ys).2)
    ?_ _ ⟨h₅, _, _, 0, 0, [], [], rfl, rfl, S₀, by simp, by simp⟩))
  rintro q s' ⟨h, m, tk, i, j, ms, us, rfl, rfl, S, hM, hN⟩
  refine isTrue_plain (Constant_bool (wpAny_truthy_bool ?_))
  simp only [if_true]
  refine genQ fun Q' hQ' => ?_
  refine wpAny_execs_cons (wpAny_Try_except (wpAny_mono (E := fun ev s' => ∃ e h' tk' m i j ms us c' st, ev = .ref e ∧ s' = { s with heap := h', toks := tk' } ∧ SL R base s.heap s.heap.objs.size D1 D2 v u xs.length ys.length h' m i j ms us ∧ Exn base h' e st c' ∧ (st = none ∨ st = some (rawInt s.heap.objs.size)) ∧
      ms ++ xs.drop i = (sld c xs ys).1 ∧ us ++ ys.drop j = (sld c xs ys).2) ?_ (fun _ _ x => x) ?handler))
  case handler =>
    rintro ev s' ⟨e, h', tk', m, i, j, ms, us, c', st, rfl, rfl, S, ex, hst', hM, hN⟩
    refine wpAny_mono (E := fun _ _ => False) (Q := fun _ s₂ => ∃ h₂, s₂ = { s with heap := h₂, toks := tk' } ∧ Via base h' h₂ ∧ Exn base h₂ e (some (rawInt s.heap.objs.size)) c') ?note ?go (fun _ _ x => x.elim)
    case note =>
      rcases hst' with rfl | rfl
      · exact noteX (s := { s with heap := h', toks := tk' }) hfr' (S.W.frames rfl rfl hgF) rfl ex S.W.stay fun h₂ v₂ ex₂ => ⟨h₂, rfl, v₂, ex₂⟩
      · exact noteAgain (s := { s with heap := h', toks := tk' }) rfl ex ⟨h', rfl, .refl .., ex⟩
    case go =>
      rintro _ _ ⟨h₂, rfl, v₂, ex₂⟩
      refine setFlightX (s := { s with heap := h₂, toks := tk' }) ex₂ fun h₃ v₃ ex₃ => ?_
      have S₃ := (S.via v₂).via v₃
      refine wpAny_handleBy_builtin (X := "IndexError") (T := "IndexError") (b := true) (by rw [isSubtype_type]; kernel_rfl) (by rw [isSubtype_type]; kernel_rfl) (by rw [isSubtype_type]; kernel_rfl) ?_
      have G₃ : h₃.Ns mainGlobals mg ∧ h₃.Ns builtinsNs mb := ⟨S₃.W.up.ns G.g, S₃.W.up.ns G.b⟩
      refine Calls.Name_function_global rfl rfl (Calls.loadGlobal_builtin (mg := mg) (mb := mb) G₃.1 (G.free _ (by simp)) G₃.2 ((G.blt _ (by decide)).trans rfl) ?_) (by decide)
      refine ⟨rfl, ?_, ?_⟩
      · obtain ⟨_, oe, vs, he, hcls, _⟩ := ex₃
        exact ⟨oe, he, hcls⟩
      simp only [if_true]
      refine setFlightX (s := { s with heap := h₃, toks := tk' }) ex₃ fun h₄ v₄ ex₄ => ?_
      have S₄ := S₃.via v₄
      obtain ⟨its1, pl1, pr1⟩ := S₄.p1
      obtain ⟨ti, hmi⟩ := S₄.hi
      obtain ⟨lx, itx, rfl, _, hlx', hpx⟩ := id hv
      have hlx₄ : PlainL h₄ lx itx := by
        obtain ⟨o, n, ho, hc, hd, hdat⟩ := hlx'
        obtain ⟨sl, q⟩ := S₄.W.up lx o ho fun vs e => by rw [hdat] at e; cases e
        exact ⟨_, n, q, hc, hd, hdat⟩
      have hszx : itx.size = xs.length := by have := hpx.length; simpa using this
      have hsz1 : its1.size = ms.length := by have := pr1.length; simpa using this
      have hli := S₄.li
      refine wpAny_execs_cons (extS (ldl S₄.W.ns S₄.hm ⟨D1, its1, rfl, pl1, fromN S₄.W.ns S₄.ex hmi hlx₄.isList (by omega) fun b h₅ e₅ hb₅ pl₅ => ⟨b, _, rfl, PlainL.at pl1 fun o q => e₅ _ _ q, pl₅.isList, by simp; omega, fun h₆ pl₆ sb₆ => ?_⟩⟩))
      have W₆ := (S₄.W.via (Via.ext (base := base) e₅)).change sb₆ (hb hD1g) hD1g hD1L
      obtain ⟨its2, pl2, pr2⟩ := S₄.p2
      have pl2₆ : PlainL h₆ D2 its2 := PlainL.at pl2 fun o q => sb₆.extBut _ _ (Ne.symm hDD) (e₅ _ _ q)
      obtain ⟨tj, hmj⟩ := S₄.hj
      obtain ⟨ly, ity, rfl, _, hly', hpy⟩ := id hu
      have hly₆ : PlainL h₆ ly ity := by
        obtain ⟨o, n, ho, hc, hd, hdat⟩ := hly'
        obtain ⟨sl, q⟩ := W₆.up ly o ho fun vs e => by rw [hdat] at e; cases e
        exact ⟨_, n, q, hc, hd, hdat⟩
      have hszy : ity.size = ys.length := by have := hpy.length; simpa using this
      have hsz2 : its2.size = us.length := by have := pr2.length; simpa using this
      have hlj := S₄.lj
      refine wpAny_execs_cons (extS (ldl W₆.ns S₄.hu ⟨D2, its2, rfl, pl2₆, fromN W₆.ns S₄.ac hmj hly₆.isList (by omega) fun b h₇ e₇ hb₇ pl₇ => ⟨b, _, rfl, PlainL.at pl2₆ fun o q => e₇ _ _ q, pl₇.isList, by simp; omega, fun h₈ pl₈ sb₈ => ?_⟩⟩))
      have W₈ := (W₆.via (Via.ext (base := base) e₇)).change sb₈ (hb hD2g) hD2g hD2L
      have pl1₈ : PlainL h₈ D1 _ := PlainL.at pl₆ fun o q => sb₈.extBut _ _ hDD (e₇ _ _ q)
      refine wpAny_execs_cons (wpAny_Break (hQ' _ _ ?_))
      refine wpAny_execs_cons (wpAny_Return_some (wpAny_Tuple (Calls.spliced_cons (ldl W₈.ns S₄.hm (Calls.spliced_cons (ldl W₈.ns S₄.hu (Calls.spliced_nil ⟨by rw [sizeLine_eq]; simp, ?_⟩)))))))
      have x₉ : Ext h₈ (h₈.push { cls := .type "tuple", data := .seq [Value.ref D1, Value.ref D2].toArray }) := push_ext _ _
      refine k _ _ _ (fun b o e => x₉ _ _ (W₈.stay b o e)) (W₈.up.trans (.of_keeps x₉)) ⟨_, _, _, rfl, Heap.get?_push_size _ rfl, ?_, ?_⟩
      · refine ⟨D1, _, rfl, trivial, PlainL.at pl1₈ fun o q => x₉ _ _ q, ?_⟩
        rw [← hM, Array.toList_append]
        have up₉ := W₈.up.trans (.of_keeps x₉)
        refine papp (Paired.mono (fun _ _ z => R.up z up₉) pr1) ?_
        exact Paired.mono (fun _ _ z => R.up (R.any z) up₉) (F := R.r X s.heap) (pdrop hpx i)
      · refine ⟨D2, _, rfl, trivial, PlainL.at pl₈ fun o q => x₉ _ _ q, ?_⟩
        rw [← hN, Array.toList_append]
        have up₉ := W₈.up.trans (.of_keeps x₉)
        refine papp (Paired.mono (fun _ _ z => R.up z up₉) pr2) ?_
        exact Paired.mono (fun _ _ z => R.up (R.any z) up₉) (F := R.r Y s.heap) (pdrop hpy j)
  -- the body
  refine genE fun E' hE' => ?_
  obtain ⟨lx, itx, hvx, hXx, hlx', hpx⟩ := id hv
  obtain ⟨ly, ity, huy, hYy, hly', hpy⟩ := id hu
  have hszx : itx.size = xs.length := by have := hpx.length; simpa using this
  have hszy : ity.size = ys.length := by have := hpy.length; simpa using this
  have isX : ∀ {h m}, Wd base s.heap s.heap.objs.size h m → h.IsList lx itx := fun {h m} W => by
    obtain ⟨o, n, ho, hc, hd, hdat⟩ := hlx'
    obtain ⟨sl, q⟩ := W.up lx o ho fun vs e => by rw [hdat] at e; cases e
    exact ⟨_, q, hc, n, hdat⟩
  have isY : ∀ {h m}, Wd base s.heap s.heap.objs.size h m → h.IsList ly ity := fun {h m} W => by
    obtain ⟨o, n, ho, hc, hd, hdat⟩ := hly'
    obtain ⟨sl, q⟩ := W.up ly o ho fun vs e => by rw [hdat] at e; cases e
    exact ⟨_, q, hc, n, hdat⟩
  have hhB : ∀ h, HdOk B h true := fun h => .inl ⟨rfl, r'.hh⟩
  obtain ⟨ti, hmi⟩ := S.hi
  obtain ⟨tj, hmj⟩ := S.hj
  refine wpAny_execs_cons (wpAny_Assign_Name (subN (base := base) (c := true) S.W.stay (hhB _) S.W.ns (S.ex.trans (congrArg some hvx)) hmi (isX S.W) (by have := S.li; omega) (fun hlt => ?ok1) fun hge h' tk' e ext ex => ?bad1))
  case bad1 =>
    refine hE' _ _ ⟨e, h', tk', m, i, j, ms, us, true, none, rfl, rfl, S.via (Via.ext ext), ex, .inl rfl, ?_, ?_⟩
    · rw [← hM, List.drop_eq_nil_of_le (by omega : xs.length ≤ i), sld_nil_l]
    · rw [← hN, List.drop_eq_nil_of_le (by omega : xs.length ≤ i), sld_nil_l]
  have hix : i < xs.length := by omega
  refine stW S.W fun h₂ W₂ sb₂ => ?_
  have S₂ : SL R base s.heap s.heap.objs.size D1 D2 v u xs.length ys.length h₂ _ i j ms us := ⟨W₂, S.ex, S.ac, S.hi, S.hj, S.hm, S.hu, let ⟨i, a, b⟩ := S.p1; ⟨i, PlainL.at a fun o q => sb₂.extBut _ _ hD1L q, b⟩, let ⟨i, a, b⟩ := S.p2; ⟨i, PlainL.at a fun o q => sb₂.extBut _ _ hD2L q, b⟩, S.li, S.lj⟩
  refine wpAny_execs_cons (wpAny_Assign_Name (subN (base := base) (c := true) S₂.W.stay (hhB _) S₂.W.ns (S₂.ac.trans (congrArg some huy)) hmj (isY S₂.W) (by have := S.lj; omega) (fun hlt2 => ?ok2) fun hge h' tk' e ext ex => ?bad2))
  case bad2 =>
    refine hE' _ _ ⟨e, h', tk', _, i, j, ms, us, true, none, rfl, rfl, S₂.via (Via.ext ext), ex, .inl rfl, ?_, ?_⟩
    · rw [← hM, List.drop_eq_nil_of_le (by omega : ys.length ≤ j), sld_nil_r]
    · rw [← hN, List.drop_eq_nil_of_le (by omega : ys.length ≤ j), sld_nil_r]
  have hjy : j < ys.length := by omega
  refine stW S₂.W fun h₃ W₃ sb₃ => ?_
  have S₃ : SL R base s.heap s.heap.objs.size D1 D2 v u xs.length ys.length h₃ _ i j ms us := ⟨W₃, S.ex, S.ac, S.hi, S.hj, S.hm, S.hu, let ⟨i, a, b⟩ := S₂.p1; ⟨i, PlainL.at a fun o q => sb₃.extBut _ _ hD1L q, b⟩, let ⟨i, a, b⟩ := S₂.p2; ⟨i, PlainL.at a fun o q => sb₃.extBut _ _ hD2L q, b⟩, S.li, S.lj⟩
  have hx : R.r X s.heap itx[i] xs[i] := by have := pget hpx i (by simpa using hlt) hix; rwa [Array.getElem_toList] at this
  have hy : R.r Y s.heap ity[j] ys[j] := by have := pget hpy j (by simpa using hlt2) hjy; rwa [Array.getElem_toList] at this
  have hcx : xs.drop i = xs[i] :: xs.drop (i + 1) := by rw [List.drop_eq_getElem_cons]
  have hcy : ys.drop j = ys[j] :: ys.drop (j + 1) := by rw [List.drop_eq_getElem_cons]
  generalize hxe : itx[i] = ev at hx W₃ S₃ W₂ S₂ ⊢
  generalize hye : ity[j] = av at hy W₃ S₃ ⊢
  generalize hxi : xs[i] = x at hx hcx
  generalize hyi : ys[j] = y at hy hcy
  rw [hcx, hcy] at hM hN
  refine wpAny_execs_cons (wpAny_If (wpAny_isTrue_Compare1 (ldl W₃.ns rfl (ldl W₃.ns rfl ?_))))
  refine (cmp_op O hU (s := { s with heap := h₃, toks := _ }) (R.up hx W₃.up) (R.up hy W₃.up)).2.1 (wpAny_truthy_bool ?_)
  cases hc : c x y with
  | lt =>
    rw [sld_lt hc] at hM hN
    simp only [beq_self_eq_true, if_true]
    obtain ⟨its1, pl1, pr1⟩ := S₃.p1
    have hli := S₃.li
    have hsz1 : its1.size = ms.length := by have := pr1.length; simpa using this
    refine wpAny_execs_cons (appS (ldl W₃.ns S₃.hm ⟨D1, its1, rfl, pl1, ldl W₃.ns rfl ⟨pl1, by rw [sizeLine_eq]; omega, fun h₄ pl₄ sb₄ => ?_⟩⟩))
    have W₄ := W₃.change sb₄ (hb hD1g) hD1g hD1L
    have pp1 : Paired (R.r Any s.heap) (its1.push ev).toList (ms ++ [x]) := by rw [Array.toList_push]; exact papp pr1 (.cons (R.any hx) .nil)
    obtain ⟨its2, pl2, pr2⟩ := S₃.p2
    have pl2₄ : PlainL h₄ D2 its2 := PlainL.at pl2 fun o q => sb₄.extBut _ _ (Ne.symm hDD) q
    refine wpAny_execs_cons (incW W₄ hmi fun t₅ tk₅ h₅' W₅' sb₅ => ?_)
    refine wpAny_execs_cons (skipW (base := base) (g := s.heap) O hU (c := true) (i := i + 1) hfr' hgF rfl W₅' S.ex hv rfl rfl hx (by omega) (by omega) (by decide) (by decide) (hhB _) (fun i' t' h' tk' hii hil hdr W' sb' => ?_) fun t' h' tk' e hdr W' ub' ex' => ?_)
    · refine wpAny_execs_nil (wpAny_execs_nil (wpAny_execs_nil (wpAny_execs_nil (hQ' .next _ ⟨_, ?_, h', _, tk', i', j, ms ++ [x], us, rfl, rfl, ⟨W', S.ex, S.ac, ⟨t', rfl⟩, S.hj, S.hm, S.hu, ⟨_, PlainL.at pl₄ fun o q => sb'.extBut _ _ hD1L (sb₅.extBut _ _ hD1L q), pp1⟩, ⟨_, PlainL.at pl2₄ fun o q => sb'.extBut _ _ hD2L (sb₅.extBut _ _ hD2L q), pr2⟩, by simp; omega, S.lj⟩, ?_, ?_⟩))))
      · omega
      · rw [hdr, hcy, List.append_assoc]; exact hM
      · rw [hdr, hcy]; exact hN
    · refine hE' _ _ ⟨e, h', tk', _, xs.length, j, ms ++ [x], us, true, _, rfl, rfl, ⟨W', S.ex, S.ac, ⟨t', rfl⟩, S.hj, S.hm, S.hu, ⟨_, plUp (PlainL.at pl₄ fun o q => sb₅.extBut _ _ hD1L q) ub' hD1L, pp1⟩, ⟨_, plUp (PlainL.at pl2₄ fun o q => sb₅.extBut _ _ hD2L q) ub' hD2L, pr2⟩, by simp; omega, S.lj⟩, ex', .inr rfl, ?_, ?_⟩
      · rw [← hM, hdr, sld_nil_l, List.drop_length, List.append_assoc]; rfl
      · rw [← hN, hdr, sld_nil_l, hcy]
  | gt =>
    rw [sld_gt hc] at hM hN
    rw [show (Ordering.gt == Ordering.lt) = false from rfl]
    simp only [Bool.false_eq_true, if_false]
    refine wpAny_execs_cons (wpAny_If (wpAny_isTrue_Compare1 (ldl W₃.ns rfl (ldl W₃.ns rfl ?_))))
    refine (cmp_op O hU (s := { s with heap := h₃, toks := _ }) (R.up hx W₃.up) (R.up hy W₃.up)).1 (wpAny_truthy_bool ?_)
    rw [hc]
    simp only [beq_self_eq_true, if_true]
    obtain ⟨its1, pl1, pr1⟩ := S₃.p1
    obtain ⟨its2, pl2, pr2⟩ := S₃.p2
    have hlj := S₃.lj
    have hsz2 : its2.size = us.length := by have := pr2.length; simpa using this
    refine wpAny_execs_cons (appS (ldl W₃.ns S₃.hu ⟨D2, its2, rfl, pl2, ldl W₃.ns rfl ⟨pl2, by rw [sizeLine_eq]; omega, fun h₄ pl₄ sb₄ => ?_⟩⟩))
    have W₄ := W₃.change sb₄ (hb hD2g) hD2g hD2L
    have pp2 : Paired (R.r Any s.heap) (its2.push av).toList (us ++ [y]) := by rw [Array.toList_push]; exact papp pr2 (.cons (R.any hy) .nil)
    have pl1₄ : PlainL h₄ D1 its1 := PlainL.at pl1 fun o q => sb₄.extBut _ _ hDD q
    refine wpAny_execs_cons (incW W₄ hmj fun t₅ tk₅ h₅' W₅' sb₅ => ?_)
    refine wpAny_execs_cons (skipW (base := base) (g := s.heap) O hU (c := true) (i := j + 1) hfr' hgF rfl W₅' S.ac hu rfl rfl hy (by omega) (by omega) (by decide) (by decide) (hhB _) (fun j' t' h' tk' hii hil hdr W' sb' => ?_) fun t' h' tk' e hdr W' ub' ex' => ?_)
    · refine wpAny_execs_nil (wpAny_execs_nil (wpAny_execs_nil (wpAny_execs_nil (wpAny_execs_nil (hQ' .next _ ⟨_, ?_, h', _, tk', i, j', ms, us ++ [y], rfl, rfl, ⟨W', S.ex, S.ac, S.hi, ⟨t', rfl⟩, S.hm, S.hu, ⟨_, PlainL.at pl1₄ fun o q => sb'.extBut _ _ hD1L (sb₅.extBut _ _ hD1L q), pr1⟩, ⟨_, PlainL.at pl₄ fun o q => sb'.extBut _ _ hD2L (sb₅.extBut _ _ hD2L q), pp2⟩, S.li, by simp; omega⟩, ?_, ?_⟩)))))
      · omega
      · rw [hdr, hcx]; exact hM
      · rw [hdr, hcx, List.append_assoc]; exact hN
    · refine hE' _ _ ⟨e, h', tk', _, i, ys.length, ms, us ++ [y], true, _, rfl, rfl, ⟨W', S.ex, S.ac, S.hi, ⟨t', rfl⟩, S.hm, S.hu, ⟨_, plUp (PlainL.at pl1₄ fun o q => sb₅.extBut _ _ hD1L q) ub' hD1L, pr1⟩, ⟨_, plUp (PlainL.at pl₄ fun o q => sb₅.extBut _ _ hD2L q) ub' hD2L, pp2⟩, S.li, by simp; omega⟩, ex', .inr rfl, ?_, ?_⟩
      · rw [← hM, hdr, sld_nil_r, hcx]
      · rw [← hN, hdr, sld_nil_r, List.drop_length, List.append_assoc]; rfl
  | eq =>
    rw [sld_eq hc] at hM hN
    rw [show (Ordering.eq == Ordering.lt) = false from rfl]
    simp only [Bool.false_eq_true, if_false]
    refine wpAny_execs_cons (wpAny_If (wpAny_isTrue_Compare1 (ldl W₃.ns rfl (ldl W₃.ns rfl ?_))))
    refine (cmp_op O hU (s := { s with heap := h₃, toks := _ }) (R.up hx W₃.up) (R.up hy W₃.up)).1 (wpAny_truthy_bool ?_)
    rw [hc, show (Ordering.eq == Ordering.gt) = false from rfl]
    simp only [Bool.false_eq_true, if_false]
    have hli := S₃.li
    have hlj := S₃.lj
    obtain ⟨its1, pl1, pr1⟩ := S₃.p1
    obtain ⟨its2, pl2, pr2⟩ := S₃.p2
    refine wpAny_execs_cons (incW W₃ hmi fun t₅ tk₅ h₅' W₅' sb₅ => ?_)
    refine wpAny_execs_cons (wpAny_Try_finally (wpAny_execs_cons (skipW (base := base) (g := s.heap) O hU (c := true) (i := i + 1) hfr' hgF rfl W₅' S.ex hv rfl rfl hx (by omega) (by omega) (by decide) (by decide) (hhB _) (fun i' t' h' tk' hii hil hdr W' sb' => ?_) fun t' h' tk' e hdr W' ub' ex' => ?_)))
    · have q1 : PlainL h' D1 its1 := PlainL.at pl1 fun o q => sb'.extBut _ _ hD1L (sb₅.extBut _ _ hD1L q)
      have q2 : PlainL h' D2 its2 := PlainL.at pl2 fun o q => sb'.extBut _ _ hD2L (sb₅.extBut _ _ hD2L q)
      refine wpAny_execs_nil (wpAny_execs_nil ?_)
      refine wpAny_execs_cons (incW W' hmj fun t₆ tk₆ h₆ W₆ sb₆ => ?_)
      refine wpAny_execs_cons (skipW (base := base) (g := s.heap) O hU (c := true) (i := j + 1) hfr' hgF rfl W₆ S.ac hu rfl rfl hy (by omega) (by omega) (by decide) (by decide) (hhB _) (fun j' t₇ h₇ tk₇ hjj hjl hdr₇ W₇ sb₇ => ?_) fun t₇ h₇ tk₇ e hdr₇ W₇ ub₇ ex₇ => ?_)
      · refine wpAny_execs_nil ?_
        refine wpAny_execs_nil (wpAny_execs_nil (wpAny_execs_nil (wpAny_execs_nil (wpAny_execs_nil (hQ' .next _ ⟨_, ?_, h₇, _, tk₇, i', j', ms, us, rfl, rfl, ⟨W₇, S.ex, S.ac, ⟨t', rfl⟩, ⟨t₇, rfl⟩, S.hm, S.hu, ⟨_, PlainL.at q1 fun o q => sb₇.extBut _ _ hD1L (sb₆.extBut _ _ hD1L q), pr1⟩, ⟨_, PlainL.at q2 fun o q => sb₇.extBut _ _ hD2L (sb₆.extBut _ _ hD2L q), pr2⟩, by omega, by omega⟩, ?_, ?_⟩)))))
        · omega
        · rw [hdr, hdr₇]; exact hM
        · rw [hdr, hdr₇]; exact hN
      · have S₇ : SL R base s.heap s.heap.objs.size D1 D2 v u xs.length ys.length h₇ _ i' ys.length ms us := ⟨W₇, S.ex, S.ac, ⟨t', rfl⟩, ⟨t₇, rfl⟩, S.hm, S.hu, ⟨_, plUp (PlainL.at q1 fun o q => sb₆.extBut _ _ hD1L q) ub₇ hD1L, pr1⟩, ⟨_, plUp (PlainL.at q2 fun o q => sb₆.extBut _ _ hD2L q) ub₇ hD2L, pr2⟩, by omega, by omega⟩
        refine noteAgain (s := { s with heap := h₇, toks := tk₇ }) rfl ex₇ ?_
        refine cameBackX (s := { s with heap := h₇, toks := tk₇ }) rfl ex₇ fun h₈ v₈ ex₈ => ?_
        refine hE' _ _ ⟨e, h₈, tk₇, _, i', ys.length, ms, us, true, _, rfl, rfl, S₇.via v₈, ex₈, .inr rfl, ?_, ?_⟩
        · rw [← hM, hdr₇, sld_nil_r, hdr]
        · rw [← hN, hdr₇, sld_nil_r, List.drop_length]
    · have q1 : PlainL h' D1 its1 := plUp (PlainL.at pl1 fun o q => sb₅.extBut _ _ hD1L q) ub' hD1L
      have q2 : PlainL h' D2 its2 := plUp (PlainL.at pl2 fun o q => sb₅.extBut _ _ hD2L q) ub' hD2L
      refine noteAgain (s := { s with heap := h', toks := tk' }) rfl ex' ⟨ref_ne_byPass _, noteAgain (s := { s with heap := h', toks := tk' }) rfl ex' ?_⟩
      refine setFlightX (s := { s with heap := h', toks := tk' }) ex' fun h'' v'' ex'' => ?_
      have W'' := W'.via v''
      refine wpAny_execs_cons (incW W'' hmj fun t₆ tk₆ h₆ W₆ sb₆ => ?_)
      have ex₆ := ex''.same W''.ns sb₆
      have hd₆ : HdOk (B.mark (some (.ref e))) h₆ false := by
        obtain ⟨_, oe, vs, he, _, hd, _, hc2, _⟩ := ex₆
        exact .inr ⟨rfl, e, oe, vs, rfl, he, hd, hc2 rfl⟩
      refine wpAny_execs_cons (skipW (A := B.mark (some (.ref e))) (base := base) (g := s.heap) O hU (c := false) (i := j + 1) hfr' hgF rfl W₆ S.ac hu rfl rfl hy (by omega) (by omega) (by decide) (by decide) hd₆ (fun j' t₇ h₇ tk₇ hjj hjl hdr₇ W₇ sb₇ => ?_) fun t₇ h₇ tk₇ e₇ hdr₇ W₇ ub₇ ex₇ => ?_)
      · refine wpAny_execs_nil ?_
        have ex₇ := ex₆.same W₆.ns sb₇
        have S₇ : SL R base s.heap s.heap.objs.size D1 D2 v u xs.length ys.length h₇ _ xs.length j' ms us := ⟨W₇, S.ex, S.ac, ⟨t', rfl⟩, ⟨t₇, rfl⟩, S.hm, S.hu, ⟨_, PlainL.at (plVia q1 v'') fun o q => sb₇.extBut _ _ hD1L (sb₆.extBut _ _ hD1L q), pr1⟩, ⟨_, PlainL.at (plVia q2 v'') fun o q => sb₇.extBut _ _ hD2L (sb₆.extBut _ _ hD2L q), pr2⟩, by omega, by omega⟩
        refine passOnX (s := { s with heap := h₇, toks := tk₇ }) rfl ex₇ fun h₈ v₈ ex₈ => ?_
        refine hE' _ _ ⟨e, h₈, tk₇, _, xs.length, j', ms, us, true, _, rfl, rfl, S₇.via v₈, ex₈, .inr rfl, ?_, ?_⟩
        · rw [← hM, hdr, sld_nil_l, List.drop_length]
        · rw [← hN, hdr, sld_nil_l, hdr₇]
      · have S₇ : SL R base s.heap s.heap.objs.size D1 D2 v u xs.length ys.length h₇ _ xs.length ys.length ms us := ⟨W₇, S.ex, S.ac, ⟨t', rfl⟩, ⟨t₇, rfl⟩, S.hm, S.hu, ⟨_, plUp (PlainL.at (plVia q1 v'') fun o q => sb₆.extBut _ _ hD1L q) ub₇ hD1L, pr1⟩, ⟨_, plUp (PlainL.at (plVia q2 v'') fun o q => sb₆.extBut _ _ hD2L q) ub₇ hD2L, pr2⟩, by omega, by omega⟩
        refine noteAgain (s := { s with heap := h₇, toks := tk₇ }) rfl ex₇ ?_
        refine cameBackX (s := { s with heap := h₇, toks := tk₇ }) rfl ex₇ fun h₈ v₈ ex₈ => ?_
        refine hE' _ _ ⟨e₇, h₈, tk₇, _, xs.length, ys.length, ms, us, false, _, rfl, rfl, S₇.via v₈, ex₈, .inr rfl, ?_, ?_⟩
        · rw [← hM, hdr, hdr₇, sld_nil_l, List.drop_length]
        · rw [← hN, hdr, hdr₇, sld_nil_l, List.drop_length]
end
end Mine
end

/-! text O1 -/
section
open PySem PySem.W PyProof.Rows
set_option Elab.async false
set_option maxRecDepth 100000
namespace Mine

structure ZA (z TI TO i1 i2 : Addr) (fp1 fp2 : List Addr) : Prop where
  TIz : TI ≠ z
  TOz : TO ≠ z
  i1z : i1 ≠ z
  i2z : i2 ≠ z
  TITO : TI ≠ TO
  TIi1 : TI ≠ i1
  TIi2 : TI ≠ i2
  TOi1 : TO ≠ i1
  TOi2 : TO ≠ i2
  z1 : z ∉ fp1
  z2 : z ∉ fp2
  TO1 : TO ∉ fp1
  TO2 : TO ∉ fp2
  i12 : i1 ∉ fp2
  i21 : i2 ∉ fp1
  i1i2 : i1 ≠ i2

section
variable {prog : Program} {w : World} {A : Around} {E : Value → Shared → Prop} {s : Shared}
  {z TI TO i1 i2 : Addr} {fp1 fp2 : List Addr} {n1 n2 : Nat} {P1 P2 : Nat → Value → Prop} {S1 S2 : Nat → Heap → Prop}

theorem frS {i : Addr} {fp : List Addr} {n k : Nat} {P : Nat → Value → Prop} {St : Nat → Heap → Prop} {b : Addr} {h h' : Heap} (D : Draws prog w A i fp n P St) (st : St k h) (hs : Heap.SameBut b h h') (hb : b ∉ fp) : St k h' :=
  D.frame _ _ _ st fun c hc o e => hs.extBut c o (fun q => hb (q ▸ hc)) e

theorem zip_next_itemD {k : Nat} {a b : Value} {Q : Value → Shared → Prop} (Z : ZA z TI TO i1 i2 fp1 fp2) (D1 : Draws prog w A i1 fp1 n1 P1 S1) (D2 : Draws prog w A i2 fp2 n2 P2 S2)
    (hz : IsZip s.heap z TI TO .none) (hTI : IsPair s.heap TI (.ref i1) (.ref i2)) (hTO : IsPair s.heap TO a b) (h1 : S1 k s.heap) (h2 : S2 k s.heap) (hk1 : k < n1) (hk2 : k < n2)
    (hQ : ∀ x y h' tk, P1 k x → P2 k y → IsZip h' z TI TO (rawInt s.heap.objs.size) → IsPair h' TO x y → S1 (k + 1) h' → S2 (k + 1) h' → IsPair h' s.heap.objs.size x y →
      (∀ c o, c ≠ z → c ≠ TO → c ≠ i1 → c ≠ i2 → s.heap.get? c = some o → h'.get? c = some o) → Q (.ref s.heap.objs.size) { s with heap := h', toks := tk }) :
    wpAny (model prog w) A (Builtin.«zip.__next__» ⟨[.ref z], []⟩) (fun fin s' => ∃ v, fin = .done (.ret v) ∧ Q v s') E s := by
  show wpAny _ _ (field (.ref z) 2 >>= _) _ _ _
  refine wpAny_bind (wpAny_field hz rfl (x := .bool false) rfl ?_)
  show wpAny _ _ (field (.ref z) 3 >>= _) _ _ _
  refine wpAny_bind (wpAny_field hz rfl (x := .ref TI) rfl ?_)
  refine wpAny_bind (wpAny_seqItems hTI rfl ?_)
  show wpAny _ _ (Builtin.SmallTypes.ownedTupleIsFree (.ref z) >>= _) _ _ _
  refine wpAny_bind ?_
  unfold Builtin.SmallTypes.ownedTupleIsFree
  refine wpAny_bind (wpAny_field hz rfl (x := .none) rfl (wpAny_pure ?_))
  simp only [if_true]
  refine wpAny_bind (wpAny_rule ?_)
  refine wpAny_bind (wpAny_field hz rfl (x := .ref TO) rfl ?_)
  refine wpAny_bind (wpAny_setField_rec hz (by simp) fun h₁ hz₁ hs₁ => ?_)
  replace hz₁ : IsZip h₁ z TI TO .ellipsis := hz₁
  refine wpAny_bind ?_
  simp only [List.zipIdx_cons, List.zipIdx_nil, List.forIn_cons, List.forIn_nil]
  refine wpAny_bind (wpAny_bind (wpAny_onRaise ?_))
  show wpAny _ _ (Builtin.SmallTypes.nextOf (.ref i1) >>= _) _ _ _
  refine wpAny_bind (D1.item k _ _ _ hk1 (frS D1 h1 hs₁ Z.z1) fun x h₂ tk₂ hx h1₂ hs₂ => wpAny_pure ?_)
  have hTO₂ : IsPair h₂ TO a b := hs₂.extBut _ _ Z.TOi1 (hs₁.extBut _ _ Z.TOz hTO)
  refine wpAny_bind (wpAny_seqItems hTO₂ rfl ?_)
  refine wpAny_bind (wpAny_updateSeq_pair hTO₂ fun h₃ hTO₃ hs₃ => ?_)
  replace hTO₃ : IsPair h₃ TO x b := hTO₃
  refine wpAny_bind (wpAny_letGo (wpAny_pure ?_))
  refine wpAny_bind (wpAny_bind (wpAny_onRaise ?_))
  show wpAny _ _ (Builtin.SmallTypes.nextOf (.ref i2) >>= _) _ _ _
  refine wpAny_bind (D2.item k _ _ _ hk2 (frS D2 (frS D2 (frS D2 h2 hs₁ Z.z2) hs₂ Z.i12) hs₃ Z.TO2) fun y h₄ tk₄ hy h2₄ hs₄ => wpAny_pure ?_)
  have hTO₄ : IsPair h₄ TO x b := hs₄.extBut _ _ Z.TOi2 hTO₃
  refine wpAny_bind (wpAny_seqItems hTO₄ rfl ?_)
  refine wpAny_bind (wpAny_updateSeq_pair hTO₄ fun h₅ hTO₅ hs₅ => ?_)
  replace hTO₅ : IsPair h₅ TO x y := hTO₅
  refine wpAny_bind (wpAny_letGo (wpAny_pure (wpAny_pure ?_)))
  refine wpAny_bind (wpAny_seqItems hTO₅ rfl ?_)
  refine wpAny_bind (wpAny_newTuple ?_)
  have hs₂' : Heap.SameBut i1 h₁ h₂ := hs₂
  have hs₃' : Heap.SameBut TO h₂ h₃ := hs₃
  have hs₄' : Heap.SameBut i2 h₃ h₄ := hs₄
  have hs₅' : Heap.SameBut TO h₄ h₅ := hs₅
  have hsz : h₅.objs.size = s.heap.objs.size := by rw [hs₅'.1, hs₄'.1, hs₃'.1, hs₂'.1, hs₁.1]
  have hz₅ : IsZip h₅ z TI TO .ellipsis := hs₅.extBut _ _ Z.TOz.symm (hs₄.extBut _ _ Z.i2z.symm (hs₃.extBut _ _ Z.TOz.symm (hs₂.extBut _ _ Z.i1z.symm hz₁)))
  have hk₅ : ∀ c o, c ≠ z → c ≠ TO → c ≠ i1 → c ≠ i2 → s.heap.get? c = some o → h₅.get? c = some o := fun c o c1 c2 c3 c4 e =>
    hs₅.extBut _ _ c2 (hs₄.extBut _ _ c4 (hs₃.extBut _ _ c2 (hs₂.extBut _ _ c3 (hs₁.extBut _ _ c1 e))))
  have h1₅ : S1 (k + 1) h₅ := frS D1 (frS D1 (frS D1 h1₂ hs₃' Z.TO1) hs₄' Z.i21) hs₅' Z.TO1
  have h2₅ : S2 (k + 1) h₅ := frS D2 h2₄ hs₅' Z.TO2
  have hzlt : z < h₅.objs.size := Heap.lt_size hz₅
  show wpAny _ _ (Builtin.SmallTypes.ownedTupleHandOut (.ref z) (.ref h₅.objs.size) >>= _) _ _ _
  refine wpAny_bind ?_
  unfold Builtin.SmallTypes.ownedTupleHandOut
  have hz₆ : IsZip (h₅.push { cls := .type "tuple", data := .seq #[x, y] }) z TI TO .ellipsis := Heap.get?_push_of_some _ hz₅
  refine wpAny_bind (wpAny_setField_rec hz₆ (by simp) fun h₇ hz₇ hs₇ => ?_)
  replace hz₇ : IsZip h₇ z TI TO (rawInt h₅.objs.size) := hz₇
  refine wpAny_setField_rec hz₇ (by simp) fun h₈ hz₈ hs₈ => ?_
  replace hz₈ : IsZip h₈ z TI TO (rawInt h₅.objs.size) := hz₈
  have up : ∀ c o, c ≠ z → h₅.get? c = some o → h₈.get? c = some o := fun c o c1 e => hs₈.extBut _ _ c1 (hs₇.extBut _ _ c1 (Heap.get?_push_of_some _ e))
  have hT₈ : IsPair h₈ h₅.objs.size x y := hs₈.extBut _ _ (Nat.ne_of_gt hzlt) (hs₇.extBut _ _ (Nat.ne_of_gt hzlt) (Heap.get?_push_size _ rfl))
  rw [hsz] at hz₈ hT₈
  refine wpAny_pure ⟨_, rfl, ?_⟩
  show Q (.ref h₅.objs.size) _
  rw [hsz]
  exact hQ x y h₈ tk₄ hx hy hz₈ (up _ _ Z.TOz hTO₅) (D1.frame _ _ _ h1₅ fun c hc o e => up c o (fun q => Z.z1 (q ▸ hc)) e) (D2.frame _ _ _ h2₅ fun c hc o e => up c o (fun q => Z.z2 (q ▸ hc)) e) hT₈ fun c o c1 c2 c3 c4 e => up c o c1 (hk₅ c o c1 c2 c3 c4 e)

theorem zip_next_endD {k : Nat} {a b : Value} {Q : Fin → Shared → Prop} (Z : ZA z TI TO i1 i2 fp1 fp2) (D1 : Draws prog w A i1 fp1 n1 P1 S1) (D2 : Draws prog w A i2 fp2 n2 P2 S2)
    (hz : IsZip s.heap z TI TO .none) (hTI : IsPair s.heap TI (.ref i1) (.ref i2)) (hTO : IsPair s.heap TO a b) (h1 : S1 k s.heap) (h2 : S2 k s.heap) (hk : k = min n1 n2)
    (hE : ∀ h' tk e, (∀ c o, c ≠ z → c ≠ TO → c ≠ i1 → c ≠ i2 → s.heap.get? c = some o → h'.get? c = some o) → (∃ o, h'.get? e = some o ∧ o.cls = .type "StopIteration") → E (.ref e) { s with heap := h', toks := tk }) :
    wpAny (model prog w) A (Builtin.«zip.__next__» ⟨[.ref z], []⟩) Q E s := by
  show wpAny _ _ (field (.ref z) 2 >>= _) _ _ _
  refine wpAny_bind (wpAny_field hz rfl (x := .bool false) rfl ?_)
  show wpAny _ _ (field (.ref z) 3 >>= _) _ _ _
  refine wpAny_bind (wpAny_field hz rfl (x := .ref TI) rfl ?_)
  refine wpAny_bind (wpAny_seqItems hTI rfl ?_)
  show wpAny _ _ (Builtin.SmallTypes.ownedTupleIsFree (.ref z) >>= _) _ _ _
  refine wpAny_bind ?_
  unfold Builtin.SmallTypes.ownedTupleIsFree
  refine wpAny_bind (wpAny_field hz rfl (x := .none) rfl (wpAny_pure ?_))
  simp only [if_true]
  refine wpAny_bind (wpAny_rule ?_)
  refine wpAny_bind (wpAny_field hz rfl (x := .ref TO) rfl ?_)
  refine wpAny_bind (wpAny_setField_rec hz (by simp) fun h₁ hz₁ hs₁ => ?_)
  replace hz₁ : IsZip h₁ z TI TO .ellipsis := hz₁
  refine wpAny_bind ?_
  simp only [List.zipIdx_cons, List.zipIdx_nil, List.forIn_cons, List.forIn_nil]
  refine wpAny_bind (wpAny_bind (wpAny_onRaise ?_))
  show wpAny _ _ (Builtin.SmallTypes.nextOf (.ref i1) >>= _) _ _ _
  by_cases hn : n1 ≤ n2
  · have hk' : k = n1 := by omega
    subst hk'
    refine wpAny_bind (D1.done _ _ _ (frS D1 h1 hs₁ Z.z1) fun h₂ e hs₂ he => ?_)
    obtain ⟨oe, hoe, hce⟩ := he
    have hz₂ : IsZip h₂ z TI TO .ellipsis := hs₂ _ _ Z.i1z.symm hz₁
    have hez : e ≠ z := fun x => by subst x; rw [hz₂] at hoe; cases hoe; simp at hce
    refine wpAny_setField_rec hz₂ (by simp) fun h₃ _ hs₃ => hE h₃ _ e (fun c o c1 _ c3 _ x => hs₃.extBut _ _ c1 (hs₂ _ _ c3 (hs₁.extBut _ _ c1 x))) ⟨oe, hs₃.extBut _ _ hez hoe, hce⟩
  · have hk' : k = n2 := by omega
    subst hk'
    refine wpAny_bind (D1.item k _ _ _ (by omega) (frS D1 h1 hs₁ Z.z1) fun x h₂ tk₂ hx h1₂ hs₂ => wpAny_pure ?_)
    have hTO₂ : IsPair h₂ TO a b := hs₂.extBut _ _ Z.TOi1 (hs₁.extBut _ _ Z.TOz hTO)
    refine wpAny_bind (wpAny_seqItems hTO₂ rfl ?_)
    refine wpAny_bind (wpAny_updateSeq_pair hTO₂ fun h₃ hTO₃ hs₃ => ?_)
    refine wpAny_bind (wpAny_letGo (wpAny_pure ?_))
    refine wpAny_bind (wpAny_bind (wpAny_onRaise ?_))
    show wpAny _ _ (Builtin.SmallTypes.nextOf (.ref i2) >>= _) _ _ _
    refine wpAny_bind (D2.done _ _ _ (frS D2 (frS D2 (frS D2 h2 hs₁ Z.z2) hs₂ Z.i12) hs₃ Z.TO2) fun h₄ e hs₄ he => ?_)
    obtain ⟨oe, hoe, hce⟩ := he
    have hz₄ : IsZip h₄ z TI TO .ellipsis := hs₄ _ _ Z.i2z.symm (hs₃.extBut _ _ Z.TOz.symm (hs₂.extBut _ _ Z.i1z.symm hz₁))
    have hez : e ≠ z := fun x => by subst x; rw [hz₄] at hoe; cases hoe; simp at hce
    refine wpAny_setField_rec hz₄ (by simp) fun h₅ _ hs₅ => hE h₅ _ e (fun c o c1 c2 c3 c4 x => hs₅.extBut _ _ c1 (hs₄ _ _ c4 (hs₃.extBut _ _ c2 (hs₂.extBut _ _ c3 (hs₁.extBut _ _ c1 x))))) ⟨oe, hs₅.extBut _ _ hez hoe, hce⟩

theorem zipWalk (Z : ZA z TI TO i1 i2 fp1 fp2) (D1 : Draws prog w A.in1 i1 fp1 n1 P1 S1) (D2 : Draws prog w A.in1 i2 fp2 n2 P2 S2) (hi1 : i1 ∈ fp1) (hi2 : i2 ∈ fp2) :
    WalksT prog w A z (z :: TI :: TO :: (fp1 ++ fp2)) [z, TO, i1, i2] (min n1 n2)
      (fun i vals => ∃ x y, P1 i x ∧ P2 i y ∧ vals = #[x, y])
      (fun i h => IsZip h z TI TO .none ∧ IsPair h TI (.ref i1) (.ref i2) ∧ (∃ a b, IsPair h TO a b) ∧ S1 i h ∧ S2 i h)
      (fun i T h => IsZip h z TI TO (rawInt T) ∧ IsPair h TI (.ref i1) (.ref i2) ∧ (∃ a b, IsPair h TO a b) ∧ S1 (i + 1) h ∧ S2 (i + 1) h ∧ T ≠ z ∧ T ≠ TO ∧ T ≠ i1 ∧ T ≠ i2) where
  sub := fun c hc => by
    simp at hc ⊢
    rcases hc with rfl | rfl | rfl | rfl
    · simp
    · simp
    · exact .inr (.inr (.inr (.inl hi1)))
    · exact .inr (.inr (.inr (.inr hi2)))
  frame := fun i h h' hst hk => by
    obtain ⟨hz, hTI, ⟨a, b, hTO⟩, h1, h2⟩ := hst
    exact ⟨hk z (by simp) _ hz, hk TI (by simp) _ hTI, ⟨a, b, hk TO (by simp) _ hTO⟩, D1.frame _ _ _ h1 fun c hc o e => hk c (by simp [hc]) o e, D2.frame _ _ _ h2 fun c hc o e => hk c (by simp [hc]) o e⟩
  item := fun i s Q E hi hst hQ => by
    obtain ⟨hz, hTI, ⟨a, b, hTO⟩, h1, h2⟩ := hst
    have hT : s.TypeIs (.ref z) "zip" := ⟨_, hz, rfl⟩
    have lt : ∀ {c o}, s.heap.get? c = some o → s.heap.objs.size ≠ c := fun e => Nat.ne_of_gt (Heap.lt_size e)
    unfold pyNext
    refine wpAny_bind (wpAny_attempt (wpAny_callSpecial?_slot (name := Str.ofString "__next__") hT F.slot_zip_next
      (wpAny_call_entry F.slot_zip_next hT F.entry_zip_next (zip_next_itemD Z D1 D2 hz hTI hTO h1 h2 (by omega) (by omega) fun x y h' tk hx hy a1 a2 a3 a4 a5 hk => wpAny_pure ?_) (F.args_zip_next_1 _))))
    refine hQ s.heap.objs.size #[x, y] h' tk ⟨x, y, hx, hy, rfl⟩ (Nat.le_refl _) ⟨_, a5, rfl, _, rfl⟩ ⟨a1, hk _ _ Z.TIz Z.TITO Z.TIi1 Z.TIi2 hTI, ⟨_, _, a2⟩, a3, a4, lt hz, lt hTO, ?_, ?_⟩
      fun c o hc e => hk c o (fun x => hc (by simp [x])) (fun x => hc (by simp [x])) (fun x => hc (by simp [x])) (fun x => hc (by simp [x])) e
    · obtain ⟨_, e⟩ := D1.live _ _ h1; exact lt e
    · obtain ⟨_, e⟩ := D2.live _ _ h2; exact lt e
  go := fun elts k pos i T s Q E hm hQ => by
    obtain ⟨hz, hTI, ⟨a, b, hTO⟩, h1, h2, _⟩ := hm
    refine wpAny_letOwnedTupleGo_zip hz fun h' hz' hs' => hQ h' ⟨hz', hs'.extBut _ _ Z.TIz hTI, ⟨a, b, hs'.extBut _ _ Z.TOz hTO⟩, frS D1 h1 hs' Z.z1, frS D2 h2 hs' Z.z2⟩ fun c o hc e => hs'.extBut _ _ (fun x => hc (by simp [x])) e
  apart := fun i T h hm hT => by
    obtain ⟨_, _, _, _, _, t1, t2, t3, t4⟩ := hm
    simp at hT
    rcases hT with rfl | rfl | rfl | rfl
    · exact t1 rfl
    · exact t2 rfl
    · exact t3 rfl
    · exact t4 rfl
  done := fun s Q E hst hQ => by
    obtain ⟨hz, hTI, ⟨a, b, hTO⟩, h1, h2⟩ := hst
    have hT : s.TypeIs (.ref z) "zip" := ⟨_, hz, rfl⟩
    unfold pyNext
    refine wpAny_bind (wpAny_attempt (wpAny_callSpecial?_slot (name := Str.ofString "__next__") hT F.slot_zip_next
      (wpAny_call_entry F.slot_zip_next hT F.entry_zip_next (zip_next_endD Z D1 D2 hz hTI hTO h1 h2 rfl fun h' tk e hk he => ?_) (F.args_zip_next_1 _))))
    obtain ⟨o, ho, hc⟩ := he
    refine wpAny_bind (wpAny_isInstance (T := "StopIteration") (b := true) ⟨o, ho, hc⟩ isSubtype_stop ?_)
    exact wpAny_pure (hQ h' tk fun c o hc e => hk c o (fun x => hc (by simp [x])) (fun x => hc (by simp [x])) (fun x => hc (by simp [x])) (fun x => hc (by simp [x])) e)
  self := fun i s Q E hst hQ => wpAny_pyIter_zip hst.1 hQ
end
end Mine
end

/-! text O2 -/
section
open PySem PySem.W PyProof.Rows
set_option Elab.async false
set_option maxRecDepth 100000
namespace Mine

section
variable {prog : Program} {w : World} {A : Around} {E : Value → Shared → Prop} {s : Shared} {env : Env}

/-- a built-in name -/
theorem nameB {x : Str} {pos : Pos} {v : Value} {mg mb : Str → Option Value} {Q : Value → Shared → Prop} (G : Gl mg mb s.heap) (hx : x = "list" ∨ x = "zip" ∨ x = "len" ∨ x = "range" ∨ x = "sorted" ∨ x = "IndexError")
    (hv : bootBuiltins x = some v) (h : Q v s) (hne : x ≠ "__name__" := by decide) (hk : env.scope.kind = .function := by rfl) (hg : env.globals = mainGlobals := by rfl) (hb : env.builtins = builtinsNs := by rfl) (hl : env.kindOf x = some .globalImplicit := by rfl)
    (hd : (x == ("__debug__" : Str)) = false := by decide) : wpAny (model prog w) A (eval (.Name x pos) env) Q E s :=
  Calls.Name_function_global hk hl (Calls.loadGlobal_builtin (mg := mg) (mb := mb) (by rw [hg]; exact G.g) (G.free _ hx) (by rw [hb]; exact G.b) ((G.blt _ hne).trans hv) h) hd

/-- len(e) -/
theorem lenN {e : Expr} {np pos : Pos} {mg mb : Str → Option Value} {Q : Value → Shared → Prop} (G : Gl mg mb s.heap)
    (h : wpAny (model prog w) A (eval e env) (fun v s₁ => wpAny (model prog w) A (call (.builtin "len") [v]) Q E s₁) E s)
    (hk : env.scope.kind = .function := by rfl) (hg : env.globals = mainGlobals := by rfl) (hb : env.builtins = builtinsNs := by rfl) (hl : env.kindOf "len" = some .globalImplicit := by rfl) (he : starEach [e] env = [(false, eval e env)] := by rfl) :
    wpAny (model prog w) A (eval (.Call (.Name "len" np) [e] [] pos) env) Q E s := by
  refine wpAny_Call_NameR (nameB (x := "len") (v := .builtin "len") G (by simp) (by kernel_rfl) ?_ (by decide) hk hg hb hl)
  rw [he]
  exact Calls.callWith_builtin rfl (Calls.evalArgs_plain (Calls.spliced_cons (wpAny_mono h (fun v s₁ h₁ => Calls.spliced_nil h₁) fun _ _ x => x)))

/-- a zip made: its walk -/
def ZipAt (prog : Program) (w : World) (A : Around) (h₀ h' : Heap) (src : List Addr) (z : Addr) (n : Nat) (P : Nat → Value → Value → Prop) : Prop :=
  ∃ fp wr Pt St Mid, WalksT prog w A z fp wr n Pt St Mid ∧ (∀ i vals, Pt i vals → ∃ v0 v1, vals = #[v0, v1] ∧ P i v0 v1) ∧ St 0 h' ∧ (∀ b ∈ wr, h₀.get? b = none) ∧ (∀ b ∈ fp, h₀.get? b = none ∨ b ∈ src)

theorem zip_lists {l1 l2 : Addr} {xs ys : Array Value} {Q : Value → Shared → Prop} (hh : A.handled = none) (hl1 : s.heap.IsList l1 xs) (hl2 : s.heap.IsList l2 ys)
    (h : ∀ h' z, Ext s.heap h' → ZipAt prog w A s.heap h' [l1, l2] z (min xs.size ys.size) (fun i a b => xs[i]? = some a ∧ ys[i]? = some b) → Q (.ref z) { s with heap := h' }) :
    wpAny (model prog w) A (call (.type "zip") [.ref l1, .ref l2]) Q E s := by
  have a1 : l1 < s.heap.objs.size := by obtain ⟨_, e, _⟩ := hl1; exact Heap.lt_size e
  have a2 : l2 < s.heap.objs.size := by obtain ⟨_, e, _⟩ := hl2; exact Heap.lt_size e
  refine call_zip_2 hl1 hl2 fun h' hz hTI hTO hi1 hi2 _ hk => ?_
  have W := WalksT.zip2 (prog := prog) (w := w) hh _ _ _ _ _ _ _ (zipApart_new a1 a2) xs ys
  refine h h' _ hk ⟨_, _, _, _, _, W, ?_, ⟨hz, hTI, ⟨_, _, hTO⟩, hi1, hi2, hl1.at fun o e => hk _ o e, hl2.at fun o e => hk _ o e⟩, ?_, ?_⟩
  · rintro i vals ⟨x, y, hx, hy, rfl⟩
    exact ⟨x, y, rfl, hx, hy⟩
  · intro b hb
    simp only [List.mem_cons, List.not_mem_nil, or_false] at hb
    have nw : ∀ k, s.heap.get? (s.heap.objs.size + k) = none := fun k => Heap.get?_none_of_le (Nat.le_add_right _ k)
    rcases hb with rfl | rfl | rfl | rfl
    · exact nw 4
    · exact nw 3
    · exact nw 0
    · exact nw 1
  · intro b hb
    simp only [List.mem_cons, List.not_mem_nil, or_false] at hb
    have nw : ∀ k, s.heap.get? (s.heap.objs.size + k) = none := fun k => Heap.get?_none_of_le (Nat.le_add_right _ k)
    rcases hb with rfl | rfl | rfl | rfl | rfl | rfl | rfl
    · exact .inl (nw 4)
    · exact .inl (nw 2)
    · exact .inl (nw 3)
    · exact .inl (nw 0)
    · exact .inl (nw 1)
    · exact .inr (by simp)
    · exact .inr (by simp)

abbrev zs1 (h : Heap) (x : Str) (t : Tok) : Heap := h.push { cls := .type "str_ascii_iterator", data := .fields #[.str x t, .int 0 0] }
abbrev zs2 (h : Heap) (x y : Str) (t u : Tok) : Heap := (zs1 h x t).push { cls := .type "str_ascii_iterator", data := .fields #[.str y u, .int 0 0] }
abbrev zs3 (h : Heap) (x y : Str) (t u : Tok) : Heap := (zs2 h x y t u).push { cls := .type "tuple", data := .seq #[.ref h.objs.size, .ref (zs1 h x t).objs.size] }
abbrev zs4 (h : Heap) (x y : Str) (t u : Tok) : Heap := (zs3 h x y t u).push { cls := .type "tuple", data := .seq #[.none, .none] }
abbrev zs5 (h : Heap) (x y : Str) (t u : Tok) : Heap := (zs4 h x y t u).push { cls := .type "zip", data := .fields #[.none, .bool false, .bool false, .ref (zs2 h x y t u).objs.size, .ref (zs3 h x y t u).objs.size] }

theorem meets_zip_g (v u : Value) (o1 o2 : Obj) (hv : ∀ {prog : Program} {w : World} {A : Around} {E : Value → Shared → Prop} {s : Shared} {Q : Value → Shared → Prop}, Q (.ref s.heap.objs.size) { s with heap := s.heap.push o1 } → wpAny (model prog w) A (pyIter v) Q E s)
    (hu : ∀ {prog : Program} {w : World} {A : Around} {E : Value → Shared → Prop} {s : Shared} {Q : Value → Shared → Prop}, Q (.ref s.heap.objs.size) { s with heap := s.heap.push o2 } → wpAny (model prog w) A (pyIter u) Q E s) :
    Meets (Builtin.«zip.__new__» ⟨[.type "zip", v, u], []⟩) (fun _ R s => R (.ok (.ret (.ref ((((s.heap.push o1).push o2).push { cls := .type "tuple", data := .seq #[.ref s.heap.objs.size, .ref (s.heap.push o1).objs.size] }).push { cls := .type "tuple", data := .seq #[.none, .none] }).objs.size)))
      { s with heap := ((((s.heap.push o1).push o2).push { cls := .type "tuple", data := .seq #[.ref s.heap.objs.size, .ref (s.heap.push o1).objs.size] }).push { cls := .type "tuple", data := .seq #[.none, .none] }).push { cls := .type "zip", data := .fields #[.none, .bool false, .bool false, .ref ((s.heap.push o1).push o2).objs.size, .ref (((s.heap.push o1).push o2).push { cls := .type "tuple", data := .seq #[.ref s.heap.objs.size, .ref (s.heap.push o1).objs.size] }).objs.size] } }) :=
  .of_wp fun prog w A R s h => by
    obtain ⟨hp, g, d, tk, os⟩ := s
    have hsub := sub_zip
    wp_walk using hv, hu
    exact ⟨_, rfl, h⟩

theorem meets_zip_s (x y : Str) (t u : Tok) (hx : x.cps.all (· < 128) = true) (hy : y.cps.all (· < 128) = true) :
    Meets (Builtin.«zip.__new__» ⟨[.type "zip", .str x t, .str y u], []⟩) (fun _ R s => R (.ok (.ret (.ref (zs4 s.heap x y t u).objs.size))) { s with heap := zs5 s.heap x y t u }) :=
  meets_zip_g _ _ _ _ (fun h => wpAny_pyIter_ascii hx h) (fun h => wpAny_pyIter_ascii hy h)

theorem zip_strs {x y : Str} {t u : Tok} {Q : Value → Shared → Prop} (hh : A.handled = none) (hx : x.cps.all (· < 128) = true) (hy : y.cps.all (· < 128) = true)
    (h : ∀ h' z, Ext s.heap h' → ZipAt prog w A s.heap h' [] z (min x.cps.size y.cps.size) (fun i a b => (∃ c t', x.cps[i]? = some c ∧ a = .str ⟨#[c]⟩ t') ∧ ∃ c t', y.cps[i]? = some c ∧ b = .str ⟨#[c]⟩ t') → Q (.ref z) { s with heap := h' }) :
    wpAny (model prog w) A (call (.type "zip") [.str x t, .str y u]) Q E s := by
  refine callType_new F.called_zip (by decide) (F.typeCall_zip_2 _ _) (F.newCall_zip_2 _ _) (fun obj => F.args_object_init_3 obj _ _) F.entry_zip_new
    (meets_zip_s x y t u hx hy) ?_
  have z1 : (zs1 s.heap x t).objs.size = s.heap.objs.size + 1 := Heap.size_push ..
  have z2 : (zs2 s.heap x y t u).objs.size = s.heap.objs.size + 2 := by rw [Heap.size_push, z1]
  have z3 : (zs3 s.heap x y t u).objs.size = s.heap.objs.size + 3 := by rw [Heap.size_push, z2]
  have z4 : (zs4 s.heap x y t u).objs.size = s.heap.objs.size + 4 := by rw [Heap.size_push, z3]
  have g5 : (zs5 s.heap x y t u).get? (zs4 s.heap x y t u).objs.size = some _ := Heap.get?_push_size _ rfl
  have g4 : (zs5 s.heap x y t u).get? (zs3 s.heap x y t u).objs.size = some _ := Heap.get?_push_of_some _ (Heap.get?_push_size _ rfl)
  have g3 : (zs5 s.heap x y t u).get? (zs2 s.heap x y t u).objs.size = some _ := Heap.get?_push_of_some _ (Heap.get?_push_of_some _ (Heap.get?_push_size _ rfl))
  have g2 : (zs5 s.heap x y t u).get? (zs1 s.heap x t).objs.size = some _ := Heap.get?_push_of_some _ (Heap.get?_push_of_some _ (Heap.get?_push_of_some _ (Heap.get?_push_size _ rfl)))
  have g1 : (zs5 s.heap x y t u).get? s.heap.objs.size = some _ := Heap.get?_push_of_some _ (Heap.get?_push_of_some _ (Heap.get?_push_of_some _ (Heap.get?_push_of_some _ (Heap.get?_push_size _ rfl))))
  show _ ∧ _
  rw [z2, z3, z4] at g5
  rw [z1, z2] at g3
  rw [z3] at g4
  rw [z1] at g2
  rw [z4]
  have hk : Ext s.heap (zs5 s.heap x y t u) := fun c o x => Heap.get?_push_of_some _ (Heap.get?_push_of_some _ (Heap.get?_push_of_some _ (Heap.get?_push_of_some _ (Heap.get?_push_of_some _ x))))
  have ne : ∀ {i j : Nat}, i ≠ j → (s.heap.objs.size + i : Nat) ≠ s.heap.objs.size + j := fun h => by omega
  have Z : ZA (s.heap.objs.size + 4) (s.heap.objs.size + 2) (s.heap.objs.size + 3) s.heap.objs.size (s.heap.objs.size + 1) [s.heap.objs.size] [s.heap.objs.size + 1] := by
    constructor <;> first
      | (simp only [List.mem_singleton]; exact neN (by omega))
      | exact neN (by omega)
  have W := zipWalk (prog := prog) (w := w) (A := A) Z (Draws.strAscii (A := A.in1) hh s.heap.objs.size x t) (Draws.strAscii (A := A.in1) hh (s.heap.objs.size + 1) y u) (by simp) (by simp)
  have nw : ∀ k, s.heap.get? (s.heap.objs.size + k) = none := fun k => Heap.get?_none_of_le (Nat.le_add_right _ k)
  refine ⟨⟨_, g5, rfl⟩, h _ _ hk ⟨_, _, _, _, _, W, ?_, ⟨g5, g3, ⟨_, _, g4⟩, ⟨_, g1, rfl, rfl⟩, ⟨_, g2, rfl, rfl⟩⟩, ?_, ?_⟩⟩
  · rintro i vals ⟨x, y, hx, hy, rfl⟩
    exact ⟨x, y, rfl, hx, hy⟩
  · intro b hb
    simp only [List.mem_cons, List.not_mem_nil, or_false] at hb
    rcases hb with rfl | rfl | rfl | rfl
    · exact nw 4
    · exact nw 3
    · exact nw 0
    · exact nw 1
  · intro b hb
    simp only [List.mem_cons, List.not_mem_nil, or_false, List.mem_append] at hb
    rcases hb with rfl | rfl | rfl | rfl | rfl
    · exact .inl (nw 4)
    · exact .inl (nw 2)
    · exact .inl (nw 3)
    · exact .inl (nw 0)
    · exact .inl (nw 1)
end
end Mine
end

/-! text O3 -/
section
open PySem PySem.W PyProof.Rows
set_option Elab.async false
set_option maxRecDepth 100000
namespace Mine

theorem cmpL_first {α : Type} {c : α → α → Ordering} : ∀ (xs ys : List α) (i : Nat) (h1 : i < xs.length) (h2 : i < ys.length), (∀ j (q1 : j < xs.length) (q2 : j < ys.length), j < i → c xs[j] ys[j] = .eq) → c xs[i] ys[i] ≠ .eq → cmpL c xs ys = c xs[i] ys[i]
  | [], _, _, h, _, _, _ => by simp at h
  | _ :: _, [], _, _, h, _, _ => by simp at h
  | x :: xs, y :: ys, 0, _, _, _, hne => by
    simp only [List.getElem_cons_zero] at hne ⊢
    rw [cmpL]; cases h : c x y <;> first | rfl | exact absurd h hne
  | x :: xs, y :: ys, i + 1, h1, h2, he, hne => by
    have h0 := he 0 (by simp) (by simp) (by omega)
    simp only [List.getElem_cons_zero] at h0
    rw [cmpL, h0]
    exact cmpL_first xs ys i (by simpa using h1) (by simpa using h2) (fun j q1 q2 hj => he (j + 1) (by simpa using q1) (by simpa using q2) (by omega)) hne

theorem cmpL_lens {α : Type} {c : α → α → Ordering} : ∀ (xs ys : List α), (∀ j (q1 : j < xs.length) (q2 : j < ys.length), c xs[j] ys[j] = .eq) → cmpL c xs ys = cN xs.length ys.length
  | [], [], _ => rfl
  | [], _ :: _, _ => by simp [cmpL, cN]
  | _ :: _, [], _ => by simp [cmpL, cN]
  | x :: xs, y :: ys, he => by
    have h0 := he 0 (by simp) (by simp)
    simp only [List.getElem_cons_zero] at h0
    rw [cmpL, h0, cmpL_lens xs ys fun j q1 q2 => he (j + 1) (by simpa using q1) (by simpa using q2)]
    simp [cN]

section
variable {prog : Program} {w : World} {A : Around} {s : Shared}

/-- two values that zip and len read as lists -/
structure SeqV {β : Type} (prog : Program) (w : World) (R : Rel β) (h : Heap) (v u : Value) (xs ys : List β) : Prop where
  zip : ∃ src : List Addr, (∀ b ∈ src, ∃ o, h.get? b = some o ∧ ∃ its n, o.data = .seq its n) ∧ ∀ (A : Around) (s' : Shared) (Q E : Value → Shared → Prop), A.handled = none → Ext h s'.heap →
    (∀ h' z, Ext s'.heap h' → ZipAt prog w A s'.heap h' src z (min xs.length ys.length) (fun i a b => ∀ (h1 : i < xs.length) (h2 : i < ys.length), R.r Any h a xs[i] ∧ R.r Any h b ys[i]) → Q (.ref z) { s' with heap := h' }) → wpAny (model prog w) A (call (.type "zip") [v, u]) Q E s'
  len1 : ∀ (A : Around) (s' : Shared) (Q E : Value → Shared → Prop), Ext h s'.heap → (∀ t tk, Q (.int (xs.length : Nat) t) { s' with toks := tk }) → wpAny (model prog w) A (call (.builtin "len") [v]) Q E s'
  len2 : ∀ (A : Around) (s' : Shared) (Q E : Value → Shared → Prop), Ext h s'.heap → (∀ t tk, Q (.int (ys.length : Nat) t) { s' with toks := tk }) → wpAny (model prog w) A (call (.builtin "len") [u]) Q E s'

theorem seqvL {β : Type} {R : Rel β} {X Y : Addr → Prop} {h : Heap} {v u : Value} {xs ys : List β} (hv : (rL R).r X h v xs) (hu : (rL R).r Y h u ys) (hx : xs.length ≤ 1000000) (hy : ys.length ≤ 1000000) : SeqV prog w R h v u xs ys := by
  obtain ⟨l1, i1, rfl, _, p1, q1⟩ := hv
  obtain ⟨l2, i2, rfl, _, p2, q2⟩ := hu
  have s1 : i1.size = xs.length := by have := q1.length; simpa using this
  have s2 : i2.size = ys.length := by have := q2.length; simpa using this
  refine ⟨⟨[l1, l2], ?_, ?_⟩, ?_, ?_⟩
  · intro b hb
    simp only [List.mem_cons, List.not_mem_nil, or_false] at hb
    rcases hb with rfl | rfl
    · obtain ⟨o, n, ho, _, _, hd⟩ := p1; exact ⟨o, ho, _, _, hd⟩
    · obtain ⟨o, n, ho, _, _, hd⟩ := p2; exact ⟨o, ho, _, _, hd⟩
  · intro A s' Q E hh he hq
    refine zip_lists hh (p1.isList.at fun o e => he _ _ e) (p2.isList.at fun o e => he _ _ e) fun h' z e' Z => hq h' z e' ?_
    rw [s1, s2] at Z
    obtain ⟨fp, wr, Pt, St, Mid, W, hP, r⟩ := Z
    refine ⟨fp, wr, Pt, St, Mid, W, fun i vals hpt => ?_, r⟩
    obtain ⟨v0, v1, e, a0, a1⟩ := hP i vals hpt
    refine ⟨v0, v1, e, fun h1 h2 => ?_⟩
    obtain ⟨g1, rfl⟩ := Array.getElem?_eq_some_iff.mp a0
    obtain ⟨g2, rfl⟩ := Array.getElem?_eq_some_iff.mp a1
    have t1 := pget q1 i (by simpa using g1) h1
    have t2 := pget q2 i (by simpa using g2) h2
    rw [Array.getElem_toList] at t1 t2
    exact ⟨R.any t1, R.any t2⟩
  · intro A s' Q E he hq
    refine Calls.call_len_list (p1.isList.at fun o e => he _ _ e) (by omega) ?_
    rw [s1]; exact hq _ _
  · intro A s' Q E he hq
    refine Calls.call_len_list (p2.isList.at fun o e => he _ _ e) (by omega) ?_
    rw [s2]; exact hq _ _

theorem seqvS {h : Heap} {x y : List Nat} {t u : Tok} (ax : ∀ c ∈ x, c < 128) (ay : ∀ c ∈ y, c < 128) (hx : x.length ≤ 1000000) (hy : y.length ≤ 1000000) :
    SeqV prog w rS h (.str (mkS x) t) (.str (mkS y) u) (x.map fun c => [c]) (y.map fun c => [c]) := by
  refine ⟨⟨[], by simp, ?_⟩, ?_, ?_⟩
  · intro A s' Q E hh he hq
    refine zip_strs hh (by simpa using ax) (by simpa using ay) fun h' z e' Z => hq h' z e' ?_
    obtain ⟨fp, wr, Pt, St, Mid, W, hP, r⟩ := Z
    simp only [List.size_toArray] at W hP
    simp only [List.length_map]
    refine ⟨fp, wr, Pt, St, Mid, W, fun i vals hpt => ?_, r⟩
    obtain ⟨v0, v1, e, ⟨c, t', hc, rfl⟩, d, u', hd, rfl⟩ := hP i vals hpt
    refine ⟨_, _, e, fun h1 h2 => ⟨⟨t', ?_⟩, ⟨u', ?_⟩⟩⟩
    · have : x[i]? = some c := by simpa using hc
      obtain ⟨_, rfl⟩ := List.getElem?_eq_some_iff.mp this
      simp
    · have : y[i]? = some d := by simpa using hd
      obtain ⟨_, rfl⟩ := List.getElem?_eq_some_iff.mp this
      simp
  · intro A s' Q E he hq
    refine P.len_str (by rw [mkS_len]; omega) ?_
    rw [mkS_len]; rw [List.length_map] at hq; exact hq _ _
  · intro A s' Q E he hq
    refine P.len_str (by rw [mkS_len]; omega) ?_
    rw [mkS_len]; rw [List.length_map] at hq; exact hq _ _

/-- -1 or 1 by a test -/
theorem signE {env : Env} {test : Expr} {k1 k2 : Nat} {p1 p2 p3 pos : Pos} {b : Bool} {Q : Value → Shared → Prop} {E : Value → Shared → Prop} (h : wpAny (model prog w) A (isTrue test env (eval test env)) (fun c s₁ => c = b ∧ ∀ t tk, Q (.int (if b then -1 else 1) t) { s₁ with toks := tk }) E s) :
    wpAny (model prog w) A (eval (.IfExp test (.UnaryOp .USub (.Constant (.int 1) k1 p1) p2) (.Constant (.int 1) k2 p3) pos) env) Q E s := by
  refine wpAny_IfExp (wpAny_mono h (fun c s₁ h₁ => ?_) fun _ _ x => x)
  obtain ⟨rfl, hq⟩ := h₁
  cases c with
  | true => exact wpAny_UnaryOp (wpAny_Constant_int (neg_int (hq _ _)))
  | false => exact wpAny_Constant_int (hq _ _)

set_option maxHeartbeats 2000000 in
theorem order_step {a : Addr} {mg mb : Str → Option Value} (G : Gl mg mb s.heap) {k : Nat} (r : Rm (k + 2) A) (hf : isFun s.heap 8 a) {β : Type} {R : Rel β} {c : β → β → Ordering} {n : Nat} (O : Ordd R c n) (hn : n ≤ 100) {v u : Value} {xs ys : List β} (Z : SeqV prog w R s.heap v u xs ys) {t : Tok}
    (rec : ∀ x ∈ xs, ∀ y ∈ ys, c x y ≠ .eq → ∀ (B : Around) (s' : Shared) (a' : Addr) (va ub : Value) (t : Tok), Rm (k + 1) B → Gl mg mb s'.heap → Ext s.heap s'.heap → isFun s'.heap 8 a' → R.r Any s'.heap va x → R.r Any s'.heap ub y → Ev prog w B (call (.ref a') [va, ub, .int (k : Int) t]) s' (fun z _ => ∃ t, z = .int (oI (c x y)) t)) :
    Ev prog w A (call (.ref a) [v, u, .int ((k + 1 : Nat) : Int) t]) s (fun z _ => ∃ t, z = .int (oI (cmpL c xs ys)) t) := by
  refine callF (k := 8) (binds := [("one", v), ("other", u), ("floors", .int ((k + 1 : Nat) : Int) t)]) (by have := r.depth; omega) hf G.nolimit (fun _ _ _ => rfl) (locs rfl) (fun h₁ cd F => ?_) rfl rfl rfl (by decide)
  have r' := r.deeper (envOf (fR 8).name (fR 8).scope s.heap.objs.size a cd)
  have hh := r'.hh
  have hU : (A.deeper (envOf (fR 8).name (fR 8).scope s.heap.objs.size a cd)).units + n < cLine := by have := r'.units; omega
  refine wpAny_execs_cons (wpAny_If (wpAny_isTrue_Compare1 (ldl F.ns rfl (wpAny_Constant_int (PyProof.Rows.eq_int (wpAny_truthy_bool ?_))))))
  rw [show (((k + 1 : Nat) : Int) == 0) = false by simp; omega]
  simp only [Bool.false_eq_true, if_false]
  refine wpAny_execs_nil ?_
  obtain ⟨src, hsrc, zip⟩ := Z.zip
  refine wpAny_execs_cons (For_pair3 s.heap hh rfl rfl rfl ?_ (fun _ => rfl))
  refine wpAny_Call_NameR (nameB (x := "zip") (v := .type "zip") (G.keeps F.keep) (by simp) (by kernel_rfl) ?_)
  refine PyProof.Rows.callWith_type1 (Calls.spliced_cons (ldl F.ns rfl (Calls.spliced_cons (ldl F.ns rfl (Calls.spliced_nil ?_)))))
  refine zip _ _ _ _ hh F.keep fun h₂ z e₂ ZA => ?_
  obtain ⟨fp, wr, Pt, St, Mid, W, hP, hst, hwr, hfp⟩ := ZA
  refine W.self 0 _ _ _ hst ?_
  obtain ⟨mm, hm1, hm2, hm3, F₂⟩ : ∃ mm : Str → Option Value, mm "one" = some v ∧ mm "other" = some u ∧ mm "floors" = some (.int ((k + 1 : Nat) : Int) t) ∧ Fr s.heap s.heap.objs.size h₂ mm := ⟨_, rfl, rfl, rfl, F.keeps e₂⟩
  have hLl : s.heap.objs.size ∉ fp := by
    intro hm
    rcases hfp _ hm with q | q
    · obtain ⟨o, _, _, ho, _⟩ := F.ns
      have q : h₁.get? s.heap.objs.size = none := q
      rw [q] at ho; cases ho
    · obtain ⟨o, ho, _⟩ := hsrc _ q
      rw [get_none_size] at ho; cases ho
  refine ⟨z, fp, wr, _, _, _, _, (fun i a b => ∀ (h1 : i < xs.length) (h2 : i < ys.length), R.r Any s.heap a xs[i] ∧ R.r Any s.heap b ys[i]), mm, [],
    (fun i m₁ news₁ => news₁ = [] ∧ m₁ "one" = some v ∧ m₁ "other" = some u ∧ m₁ "floors" = some (.int ((k + 1 : Nat) : Int) t) ∧ ∀ j (q1 : j < xs.length) (q2 : j < ys.length), j < i → c xs[j] ys[j] = .eq), rfl, W, ?_, hLl, ?_, by simp, hst, F₂, News.nil, ⟨rfl, hm1, hm2, hm3, by intros; omega⟩, ?_, ?_⟩
  · exact hP
  · intro b hb
    cases q : s.heap.get? b with
    | none => rfl
    | some o => have q' := hwr b hb; have q'' := F.keep _ _ q; have q' : h₁.get? b = none := q'; rw [q'] at q''; cases q''
  · rintro i va ub m₁ news₁ s₁ own ⟨H, tk, rfl⟩ hi hab ⟨rfl, h1, h2, h3, hall⟩ _ _ F₃ N₃
    have hix : i < xs.length := by omega
    have hiy : i < ys.length := by omega
    obtain ⟨ra, rb⟩ := hab hix hiy
    have F₃ : Fr s.heap s.heap.objs.size H (fun y => if y = Str.ofString "b" then some ub else if y = Str.ofString "a" then some va else m₁ y) := F₃
    have ra' := R.ext ra F₃.keep
    have rb' := R.ext rb F₃.keep
    refine wpAny_execs_cons (wpAny_If (wpAny_isTrue_Compare1 (ldl F₃.ns rfl (ldl F₃.ns rfl ?_))))
    refine (cmp_op O hU (s := { s with heap := H, toks := tk }) ra' rb').2.2.2 (wpAny_truthy_bool ?_)
    by_cases hc : c xs[i] ys[i] = .eq
    · rw [show (c xs[i] ys[i] != .eq) = false by rw [hc]; rfl]
      simp only [Bool.false_eq_true, if_false]
      refine wpAny_execs_nil (wpAny_execs_nil ?_)
      refine ⟨rfl, H, tk, _, [], rfl, F₃, N₃, rfl, rfl, h1, h2, h3, fun j q1 q2 hj => ?_⟩
      rcases Nat.lt_succ_iff_lt_or_eq.mp hj with hj | rfl
      · exact hall j q1 q2 hj
      · exact hc
    · rw [show (c xs[i] ys[i] != .eq) = true by simp [hc]]
      simp only [if_true]
      have G₃ := G.keeps F₃.keep
      obtain ⟨a', ha', hF'⟩ := G₃.fn 8 (by omega)
      refine wpAny_execs_cons (wpAny_Return_some (wpAny_Call_NameR (Calls.Name_function_global rfl rfl (Calls.loadGlobal_global (mg := mg) G₃.g ha' ?_) (by decide))))
      obtain ⟨o, pm, code, doc, ho, hdat, hcd⟩ := id hF'
      refine callWith_def_at (o := o) (fd := _) ho hdat (Calls.spliced_cons (ldl F₃.ns rfl (Calls.spliced_cons (ldl F₃.ns rfl (Calls.spliced_cons (wpAny_BinOp (ldl F₃.ns h3 (wpAny_Constant_int (PyProof.Rows.sub_int ?_)))))))))
      refine Calls.spliced_nil ⟨ho, ?_⟩
      have e1 : (((k + 1 : Nat) : Int) - 1) = (k : Int) := by omega
      rw [e1]
      refine (rec xs[i] (List.getElem_mem _) ys[i] (List.getElem_mem _) hc _ { s with heap := H, toks := _ } a' va ub _ r' G₃ F₃.keep hF' ra' rb').use fun z s₄ hk₄ hz => ?_
      refine ⟨kTrans (kOf F₃.keep) hk₄, ?_⟩
      rw [cmpL_first xs ys i hix hiy hall hc]
      exact hz
  · rintro h₄ tk₄ m₄ news₄ F₄ _ _ ⟨_, h1, h2, h3, hall⟩
    have hall' : ∀ j (q1 : j < xs.length) (q2 : j < ys.length), c xs[j] ys[j] = .eq := fun j q1 q2 => hall j q1 q2 (by omega)
    have G₄ := G.keeps F₄.keep
    rw [cmpL_lens xs ys hall']
    refine wpAny_execs_cons (wpAny_If (wpAny_isTrue_Compare1 (lenN G₄ (ldl F₄.ns h1 (Z.len1 _ _ _ _ F₄.keep fun t₁ tk₁ => lenN G₄ (ldl F₄.ns h2 (Z.len2 _ _ _ _ F₄.keep fun t₂ tk₂ => PyProof.Rows.eq_int (wpAny_truthy_bool ?_))))))))
    by_cases hl : xs.length = ys.length
    · rw [show (((xs.length : Nat) : Int) == ((ys.length : Nat) : Int)) = true by simp [hl]]
      simp only [if_true]
      refine wpAny_execs_cons (wpAny_Return_some (wpAny_Constant_int ?_))
      exact ⟨kOf F₄.keep, _, congrArg (fun q => Value.int q _) (show (0 : Int) = oI (cN xs.length ys.length) by rw [hl]; simp [cN, oI])⟩
    · rw [show (((xs.length : Nat) : Int) == ((ys.length : Nat) : Int)) = false by simp; omega]
      simp only [Bool.false_eq_true, if_false]
      refine wpAny_execs_nil ?_
      refine wpAny_execs_cons (wpAny_Return_some (signE (b := decide (xs.length < ys.length)) (wpAny_isTrue_Compare1 (lenN G₄ (ldl F₄.ns h1 (Z.len1 _ _ _ _ F₄.keep fun t₁ tk₁ => lenN G₄ (ldl F₄.ns h2 (Z.len2 _ _ _ _ F₄.keep fun t₂ tk₂ => PyProof.Rows.lt_int (wpAny_truthy_bool ⟨?_, fun t tk => ⟨kOf F₄.keep, t, ?_⟩⟩))))))))) 
      · simp
      · by_cases hlt : xs.length < ys.length
        · simp [cN, hlt, oI]
        · have : ys.length < xs.length := by omega
          simp [cN, hlt, this, oI]
end
end Mine
end

/-! text O4 -/
section
open PySem PySem.W PyProof.Rows
set_option Elab.async false
set_option maxRecDepth 100000
namespace Mine

abbrev Sg (c : Nat) : Prop := c = 92 ∨ c = 93 ∨ c = 97 ∨ c = 98
def sgIx (c : Nat) : Nat := if c = 92 then 0 else if c = 93 then 1 else if c = 97 then 2 else 3
theorem sg_occ {c : Nat} (h : Sg c) : Builtin.Str.occurrences (mkS [92, 93, 97, 98]) (mkS [c]) 0 (mkS [92, 93, 97, 98]).length 1 = [sgIx c] := by
  rcases h with rfl | rfl | rfl | rfl <;> decide +kernel

abbrev okT (t : List Nat) : Prop := (∀ c ∈ t, Sg c) ∧ t.length ≤ 1000000
abbrev okI (r : List (List Nat)) : Prop := (∀ t ∈ r, okT t) ∧ r.length ≤ 1000000
abbrev okW (r : List (List (List Nat))) : Prop := (∀ t ∈ r, okI t) ∧ r.length ≤ 1000000

theorem cmpL_sing (x y : List Nat) : cmpL c0 (x.map fun c => [c]) (y.map fun c => [c]) = c0 x y := by
  induction x generalizing y with
  | nil => cases y <;> rfl
  | cons a x ih =>
    cases y with
    | nil => rfl
    | cons b y =>
      simp only [List.map_cons]
      show (match c0 [a] [b] with | .eq => _ | o => o) = (match cN a b with | .eq => _ | o => o)
      have : c0 [a] [b] = cN a b := by
        show (match cN a b with | .eq => cmpL cN [] [] | o => o) = _
        cases cN a b <;> rfl
      rw [this, ih y]

section
variable {prog : Program} {w : World} {A : Around} {s : Shared}

set_option maxHeartbeats 2000000 in
theorem order0 {a : Addr} {mg mb : Str → Option Value} (G : Gl mg mb s.heap) (r : Rm 1 A) (hf : isFun s.heap 8 a) {p q : Nat} (hp : Sg p) (hq : Sg q) (hne : p ≠ q) {t t1 t2 : Tok} :
    Ev prog w A (call (.ref a) [.str (mkS [p]) t1, .str (mkS [q]) t2, .int ((0 : Nat) : Int) t]) s (fun z _ => ∃ t, z = .int (oI (c0 [p] [q])) t) := by
  refine callF (k := 8) (binds := [("one", .str (mkS [p]) t1), ("other", .str (mkS [q]) t2), ("floors", .int ((0 : Nat) : Int) t)]) (by have := r.depth; omega) hf G.nolimit (fun _ _ _ => rfl) (locs rfl) (fun h₁ cd F => ?_) rfl rfl rfl (by decide)
  refine wpAny_execs_cons (wpAny_If (wpAny_isTrue_Compare1 (ldl F.ns rfl (wpAny_Constant_int (PyProof.Rows.eq_int (wpAny_truthy_bool ?_))))))
  rw [show (((0 : Nat) : Int) == 0) = true by rfl]
  simp only [if_true]
  with_reducible refine wpAny_execs_cons (wpAny_Return_some ?_)
  with_reducible refine signE (b := decide (sgIx p < sgIx q)) ?_
  with_reducible refine wpAny_isTrue_Compare1 ?_
  with_reducible refine Call_method1 ?_ ?_ ?_ ?_
  · rfl
  · rfl
  · rfl
  refine cstr (l := [92, 93, 97, 98]) fun t₃ => SB.index (ldl F.ns rfl ⟨_, _, rfl, sgIx p, [], sg_occ hp, ?_⟩)
  with_reducible refine Call_method1 ?_ ?_ ?_ ?_
  · rfl
  · rfl
  · rfl
  refine cstr (l := [92, 93, 97, 98]) fun t₄ => SB.index (ldl F.ns rfl ⟨_, _, rfl, sgIx q, [], sg_occ hq, ?_⟩)
  refine PyProof.Rows.lt_int (wpAny_truthy_bool ⟨by simp, fun t₅ tk => ⟨kOf F.keep, t₅, congrArg (fun z => Value.int z _) ?_⟩⟩)
  rcases hp with rfl | rfl | rfl | rfl <;> rcases hq with rfl | rfl | rfl | rfl <;> first | exact absurd rfl hne | decide +kernel

theorem order1 {a : Addr} {mg mb : Str → Option Value} (G : Gl mg mb s.heap) (r : Rm 2 A) (hf : isFun s.heap 8 a) {X Y : Addr → Prop} {v u : Value} {x y : List Nat} (hv : rS.r X s.heap v x) (hu : rS.r Y s.heap u y) (hx : okT x) (hy : okT y) {t : Tok} :
    Ev prog w A (call (.ref a) [v, u, .int ((1 : Nat) : Int) t]) s (fun z _ => ∃ t, z = .int (oI (c0 x y)) t) := by
  obtain ⟨t1, rfl⟩ := hv
  obtain ⟨t2, rfl⟩ := hu
  rw [← cmpL_sing x y]
  have lt : ∀ {z : List Nat}, okT z → ∀ c ∈ z, c < 128 := fun h c hc => by rcases h.1 c hc with rfl | rfl | rfl | rfl <;> decide
  refine order_step G (k := 0) r hf ordS (by omega) (seqvS (lt hx) (lt hy) hx.2 hy.2) ?_
  intro p hp q hq hne B s' a' va ub t r' G' _ hf' ⟨tp, hp'⟩ ⟨tq, hq'⟩
  obtain ⟨p, hp2, rfl⟩ := List.mem_map.mp hp
  obtain ⟨q, hq2, rfl⟩ := List.mem_map.mp hq
  subst hp'; subst hq'
  refine order0 G' r' hf' (hx.1 p hp2) (hy.1 q hq2) ?_
  rintro rfl
  exact hne (ordS.refl _)

theorem order2 {a : Addr} {mg mb : Str → Option Value} (G : Gl mg mb s.heap) (r : Rm 3 A) (hf : isFun s.heap 8 a) {X Y : Addr → Prop} {v u : Value} {x y : List (List Nat)} (hv : (rL rS).r X s.heap v x) (hu : (rL rS).r Y s.heap u y) (hx : okI x) (hy : okI y) {t : Tok} :
    Ev prog w A (call (.ref a) [v, u, .int ((2 : Nat) : Int) t]) s (fun z _ => ∃ t, z = .int (oI (c1 x y)) t) := by
  refine order_step G (k := 1) r hf ordS (by omega) (seqvL hv hu hx.2 hy.2) ?_
  intro p hp q hq hne B s' a' va ub t r' G' _ hf' hp' hq'
  exact order1 G' r' hf' hp' hq' (hx.1 p hp) (hy.1 q hq)

theorem con_order {a : Addr} {mg mb : Str → Option Value} (G : Gl mg mb s.heap) (r : Rm 4 A) (hf : isFun s.heap 8 a) {X Y : Addr → Prop} {v u : Value} {x y : List (List (List Nat))} (hv : (rL (rL rS)).r X s.heap v x) (hu : (rL (rL rS)).r Y s.heap u y) (hx : okW x) (hy : okW y) {t : Tok} :
    Ev prog w A (call (.ref a) [v, u, .int ((3 : Nat) : Int) t]) s (fun z _ => ∃ t, z = .int (oI (c2 x y)) t) := by
  refine order_step G (k := 2) r hf (ordL ordS) (by omega) (seqvL hv hu hx.2 hy.2) ?_
  intro p hp q hq hne B s' a' va ub t r' G' _ hf' hp' hq'
  exact order2 G' r' hf' hp' hq' (hx.1 p hp) (hy.1 q hq)
end
end Mine
end

/-! text A1 -/
section
open PySem PySem.W PyProof.Rows
set_option Elab.async false
set_option maxRecDepth 100000
namespace Mine

def rN : Rel Nat where
  r := fun _ _ v x => ∃ t, v = .int (x : Int) t
  stabU := fun x _ => x

def alk (here there : List (List Nat)) (k : Nat) : Bool :=
  !(there.any fun y => c0 y (here.getD k []) == .eq) && (k == 0 || c0 (here.getD (k - 1) []) (here.getD k []) != .eq || c0 (here.getD k []) (there.getLastD []) == .gt)
def alone (here there : List (List Nat)) : List (List Nat) := ((List.range here.length).filter (alk here there)).map fun k => here.getD k []

section
variable {prog : Program} {w : World} {A : Around} {s : Shared} {env : Env} {E : Value → Shared → Prop}

theorem ldc {x : Str} {pos : Pos} {c : Addr} {v : Value} {Q : Value → Shared → Prop} (hc : env.cells.lookup x = some c) (hv : s.heap.IsCell c (some v)) (h : Q v s)
    (hk : env.scope.kind = .function := by rfl) (hl : env.kindOf x = some .cell := by rfl) (hd : (x == ("__debug__" : Str)) = false := by decide) :
    wpAny (model prog w) A (eval (.Name x pos) env) Q E s := wpAny_Name (wpAny_loadName_cell hk hl hc hv h) hd

/-- a call of the program's k-th def, with cells -/
theorem callFC {k : Nat} {a : Addr} {args : List Value} {binds : List (Str × Value)} {P : Value → Shared → Prop} (hroom : A.depth < recursionLimit) (hf : isFun s.heap k a) (hlim : s.heap.NoLimit)
    (hbind : ∀ pm cd doc, bindArgs (Calls.docDef (fR k).name (fR k).params (fR k).body (fR k).scope pm cd doc) ⟨args, []⟩ = pure binds)
    (hkind : ∀ x ∈ binds, (fR k).scope.names.lookup x.1 = some .local ∨ ((fR k).scope.names.lookup x.1 = some .cell ∧ ((cellsFrom (s.heap.objs.size + 1) (fR k).scope.names []).lookup x.1).isSome = true))
    (h : ∀ h₁ cd tk, Fr s.heap s.heap.objs.size h₁ (bindL (envOfC (fR k).name (fR k).scope s.heap.objs.size a cd).kindOf binds fun _ => none) →
      Cl s.heap.objs.size (cellsFrom (s.heap.objs.size + 1) (fR k).scope.names []) h₁ (bindC (envOfC (fR k).name (fR k).scope s.heap.objs.size a cd).kindOf binds fun _ => none) →
      wpAny (model prog w) (A.deeper (envOfC (fR k).name (fR k).scope s.heap.objs.size a cd)) (execs (fR k).body (envOfC (fR k).name (fR k).scope s.heap.objs.size a cd))
        (fun f s' => Keeps s s' ∧ P (match f with | .ret v => v | _ => .none) s') (fun _ _ => False)
        { s with heap := h₁, toks := tk })
    (hco : (fR k).scope.isCoroutine = false) (hgen : (fR k).scope.isGenerator = false) (hk : (fR k).scope.kind = .function) : Ev prog w A (call (.ref a) args) s P := by
  obtain ⟨o, pm, code, doc, ho, hd, hcd⟩ := hf
  intro E
  exact wpAny_call (call_cells_ret hroom ho hd hlim hcd (hbind pm code doc) hkind (fun h₁ tk F X => h h₁ code tk F X) hco hgen hk)

/-- range(e) -/
theorem rangeN {e : Expr} {np pos : Pos} {mg mb : Str → Option Value} {Q : Value → Shared → Prop} (G : Gl mg mb s.heap)
    (h : wpAny (model prog w) A (eval e env) (fun v s₁ => wpAny (model prog w) A (call (.type "range") [v]) Q E s₁) E s)
    (hk : env.scope.kind = .function := by rfl) (hg : env.globals = mainGlobals := by rfl) (hb : env.builtins = builtinsNs := by rfl) (hl : env.kindOf "range" = some .globalImplicit := by rfl) (he : starEach [e] env = [(false, eval e env)] := by rfl) :
    wpAny (model prog w) A (eval (.Call (.Name "range" np) [e] [] pos) env) Q E s := by
  refine wpAny_Call_NameR (nameB (x := "range") (v := .type "range") G (by simp) (by kernel_rfl) ?_ (by decide) hk hg hb hl)
  refine PyProof.Rows.callWith_type1 ?_ (by rw [he]; rfl) rfl
  rw [he]
  exact Calls.spliced_cons (wpAny_mono h (fun v s₁ h₁ => Calls.spliced_nil h₁) fun _ _ x => x)

/-- the source range(n) -/
theorem srcRange {n : Nat} {t : Tok} {Q : Value → Shared → Prop} (hh : A.handled = none) (hn : n ≤ 1000000)
    (h : ∀ h' tk r, Ext s.heap h' → Src prog w A (.ref r) { s with heap := h', toks := tk } (List.range n).length (fun i v => ∀ hi : i < (List.range n).length, rN.r Any h' v (List.range n)[i]) → Q (.ref r) { s with heap := h', toks := tk }) :
    wpAny (model prog w) A (call (.type "range") [.int (n : Int) t]) Q E s := by
  refine call_range_1 (h _ _ _ (push_ext _ _) ⟨[], ?_⟩)
  have hr : IsRange (s.heap.push { cls := .type "range", data := .fields #[.int 0 s.toks, .int (n : Int) t, .int 1 (s.toks + 1)] }) s.heap.objs.size 0 (0 + (n : Int)) 1 s.toks t (s.toks + 1) := by
    have := IsRange.new s.heap 0 n 1 s.toks t (s.toks + 1)
    rwa [Int.zero_add]
  have S := SrcF.ofRange (prog := prog) (w := w) (s := { s with heap := s.heap.push { cls := .type "range", data := .fields #[.int 0 s.toks, .int (n : Int) t, .int 1 (s.toks + 1)] }, toks := s.toks + 1 + 1 }) hh hr (small_one (by omega) (by omega) (by omega) (by omega))
  exact SrcF.cast List.length_range.symm (S.imp fun i v hi ⟨t, e⟩ hi' => ⟨t, by rw [e]; simp⟩)

/-- o[i] of a list, whatever stands in the brackets -/
theorem itemL {l : Addr} {items : Array Value} {k : Nat} {t : Tok} {Q : Value → Shared → Prop} (hl : s.heap.IsList l items) (hk : k < items.size) (hb : items.size ≤ 1000000) (h : Q items[k] s) : ItemOn (model prog w) A E (.ref l) (.int (k : Int) t) Q s :=
  ⟨"list", _, slot_list_getitem.lookup, hl.typeIs, wpAny_getItem_list hl (by omega) (by omega) (by simp [hk]) h⟩
theorem itemLast {l : Addr} {items : Array Value} {t : Tok} {Q : Value → Shared → Prop} (hl : s.heap.IsList l items) (hk : 0 < items.size) (hb : items.size ≤ 1000000) (h : Q (items[items.size - 1]'(by omega)) s) : ItemOn (model prog w) A E (.ref l) (.int (-1) t) Q s := by
  refine ⟨"list", _, slot_list_getitem.lookup, hl.typeIs, wpAny_getItem_list_neg hl (by omega) (by omega) (by omega) ?_ h⟩
  have : ((-1 : Int) + items.size).toNat = items.size - 1 := by omega
  rw [this]
  exact Array.getElem?_eq_getElem _

theorem notIn_texts {X : Addr → Prop} {v : Value} {ys : List (List Nat)} {x : List Nat} {t : Tok} {Q : Value → Shared → Prop} (hu : A.units + 1 < cLine) (hv : (rL rS).r X s.heap v ys) (h : Q (.bool (!(ys.any fun y => c0 y x == .eq))) s) :
    wpAny (model prog w) A (compareOp .NotIn (.str (mkS x) t) v) Q E s := by
  obtain ⟨l, items, rfl, _, hl, hp⟩ := hv
  have sa : ∀ (vs : List Value) (ys : List (List Nat)), Paired (rS.r X s.heap) vs ys → (vs.any fun v => match v with | .str z _ => c0 z.cps.toList x == .eq | _ => false) = ys.any fun y => c0 y x == .eq := by
    intro vs ys hp
    induction hp with
    | nil => rfl
    | cons a _ ih => obtain ⟨t, rfl⟩ := a; simp [ih]
  have mem : ∀ (vs : List Value) (ys : List (List Nat)), Paired (rS.r X s.heap) vs ys → ∀ v ∈ vs, ∃ y t, v = .str (mkS y) t := by
    intro vs ys hp
    induction hp with
    | nil => simp
    | cons a _ ih =>
      intro v hv
      rcases List.mem_cons.mp hv with rfl | hv
      · obtain ⟨t, rfl⟩ := a; exact ⟨_, _, rfl⟩
      · exact ih v hv
  refine SeqAt.notIn_listAt (fun v => match v with | .str z _ => c0 z.cps.toList x == .eq | _ => false) hl.isList (fun y hy => ?_) ?_
  · obtain ⟨y', t', rfl⟩ := mem _ _ hp y (by simpa using hy)
    exact (OA.str (n := 0) A.in1 hu).1
  · have e1 := sa _ _ hp
    rw [Array.any_toList] at e1
    rw [e1]; exact h
end
end Mine
end

/-! text A2 -/
section
open PySem PySem.W PyProof.Rows
set_option Elab.async false
set_option maxRecDepth 100000
namespace Mine
section
variable {prog : Program} {w : World} {A : Around} {s : Shared}

set_option maxHeartbeats 2000000 in
theorem con_alone {a : Addr} {mg mb : Str → Option Value} (G : Gl mg mb s.heap) (r : Rm 1 A) (hf : isFun s.heap 9 a) {X Y : Addr → Prop} {v u : Value} {xs ys : List (List Nat)} (hv : (rL rS).r X s.heap v xs) (hu : (rL rS).r Y s.heap u ys)
    (hlx : xs.length ≤ 400000) (hly : ys.length ≤ 400000) (hy0 : ys ≠ []) : Ev prog w A (call (.ref a) [v, u]) s (fun z s' => (rL rS).r (New s.heap) s'.heap z (alone xs ys)) := by
  refine callFC (k := 9) (binds := [("here", v), ("there", u)]) (by have := r.depth; omega) hf G.nolimit (fun _ _ _ => rfl) ?hk (fun h₁ cd tk F C => ?_) rfl rfl rfl
  case hk =>
    intro x hx
    simp only [List.mem_cons, List.not_mem_nil, or_false] at hx
    rcases hx with rfl | rfl
    · exact .inr ⟨rfl, rfl⟩
    · exact .inr ⟨rfl, rfl⟩
  have r' := r.deeper (envOfC (fR 9).name (fR 9).scope s.heap.objs.size a cd)
  have hh := r'.hh
  generalize A.deeper (envOfC (fR 9).name (fR 9).scope s.heap.objs.size a cd) = B at r' hh ⊢
  have hU : B.units + 1 < cLine := by have := r'.units; omega
  have ch : ∀ {h'}, Ext h₁ h' → h'.IsCell (s.heap.objs.size + 1) (some v) := fun e => (C.cell "here" _ rfl).keeps e
  have ct : ∀ {h'}, Ext h₁ h' → h'.IsCell (s.heap.objs.size + 1 + 1) (some u) := fun e => (C.cell "there" _ rfl).keeps e
  obtain ⟨l1, i1, rfl, hX, p1, q1⟩ := id hv
  obtain ⟨l2, i2, rfl, hY, p2, q2⟩ := id hu
  have s1 : i1.size = xs.length := by have := q1.length; simpa using this
  have s2 : i2.size = ys.length := by have := q2.length; simpa using this
  have hy1 : 0 < ys.length := List.length_pos_iff.mpr hy0
  have L1 : ∀ {h'}, Ext h₁ h' → h'.IsList l1 i1 := fun e => p1.isList.at fun o q => e _ _ (F.keep _ _ q)
  have L2 : ∀ {h'}, Ext h₁ h' → h'.IsList l2 i2 := fun e => p2.isList.at fun o q => e _ _ (F.keep _ _ q)
  have G₁ := G.keeps F.keep
  have at1 : ∀ k (hk : k < xs.length), ∃ t, i1[k]'(by omega) = .str (mkS (xs.getD k [])) t := fun k hk => by
    have := pget q1 k (by simp; omega) hk
    rw [Array.getElem_toList] at this
    rw [List.getD_eq_getElem?_getD, List.getElem?_eq_getElem hk]
    exact this
  refine wpAny_execs_cons (wpAny_Return_some ((comp_val (prog := prog) (w := w) (A := B) (RI := rN) (R := rS) (xs := List.range xs.length) (p := alk xs ys) (f := fun k => xs.getD k []) (cl := [("there", s.heap.objs.size + 1 + 1), ("here", s.heap.objs.size + 1)]) ?hclos (by decide) rfl (by decide) rfl ?hit ?ok (by rw [List.length_range, sizeLine_eq]; omega)).use fun z s' hk hz => ?_))
  case hclos => rfl
  case hit =>
    intro E
    refine rangeN G₁ (lenN G₁ (ldc rfl (ch (Ext.refl _)) (Calls.call_len_list (L1 (Ext.refl _)) (by omega) ?_)))
    rw [s1]
    exact srcRange hh (by omega) fun h' tk' rr e S => ⟨kOf e, S⟩
  case ok =>
    constructor
    · rintro k hk C' v' s₂ m₂ e₂ ⟨tk', rfl⟩ hn hm E
      have hkl : k < xs.length := List.mem_range.mp hk
      obtain ⟨t', ht'⟩ := at1 k hkl
      obtain ⟨tl, htl⟩ : ∃ t, i2[i2.size - 1]'(by omega) = .str (mkS (ys.getLastD [])) t := by
        have := pget q2 (ys.length - 1) (by simp; omega) (by omega)
        rw [Array.getElem_toList] at this
        obtain ⟨t, ht⟩ := this
        refine ⟨t, ?_⟩
        have e1 : ys.getLastD [] = ys[ys.length - 1]'(by omega) := by
          rw [List.getLastD_eq_getLast?, List.getLast?_eq_getElem?, List.getElem?_eq_getElem (by omega)]; rfl
        rw [e1, ← ht]
        congr 1; omega
      refine wpAny_tests_one (isTrue_and ?_)
      refine wpAny_isTrue_Compare1 (Subscript_Name (ldc rfl (ch e₂) (ldl hn hm (itemL (L1 e₂) (by omega) (by omega) (ldc rfl (ct e₂) ?_)))))
      rw [ht']
      refine notIn_texts hU ((rL rS).ext (X := Y) hu fun b o q => e₂ _ _ (F.keep _ _ q)) (wpAny_truthy_bool ?_)
      have hal : alk xs ys k = (!(ys.any fun y => c0 y (xs.getD k []) == .eq) && (k == 0 || c0 (xs.getD (k - 1) []) (xs.getD k []) != .eq || c0 (xs.getD k []) (ys.getLastD []) == .gt)) := rfl
      cases h1 : (!(ys.any fun y => c0 y (xs.getD k []) == .eq)) with
      | false =>
        rw [h1] at hal
        simp only [Bool.false_eq_true, if_false]
        exact ⟨kOf (Ext.refl _), by rw [hal]; rfl⟩
      | true =>
        rw [h1, Bool.true_and] at hal
        simp only [if_true]
        refine isTrue_and (isTrue_or (wpAny_isTrue_Compare1 (ldl hn hm (wpAny_Constant_int (PyProof.Rows.eq_int (wpAny_truthy_bool ?_))))))
        by_cases hk0 : k = 0
        · subst hk0
          rw [show (((0 : Nat) : Int) == 0) = true from rfl]
          simp only [if_true]
          exact isTrue_and_nil ⟨kOf (Ext.refl _), by rw [hal]; rfl⟩
        · rw [show ((k : Int) == 0) = false by simp; omega]
          simp only [Bool.false_eq_true, if_false]
          have hk' : (k == 0) = false := by simp [hk0]
          rw [hk', Bool.false_or] at hal
          obtain ⟨t'', ht''⟩ := at1 (k - 1) (by omega)
          refine isTrue_or (wpAny_isTrue_Compare1 (Subscript_BinOp (ldc rfl (ch e₂) (wpAny_BinOp (ldl hn hm (wpAny_Constant_int (PyProof.Rows.sub_int ?_)))))))
          rw [show ((k : Int) - 1) = ((k - 1 : Nat) : Int) by omega]
          refine itemL (L1 e₂) (by omega) (by omega) (Subscript_Name (ldc rfl (ch e₂) (ldl hn hm (itemL (L1 e₂) (by omega) (by omega) ?_))))
          rw [ht', ht'']
          refine (cmp_op ordS (by omega) (X := Any) (Y := Any) ⟨t'', rfl⟩ ⟨t', rfl⟩).2.2.2 (wpAny_truthy_bool ?_)
          cases h2 : (c0 (xs.getD (k - 1) []) (xs.getD k []) != .eq) with
          | true =>
            simp only [if_true]
            exact isTrue_and_nil ⟨kOf (Ext.refl _), by rw [hal, h2]; rfl⟩
          | false =>
            rw [h2, Bool.false_or] at hal
            simp only [Bool.false_eq_true, if_false]
            refine isTrue_or (wpAny_isTrue_Compare1 (Subscript_Name (ldc rfl (ch e₂) (ldl hn hm (itemL (L1 e₂) (by omega) (by omega) ?_)))))
            refine Subscript_UnaryOp (ldc rfl (ct e₂) (wpAny_UnaryOp (wpAny_Constant_int (neg_int (itemLast (L2 e₂) (by omega) (by omega) ?_)))))
            rw [ht', htl]
            refine (cmp_op ordS (by omega) (X := Any) (Y := Any) ⟨t', rfl⟩ ⟨tl, rfl⟩).1 (wpAny_truthy_bool ?_)
            cases h3 : (c0 (xs.getD k []) (ys.getLastD []) == .gt) with
            | true =>
              simp only [if_true]
              exact isTrue_and_nil ⟨kOf (Ext.refl _), by rw [hal, h3]⟩
            | false =>
              simp only [Bool.false_eq_true, if_false]
              refine isTrue_or_nil ?_
              simp only [Bool.false_eq_true, if_false]
              exact ⟨kOf (Ext.refl _), by rw [hal, h3]⟩
    · rintro k hk _ C' v' s₂ m₂ e₂ ⟨tk', rfl⟩ hn hm E
      have hkl : k < xs.length := List.mem_range.mp hk
      obtain ⟨t', ht'⟩ := at1 k hkl
      refine Subscript_Name (ldc rfl (ch e₂) (ldl hn hm (itemL (L1 e₂) (by omega) (by omega) ⟨kRefl _, t', ?_⟩)))
      exact ht'
  · exact ⟨kTrans (kOf F.keep) hk, (rL rS).older hz F.keep⟩
end
end Mine
end

/-! text T0 -/
section
open PySem PySem.W PyProof.Rows
set_option Elab.async false
set_option maxRecDepth 100000
namespace Mine

theorem pw {α : Type} {S : α → α → Prop} {ys : Array α} {z : α} (h : ys.toList.Pairwise S) (k : ∀ u ∈ ys.toList, S u z) : (ys.push z).toList.Pairwise S := by
  rw [Array.toList_push]
  exact List.pairwise_append.mpr ⟨h, by simp, fun a ha b hb => by rw [List.mem_singleton.mp hb]; exact k a ha⟩
theorem pmem {α β : Type} {F : α → β → Prop} : ∀ {l₁ : List α} {l₂ : List β}, Paired F l₁ l₂ → ∀ a ∈ l₁, ∃ b, F a b
  | _, _, .nil, _, h => by simp at h
  | _, _, .cons h t, a, ha => by
    rcases List.mem_cons.mp ha with rfl | ha
    · exact ⟨_, h⟩
    · exact pmem t a ha

section
variable {prog : Program} {w : World} {A : Around} {s : Shared} {env : Env} {β γ : Type}

theorem comp_blockS {elt iter : Expr} {x : Str} {px : Pos} {ifs : List Expr} {scope : Scope} {cl : List (Str × Addr)} {pos : Pos} {s₂ : Shared} {I : Addr} {fp : List Addr} {P : Nat → Value → Prop} {St : Nat → Heap → Prop} {h₁ : Heap} {E : Value → Shared → Prop}
    {RI : Rel β} {R : Rel γ} {xs : List β} {p : β → Bool} {f : β → γ}
    (W : Walks prog w A I fp [I] xs.length P St) (hsz : xs.length ≤ sizeLine) {RR : Value → Addr → Result → Shared → Prop} (hlive : ∀ i h, St i h → ∃ o, h.get? I = some o)
    (hcell : ∀ y ∈ scope.names, y.2 ≠ .cell) (hkind : scope.kind = .function) (hx : scope.names.lookup x = some .local) (hst : St 0 s₂.heap) (hfp : ∀ b ∈ fp, b < s₂.heap.objs.size)
    (e12 : Ext h₁ s₂.heap) (hI : h₁.get? I = none) (hP : ∀ i v, P i v → ∀ hi : i < xs.length, RI.r Any h₁ v xs[i])
    (ok : CompOk prog w A env scope cl x ifs elt RI R xs p f h₁)
    {Sep : Value → Value → Prop} (hsep : ∀ {X : Addr → Prop} {h h' : Heap} {u v : Value} {x y : γ}, R.r X h u x → R.r (New h) h' v y → Sep u v)
    (hRR : ∀ D C h' tk m', h₁.get? D = none → h₁.get? C = none → D ≠ C → h'.Ns C m' → (∃ items, PlainL h' D items ∧ Paired (R.r (fun a => h₁.get? a = none ∧ a ≠ C) h') items.toList ((xs.filter p).map f) ∧ items.toList.Pairwise Sep) → Ext h₁ h' → RR (.ref D) C (.ok .next) { s₂ with heap := h', toks := tk }) :
    wpAny (model prog w) A (newList []) (fun acc s₃ => wpAny (model prog w) A (newFunctionEnv scope env.globals cl [] env.qual none .none (some env)) (fun cenv s₄ =>
      codeAny (model prog w) A (.compStart (.ListComp elt [⟨.Name x px, iter, ifs, 0⟩] scope pos) 0 (.ref I) acc { cenv with scope := relabel scope env }) (RR acc cenv.locals) s₄) E s₃) E s₂ := by
  refine wpAny_newObj_type (wpAny_newFunctionEnv hcell (by intro y hy; simp at hy) (fun h₃ hns₁ hsb₁ => ?_) hkind)
  dsimp only at hns₁ hsb₁ ⊢
  generalize hH2 : s₂.heap.push { cls := .type "list", dict := none, data := .seq ([] : List Value).toArray } = H2 at hns₁ hsb₁ ⊢
  generalize hDv : s₂.heap.objs.size = D at *
  have hCs : H2.objs.size = D + 1 := by rw [← hH2, Heap.size_push, hDv]
  generalize hCv : H2.objs.size = C at *
  have hDC : D ≠ C := by omega
  have hIo : ∃ o, s₂.heap.get? I = some o := hlive _ _ hst
  have hIlt : @LT.lt Nat instLTNat I D := by obtain ⟨o, e⟩ := hIo; have := ltSz e; omega
  have below : ∀ b : Nat, b < D → b ≠ C ∧ b ≠ D := fun b hb => ⟨by omega, by omega⟩
  have hDf : D ∉ fp := fun hm => by have h : @LT.lt Nat instLTNat D s₂.heap.objs.size := hDv ▸ hfp _ hm; omega
  have hCf : C ∉ fp := fun hm => by have h : @LT.lt Nat instLTNat C s₂.heap.objs.size := hDv ▸ hfp _ hm; omega
  have old : ∀ b o, s₂.heap.get? b = some o → h₃.get? b = some o := fun b o e =>
    hsb₁.extBut b o (below b (by have := ltSz e; omega)).1 (Heap.get?_push_of_some _ (hH2 ▸ Heap.get?_push_of_some _ e))
  have hD1 : h₁.get? D = none := by
    cases e : h₁.get? D with
    | none => rfl
    | some o => have := ltSz (e12 _ _ e); omega
  have hC1 : h₁.get? C = none := by
    cases e : h₁.get? C with
    | none => rfl
    | some o => have := ltSz (e12 _ _ e); omega
  have hDo : H2.get? D = some { cls := .type "list", dict := none, data := .seq ([] : List Value).toArray } := by rw [← hH2, ← hDv]; exact Heap.get?_push_size _ rfl
  have hacc : PlainL h₃ D #[] := ⟨_, _, hsb₁.extBut _ _ hDC (Heap.get?_push_of_some _ hDo), rfl, rfl, rfl⟩
  have hst₁ : St 0 h₃ := W.frame _ _ _ hst fun b _ o e => old b o e
  have notW : ∀ b o, h₁.get? b = some o → b ≠ I ∧ b ≠ C ∧ b ≠ D := fun b o e =>
    ⟨(fun q => by rw [q, hI] at e; cases e), (fun q => by rw [q, hC1] at e; cases e), (fun q => by rw [q, hD1] at e; cases e)⟩
  have loop : ∀ s₃ : Shared, s₃ = { s₂ with heap := h₃, toks := s₂.toks + ([] : List (Str × Value)).length } →
      codeAny (model prog w) A (.compLoop (.ListComp elt [⟨.Name x px, iter, ifs, 0⟩] scope pos) 0 (.ref I) (.ref D) (compEnvC scope cl C env)) (RR (.ref D) C) s₃ := by
    rintro s₃ rfl
    refine codeAny_compLoop_tests
      (fun k s' => ∃ h' tk m' ys i, s' = { s₂ with heap := h', toks := tk } ∧ i ≤ xs.length ∧ k = xs.length + 1 - i ∧ St i h' ∧ PlainL h' D ys ∧ h'.Ns C m' ∧
        Paired (R.r (fun a => h₁.get? a = none ∧ a ≠ C ∧ a ≠ D ∧ a ≠ I) h') ys.toList (((xs.take i).filter p).map f) ∧ Ext h₁ h' ∧ ys.toList.Pairwise Sep) ?_ (xs.length + 1)
      ⟨h₃, _, _, #[], 0, rfl, Nat.zero_le _, rfl, hst₁, hacc, hns₁, by simpa using Paired.nil, e12.trans old, by simp⟩
    rintro k s' ⟨H, tk, m', ys, i, rfl, hi, rfl, hst', hacc', hn', hF, hk, hSp⟩
    have hIC : I ≠ C := neN (by omega)
    by_cases hlt : i < xs.length
    · refine W.item i _ _ _ hlt hst' fun v H1 tk₁ hPv hst₁' hk₁ => ?_
      refine wpAny_assign_Name (wpAny_storeName_local (env := compEnvC scope cl C env) (lookup_relabel_local hx) (hn'.at' fun o e => hk₁ _ o (by simpa using Ne.symm hIC) e) (fun H2' hn₂ hs₂ => ?_) (by simp [compEnvC, relabel, hkind]))
      have hn₂ : H2'.Ns C _ := hn₂
      have hs₂ : Heap.SameBut C H1 H2' := hs₂
      have up₂ : ∀ b o, b ≠ C → b ≠ I → H.get? b = some o → H2'.get? b = some o := fun b o hbC hbI e => hs₂.extBut b o hbC (hk₁ b o (by simpa using hbI) e)
      have hst₂ : St (i + 1) H2' := W.frame _ _ _ hst₁' fun b hb o e => hs₂.extBut b o (fun h => hCf (h ▸ hb)) e
      have hk₂ : Ext h₁ H2' := fun b o e => up₂ b o (notW b o e).2.1 (notW b o e).1 (hk b o e)
      have hv₂ : RI.r Any H2' v xs[i] := RI.ext (hP i v hPv hlt) hk₂
      refine (ok.tests xs[i] (List.getElem_mem hlt) C v { s₂ with heap := H2', toks := tk₁ + 1 } _ hk₂ hv₂ hn₂ (by simp)).use fun okb s₃ hK hb => ?_
      obtain ⟨h₃', tk₃, rfl, hk₃⟩ := hK
      have hk₃ : Ext H2' h₃' := hk₃
      have hst₃ : St (i + 1) h₃' := W.frame _ _ _ hst₂ fun b _ o e => hk₃ b o e
      have hacc₃ : PlainL h₃' D ys := PlainL.at hacc' fun o e => hk₃ _ o (up₂ D o hDC (neN (by omega)) e)
      have hn₃ := Heap.Ns.keeps hn₂ hk₃
      have hk₃' : Ext h₁ h₃' := hk₂.trans hk₃
      have hF₃ : Paired (R.r (fun a => h₁.get? a = none ∧ a ≠ C ∧ a ≠ D ∧ a ≠ I) h₃') ys.toList (((xs.take i).filter p).map f) := Paired.mono (fun u z hz => R.stab hz fun b o hb e => ⟨hb, hk₃ b o (up₂ b o hb.2.1 hb.2.2.2 e)⟩) hF
      have htake : (xs.take (i + 1)).filter p = (xs.take i).filter p ++ (if p xs[i] then [xs[i]] else []) := take_succ_filter p _ i xs[i] (List.getElem?_eq_getElem hlt)
      subst hb
      cases hpv : p xs[i] with
      | false =>
        simp only [Bool.false_eq_true, if_false]
        refine ⟨xs.length + 1 - (i + 1), by omega, h₃', tk₃, _, ys, i + 1, rfl, hlt, rfl, hst₃, hacc₃, hn₃, ?_, hk₃', hSp⟩
        rw [htake, hpv]; simpa using hF₃
      | true =>
        simp only [if_true]
        refine (ok.elt xs[i] (List.getElem_mem hlt) hpv C v { s₂ with heap := h₃', toks := tk₃ } _ hk₃' (RI.ext hv₂ hk₃) hn₃ (by simp)).use fun z s₄ hK hz => ?_
        obtain ⟨h₄, tk₄, rfl, hk₄⟩ := hK
        have hk₄ : Ext h₃' h₄ := hk₄
        have hz : R.r (New h₃') h₄ z (f xs[i]) := hz
        have hys : ys.size ≤ sizeLine := by
          have e1 := hF.length
          have e2 : ((xs.take i).filter p).length ≤ (xs.take i).length := List.length_filter_le _ _
          have e3 : (xs.take i).length ≤ xs.length := by rw [List.length_take]; omega
          have e4 : ys.toList.length = ys.size := by simp
          rw [List.length_map] at e1
          omega
        refine list_append_plainL (hsz := hys) (PlainL.at hacc₃ fun o e => hk₄ _ o e) fun h₅ hl₅ hs₅ => ?_
        have hk₅ : ∀ b o, b ≠ D → h₄.get? b = some o → h₅.get? b = some o := fun b o hb e => hs₅.extBut b o hb e
        refine ⟨xs.length + 1 - (i + 1), by omega, h₅, tk₄, _, ys.push z, i + 1, rfl, hlt, rfl, ?_, hl₅, (Heap.Ns.keeps hn₃ hk₄).sameBut hs₅ (Ne.symm hDC), ?_, fun b o e => hk₅ b o (notW b o e).2.2 (hk₄ b o (hk₃' b o e)), pw hSp fun u hu => by obtain ⟨y, hy⟩ := pmem hF₃ u hu; exact hsep hy hz⟩
        · exact W.frame _ _ h₅ hst₃ fun b hb o e => hk₅ b o (fun h => hDf (h ▸ hb)) (hk₄ b o e)
        · rw [htake, hpv]
          simp only [if_true, List.map_append, List.map_cons, List.map_nil, Array.toList_push]
          refine papp (Paired.mono (fun u z hz => R.stab hz fun b o hb e => ⟨hb, hk₅ b o hb.2.2.1 (hk₄ b o e)⟩) hF₃) (.cons (R.stab hz fun b o hb e => ⟨⟨?_, ?_, ?_, ?_⟩, hk₅ b o ?_ e⟩) .nil)
          · have hb' : h₃'.get? b = none := hb
            cases q : h₁.get? b with
            | none => rfl
            | some o' => rw [hk₃' _ _ q] at hb'; cases hb'
          · rintro rfl; obtain ⟨o', _, _, ho', _⟩ := hn₃; have hb' : h₃'.get? b = none := hb; rw [hb'] at ho'; cases ho'
          · rintro rfl; obtain ⟨o', _, ho', _⟩ := hacc₃; have hb' : h₃'.get? b = none := hb; rw [hb'] at ho'; cases ho'
          · rintro rfl; obtain ⟨o', ho'⟩ := hlive _ _ hst₃; have hb' : h₃'.get? b = none := hb; rw [hb'] at ho'; cases ho'
          · rintro rfl; obtain ⟨o', _, ho', _⟩ := hacc₃; have hb' : h₃'.get? b = none := hb; rw [hb'] at ho'; cases ho'
    · have hin : i = xs.length := by omega
      subst hin
      refine W.done _ _ _ hst' fun H1 tk₁ hk₁ => ?_
      have hk₁' : ∀ b o, b ≠ I → H.get? b = some o → H1.get? b = some o := fun b o hb e => hk₁ b o (by simpa using hb) e
      refine hRR D C H1 tk₁ m' hD1 hC1 hDC (hn'.at' fun o e => hk₁' _ o (Ne.symm hIC) e) ⟨ys, (PlainL.at hacc' fun o e => (hk₁' _ o (neN (by omega)) e)), ?_, hSp⟩ fun b o e => hk₁' b o (notW b o e).1 (hk b o e)
      rw [List.take_length] at hF
      exact Paired.mono (fun u z hz => R.stab hz fun b o hb e => ⟨⟨hb.1, hb.2.1⟩, hk₁' b o hb.2.2.2 e⟩) hF
  exact codeAny_compStart_list (loop _ rfl) (W.self 0 _ _ _ hst₁ (loop _ rfl))

theorem comp_valS {elt iter : Expr} {x : Str} {px : Pos} {ifs : List Expr} {scope : Scope} {cl : List (Str × Addr)} {pos : Pos} {RI : Rel β} {R : Rel γ} {xs : List β} {p : β → Bool} {f : β → γ}
    {Sep : Value → Value → Prop} (hsep : ∀ {X : Addr → Prop} {h h' : Heap} {u v : Value} {x y : γ}, R.r X h u x → R.r (New h) h' v y → Sep u v)
    (hclos : closureFor scope env = pure cl) (hcell : ∀ y ∈ scope.names, y.2 ≠ .cell) (hkind : scope.kind = .function)
    (hnames : ∀ y ∈ scope.names, y.2 = .local → scope.names.lookup y.1 = some .local) (hx : scope.names.lookup x = some .local)
    (hit : Ev prog w A (eval iter env) s (fun xv s₁ => Src prog w A xv s₁ xs.length (fun i v => ∀ hi : i < xs.length, RI.r Any s₁.heap v xs[i])))
    (ok : CompOk prog w A env scope cl x ifs elt RI R xs p f s.heap) (hsz : xs.length ≤ sizeLine)
    (hs : ∀ x, foldedSetIterable iter env x = pure x := by intro _; rfl) :
    Ev prog w A (eval (.ListComp elt [⟨.Name x px, iter, ifs, 0⟩] scope pos) env) s (fun z s' => ∃ D items, z = .ref D ∧ s.heap.get? D = none ∧ PlainL s'.heap D items ∧ Paired (R.r (New s.heap) s'.heap) items.toList ((xs.filter p).map f) ∧ items.toList.Pairwise Sep) := by
  intro E
  rw [eval_ListComp]
  refine wpAny_comprehension_free (use := none) rfl hs hclos hkind hnames (hit.use fun xv s₁ hK S => ?_)
  obtain ⟨h₁, tk₁, rfl, e₁⟩ := hK
  have e₁ : Ext s.heap h₁ := e₁
  obtain ⟨src, S⟩ := S
  refine S _ _ fun I h₂ St fp e12 hI hfp _ W hlive hst => ?_
  have e12 : Ext h₁ h₂ := e12
  refine comp_blockS (s₂ := { s with heap := h₂, toks := tk₁ }) (h₁ := h₁) (Sep := Sep) (RR := fun acc C => compPost (model prog w) A E none _ acc C) W hsz hlive hcell hkind hx hst hfp e12 hI (fun i v h => h) (ok.up e₁) hsep ?_
  intro D C h' tk m' hD hC hDC hn hl he
  obtain ⟨items, hpl, hpd, hpw⟩ := hl
  have old : ∀ {b}, h₁.get? b = none → s.heap.get? b = none := fun {b} hb => by
    cases q : s.heap.get? b with
    | none => rfl
    | some o => rw [e₁ _ _ q] at hb; cases hb
  refine ⟨m', hn, fun h'' hs'' => ⟨kOf fun b o e => hs''.extBut b o ?_ (he b o (e₁ b o e)), D, items, rfl, old hD, PlainL.at hpl fun o q => hs''.extBut _ _ hDC q, Paired.mono (fun u z hz => R.stab hz fun b o hb e => ⟨old hb.1, hs''.extBut b o hb.2 e⟩) hpd, hpw⟩⟩
  rintro rfl
  rw [e₁ _ _ e] at hC; cases hC
end
end Mine
end

/-! text R1 -/
section
open PySem PySem.W PyProof.Rows
set_option Elab.async false
set_option maxRecDepth 100000
namespace Mine

/-- the last tree -/
def treeOf (is : List (List (List Nat))) (o : Option (List (List Nat))) : List (List (List Nat)) := is ++ o.toList

abbrev Fz (g : Heap) (L : Addr → Prop) (T K N : Addr) : Addr → Prop := fun b => g.get? b = none ∧ ¬ L b ∧ b ≠ T ∧ b ≠ K ∧ b ≠ N

structure TS (g : Heap) (L : Addr → Prop) (T K N : Addr) (h : Heap) (fv iv : Array Value) (fs : List (List (List (List Nat)))) (is : List (List (List Nat))) (o : Option (List (List Nat))) : Prop where
  tp : PlainL h T (fv.push (.ref K))
  fz : Paired ((rL (rL rS)).r (Fz g L T K N) h) fv.toList fs
  kp : PlainL h K (match o with | none => #[] | some _ => iv.push (.ref N))
  iz : Paired ((rL rS).r (Fz g L T K N) h) iv.toList is
  np : ∀ inn, o = some inn → ∃ tx, PlainL h N tx ∧ Paired (rS.r Any h) tx.toList inn
  e0 : o = none → is = []
  gT : g.get? T = none
  gK : g.get? K = none
  gN : g.get? N = none
  LT : ¬ L T
  LK : ¬ L K
  LN : ¬ L N
  TK : T ≠ K
  TN : T ≠ N
  KN : o ≠ none → K ≠ N

theorem rSany {X Y : Addr → Prop} {h h' : Heap} {v : Value} {x : List Nat} (a : rS.r X h v x) : rS.r Y h' v x := a
theorem rLS {X Y : Addr → Prop} {h h' : Heap} {v : Value} {x : List (List Nat)} (a : (rL rS).r X h v x) (k : ∀ b o, v = .ref b → X b → h.get? b = some o → Y b ∧ h'.get? b = some o) : (rL rS).r Y h' v x := by
  obtain ⟨b, its, rfl, hX, ⟨o, n, ho, hc, hd, hdat⟩, hp⟩ := a
  obtain ⟨hY, ho'⟩ := k b o rfl hX ho
  exact ⟨b, its, rfl, hY, ⟨o, n, ho', hc, hd, hdat⟩, Paired.mono (fun _ _ z => rSany z) hp⟩

theorem psplit {α β : Type} {F : α → β → Prop} : ∀ {l₁ : List α} {l₂ : List β} {m₁ : List α} {m₂ : List β}, l₁.length = l₂.length → Paired F (l₁ ++ m₁) (l₂ ++ m₂) → Paired F l₁ l₂ ∧ Paired F m₁ m₂
  | [], [], _, _, _, h => ⟨.nil, h⟩
  | [], _ :: _, _, _, e, _ => by simp at e
  | _ :: _, [], _, _, e, _ => by simp at e
  | _ :: _, _ :: _, _, _, e, .cons a t => let ⟨p, q⟩ := psplit (by simpa using e) t; ⟨.cons a p, q⟩
theorem pmapm {α β : Type} {F F' : α → β → Prop} : ∀ {l₁ : List α} {l₂ : List β}, Paired F l₁ l₂ → (∀ a b, a ∈ l₁ → F a b → F' a b) → Paired F' l₁ l₂
  | _, _, .nil, _ => .nil
  | _, _, .cons h t, k => .cons (k _ _ (by simp) h) (pmapm t fun a b ha => k a b (by simp [ha]))

namespace TS
variable {g : Heap} {L : Addr → Prop} {T K N : Addr} {h h' : Heap} {fv iv : Array Value} {fs : List (List (List (List Nat)))} {is : List (List (List Nat))} {o : Option (List (List Nat))}

theorem keep (S : TS g L T K N h fv iv fs is o) (e : ∀ b ob, ¬ L b → h.get? b = some ob → h'.get? b = some ob) : TS g L T K N h' fv iv fs is o :=
  { S with
    tp := PlainL.at S.tp fun ob q => e _ _ S.LT q
    kp := PlainL.at S.kp fun ob q => e _ _ S.LK q
    fz := Paired.mono (fun _ _ z => Rel.stab _ z fun b ob hb q => ⟨hb, e b ob hb.2.1 q⟩) S.fz
    iz := Paired.mono (fun _ _ z => Rel.stab _ z fun b ob hb q => ⟨hb, e b ob hb.2.1 q⟩) S.iz
    np := fun inn hi => let ⟨tx, a, b⟩ := S.np inn hi; ⟨tx, PlainL.at a fun ob q => e _ _ S.LN q, Paired.mono (fun _ _ z => rSany z) b⟩ }

theorem tree (S : TS g L T K N h fv iv fs is o) : (rL (rL rS)).r (fun b => g.get? b = none ∧ ¬ L b ∧ b ≠ T) h (.ref K) (treeOf is o) := by
  refine ⟨K, _, rfl, ⟨S.gK, S.LK, Ne.symm S.TK⟩, S.kp, ?_⟩
  cases o with
  | none =>
    rw [S.e0 rfl]; exact .nil
  | some inn =>
    obtain ⟨tx, a, b⟩ := S.np inn rfl
    rw [Array.toList_push]
    exact papp (Paired.mono (fun _ _ z => rLS z fun b ob _ hb q => ⟨⟨hb.1, hb.2.1, hb.2.2.1⟩, q⟩) S.iz) (.cons ⟨N, tx, rfl, ⟨S.gN, S.LN, Ne.symm S.TN⟩, a, Paired.mono (fun _ _ z => rSany z) b⟩ .nil)

theorem allp (S : TS g L T K N h fv iv fs is o) : Paired ((rL (rL rS)).r (fun b => g.get? b = none ∧ ¬ L b ∧ b ≠ T) h) (fv.push (.ref K)).toList (fs ++ [treeOf is o]) := by
  rw [Array.toList_push]
  exact papp (Paired.mono (fun _ _ z => Rel.stab _ z fun b ob hb q => ⟨⟨hb.1, hb.2.1, hb.2.2.1⟩, q⟩) S.fz) (.cons S.tree .nil)

theorem all (S : TS g L T K N h fv iv fs is o) : (rL (rL (rL rS))).r (fun b => g.get? b = none ∧ ¬ L b) h (.ref T) (fs ++ [treeOf is o]) :=
  ⟨T, _, rfl, ⟨S.gT, S.LT⟩, S.tp, Paired.mono (fun _ _ z => Rel.stab _ z fun b ob hb q => ⟨⟨hb.1, hb.2.1⟩, q⟩) S.allp⟩

/-- the last inner list is changed -/
theorem setN (S : TS g L T K N h fv iv fs is o) (hs : Heap.SameBut N h h') {inn inn' : List (List Nat)} (ho : o = some inn) {tx : Array Value} (ht : PlainL h' N tx) (hp : Paired (rS.r Any h') tx.toList inn') : TS g L T K N h' fv iv fs is (some inn') :=
  have hKN : K ≠ N := S.KN (by rw [ho]; simp)
  { S with
    tp := PlainL.at S.tp fun ob q => hs.extBut _ _ S.TN q
    kp := by have := S.kp; rw [ho] at this; exact PlainL.at this fun ob q => hs.extBut _ _ hKN q
    fz := Paired.mono (fun _ _ z => Rel.stab _ z fun b ob hb q => ⟨hb, hs.extBut b ob hb.2.2.2.2 q⟩) S.fz
    iz := Paired.mono (fun _ _ z => Rel.stab _ z fun b ob hb q => ⟨hb, hs.extBut b ob hb.2.2.2.2 q⟩) S.iz
    np := fun i hi => by cases hi; exact ⟨tx, ht, hp⟩
    e0 := by simp
    KN := fun _ => hKN }

/-- a new inner list behind the last tree's -/
theorem pushK (S : TS g L T K N h fv iv fs is o) {D : Addr} {h₂ : Heap} (hx : Ext h h₂) (hD : h.get? D = none) (hDL : ¬ L D) (hDg : g.get? D = none) (hl : PlainL h₂ D #[]) (hs : Heap.SameBut K h₂ h')
    (hk : PlainL h' K ((match o with | none => #[] | some _ => iv.push (.ref N)).push (.ref D))) :
    TS g L T K D h' fv (match o with | none => #[] | some _ => iv.push (.ref N)) fs (treeOf is o) (some []) := by
  have lv : ∀ {b : Addr} {ob : Obj}, h.get? b = some ob → b ≠ D := fun q e => by rw [e, hD] at q; cases q
  have hTD : T ≠ D := by obtain ⟨ob, _, q, _⟩ := S.tp; exact lv q
  have hKD : K ≠ D := by obtain ⟨ob, _, q, _⟩ := S.kp; exact lv q
  refine { S with
    tp := PlainL.at S.tp fun ob q => hs.extBut _ _ S.TK (hx _ _ q)
    fz := Paired.mono (fun _ _ z => Rel.stab _ z fun b ob hb q => ⟨⟨hb.1, hb.2.1, hb.2.2.1, hb.2.2.2.1, lv q⟩, hs.extBut b ob hb.2.2.2.1 (hx _ _ q)⟩) S.fz
    kp := hk
    iz := ?_
    np := fun i hi => by cases hi; exact ⟨#[], PlainL.at hl fun ob q => hs.extBut _ _ (Ne.symm hKD) q, .nil⟩
    e0 := by simp
    gN := hDg
    LN := hDL
    TN := hTD
    KN := fun _ => hKD }
  cases o with
  | none => rw [S.e0 rfl]; exact .nil
  | some inn =>
    obtain ⟨tx, a, b⟩ := S.np inn rfl
    have hKN : K ≠ N := S.KN (by simp)
    rw [Array.toList_push]
    refine papp (Paired.mono (fun _ _ z => rLS z fun b ob _ hb q => ⟨⟨hb.1, hb.2.1, hb.2.2.1, hb.2.2.2.1, lv q⟩, hs.extBut b ob hb.2.2.2.1 (hx _ _ q)⟩) S.iz) (.cons ?_ .nil)
    refine ⟨N, tx, rfl, ⟨S.gN, S.LN, Ne.symm S.TN, Ne.symm hKN, ?_⟩, PlainL.at a fun ob q => hs.extBut _ _ (Ne.symm hKN) (hx _ _ q), Paired.mono (fun _ _ z => rSany z) b⟩
    obtain ⟨ob, _, q, _⟩ := a
    exact lv q

/-- a new empty tree -/
theorem push0 (S : TS g L T K N h fv iv fs is o) {D : Addr} {h₂ : Heap} (hx : Ext h h₂) (hD : h.get? D = none) (hDL : ¬ L D) (hDg : g.get? D = none) (hl : PlainL h₂ D #[]) (hs : Heap.SameBut T h₂ h') (hk : PlainL h' T ((fv.push (.ref K)).push (.ref D))) :
    TS g L T D D h' (fv.push (.ref K)) #[] (fs ++ [treeOf is o]) [] none := by
  have lv : ∀ {b : Addr} {ob : Obj}, h.get? b = some ob → b ≠ D := fun q e => by rw [e, hD] at q; cases q
  have hTD : T ≠ D := by obtain ⟨ob, _, q, _⟩ := S.tp; exact lv q
  exact { tp := hk
          fz := Paired.mono (fun _ _ z => Rel.stab _ z fun b ob hb q => ⟨⟨hb.1, hb.2.1, hb.2.2, lv q, lv q⟩, hs.extBut b ob hb.2.2 (hx _ _ q)⟩) S.allp
          kp := PlainL.at hl fun ob q => hs.extBut _ _ (Ne.symm hTD) q
          iz := .nil
          np := by simp
          e0 := fun _ => rfl
          gT := S.gT, gK := hDg, gN := hDg, LT := S.LT, LK := hDL, LN := hDL, TK := hTD, TN := hTD, KN := by simp }

/-- a copy of the last tree -/
theorem push1 (S : TS g L T K N h fv iv fs is o) {D : Addr} {h₂ : Heap} {its : Array Value} (hx : Ext h h₂) (hD : h.get? D = none) (hg : ∀ b, h.get? b = none → g.get? b = none ∧ ¬ L b) (hl : PlainL h₂ D its)
    (hp : Paired ((rL rS).r (New h) h₂) its.toList (treeOf is o)) (hw : its.toList.Pairwise (· ≠ ·)) (hDn : ∀ b ∈ its.toList, b ≠ .ref D) (hs : Heap.SameBut T h₂ h') (hk : PlainL h' T ((fv.push (.ref K)).push (.ref D))) :
    ∃ N' iv', TS g L T D N' h' (fv.push (.ref K)) iv' (fs ++ [treeOf is o]) is o := by
  have lv : ∀ {b : Addr} {ob : Obj}, h.get? b = some ob → b ≠ D := fun q e => by rw [e, hD] at q; cases q
  have hTl : ∃ ob, h.get? T = some ob := by obtain ⟨ob, _, q, _⟩ := S.tp; exact ⟨ob, q⟩
  have nT : ∀ {b : Addr}, h.get? b = none → b ≠ T := fun {b} hb e => by obtain ⟨ob, q⟩ := hTl; rw [e, q] at hb; cases hb
  have hDL := (hg D hD).2
  cases o with
  | none =>
    have e0 := S.e0 rfl
    subst e0
    have : its = #[] := by
      cases hi : its.toList with
      | nil => exact Array.toList_inj.mp (by rw [hi])
      | cons a b => rw [hi] at hp; cases hp
    subst this
    exact ⟨D, #[], S.push0 hx hD hDL (hg D hD).1 hl hs hk⟩
  | some inn =>
    have hp' : Paired ((rL rS).r (New h) h₂) its.toList (is ++ [inn]) := hp
    have hlen : its.size = is.length + 1 := by have := hp'.length; simpa using this
    obtain ⟨iv', v, rfl⟩ : ∃ iv' v, its = Array.push iv' v := by
      have hne : its.toList ≠ [] := fun e => by
        have h1 : its.toList.length = 0 := by rw [e]; rfl
        have h2 : its.toList.length = its.size := by simp
        omega
      refine ⟨its.toList.dropLast.toArray, its.toList.getLast hne, Array.toList_inj.mp ?_⟩
      rw [Array.toList_push]
      exact (List.dropLast_concat_getLast hne).symm
    rw [Array.toList_push] at hp' hw hDn
    obtain ⟨q1, q2⟩ := psplit (by have := hlen; simp at this; simpa using this) hp'
    cases q2 with
    | cons ha hb =>
      obtain ⟨N', tx, rfl, hN', hplN, hpN⟩ := ha
      have hN0 : h.get? N' = none := hN'
      obtain ⟨w1, _, w3⟩ := List.pairwise_append.mp hw
      have hND : N' ≠ D := fun e => hDn (.ref N') (by simp) (by rw [e])
      refine ⟨N', iv', { tp := hk, fz := ?_, kp := PlainL.at hl fun ob q => hs.extBut _ _ (nT hD) q, iz := ?_, np := ?_, e0 := by simp, gT := S.gT, gK := (hg D hD).1, gN := (hg N' hN0).1, LT := S.LT, LK := hDL, LN := (hg N' hN0).2, TK := Ne.symm (nT hD), TN := Ne.symm (nT hN0), KN := fun _ => Ne.symm hND }⟩
      · refine Paired.mono (fun _ _ z => Rel.stab _ z fun b ob hb q => ⟨⟨hb.1, hb.2.1, hb.2.2, lv q, ?_⟩, hs.extBut b ob hb.2.2 (hx _ _ q)⟩) S.allp
        rintro rfl; rw [hN0] at q; cases q
      · refine pmapm q1 fun a b ha hab => rLS hab fun b' ob e hb q => ?_
        have hb0 : h.get? b' = none := hb
        refine ⟨⟨(hg b' hb0).1, (hg b' hb0).2, nT hb0, ?_, ?_⟩, hs.extBut _ _ (nT hb0) q⟩
        · rintro rfl; exact hDn a (by simp [ha]) e
        · rintro rfl; exact w3 a ha (.ref b') (by simp) e
      · intro i hi
        cases hi
        exact ⟨tx, PlainL.at hplN fun ob q => hs.extBut _ _ (nT hN0) q, Paired.mono (fun _ _ z => rSany z) hpN⟩
end TS
end Mine
end

/-! text R2 -/
section
open PySem PySem.W PyProof.Rows
set_option Elab.async false
set_option maxRecDepth 100000
namespace Mine
section
variable {prog : Program} {w : World} {A : Around} {s : Shared} {env : Env}

theorem for_src2 {x : Str} {px pos : Pos} {iter : Expr} {body : List Stmt} {n : Nat} {P : Nat → Value → Prop} {h₀ : Heap} {m : Str → Option Value} {Q : Flow → Shared → Prop} {E : Value → Shared → Prop}
    (C : List Addr → Heap → Prop) (J : Addr → List Addr → Nat → (Str → Option Value) → Heap → Prop)
    (F : Fr h₀ env.locals s.heap m) (hit : Ev prog w A (eval iter env) s (fun xv s₁ => ∃ src, SrcF prog w A xv s₁ n P src ∧ C src s₁.heap))
    (h0 : ∀ I src h₁ h₂, C src h₁ → Ext s.heap h₁ → Ext h₁ h₂ → h₁.get? I = none → s.heap.get? I = none → J I src 0 m h₂)
    (hJ : ∀ I src i m h h', J I src i m h → (∀ b o, b ≠ I → b ≠ env.locals → h.get? b = some o → h'.get? b = some o) → J I src i m h')
    (step : ∀ I src i v m₁ (s₁ : Shared), i < n → P i v → I ≠ env.locals → h₀.get? I = none → (∃ o, s₁.heap.get? I = some o) → J I src i m₁ s₁.heap → Fr h₀ env.locals s₁.heap (fun y => if y = x then some v else m₁ y) →
      (∃ h tk, s₁ = { s with heap := h, toks := tk }) →
      wpAny (model prog w) A (execs body env) (fun f s₂ => match f with
        | .brk => Q .next s₂
        | .ret v => Q (.ret v) s₂
        | _ => ∃ m₂, (∃ h tk, s₂ = { s₁ with heap := h, toks := tk }) ∧ Fr h₀ env.locals s₂.heap m₂ ∧ J I src (i + 1) m₂ s₂.heap ∧ (∀ b, b = I ∨ b ∈ src → ∀ o, s₁.heap.get? b = some o → s₂.heap.get? b = some o)) (fun _ _ => False) s₁)
    (fin : ∀ I src h' tk m', Fr h₀ env.locals h' m' → J I src n m' h' → Q .next { s with heap := h', toks := tk })
    (hsrcL : ∀ src h, C src h → Ext s.heap h → env.locals ∉ src)
    (hx : env.kindOf x = some .local := by rfl) (hp : (env.scope.kind == .class || (env.scope.kind == .module && env.locals != env.globals)) = false := by rfl)
    (hs : ∀ x, foldedSetIterable iter env x = pure x := by intro _; rfl) :
    wpAny (model prog w) A (exec (.For (.Name x px) iter body [] pos) env) Q E s := by
  refine wpAny_For (hit.use fun xv s₁ hK hS => ?_) hs
  obtain ⟨src, S, hC⟩ := hS
  obtain ⟨h₁, tk₁, rfl, e₁⟩ := hK
  have e₁ : Ext s.heap h₁ := e₁
  refine S _ _ fun I h₂ St fp e12 hI hfp hfs W hlive hst => ?_
  have e12 : Ext h₁ h₂ := e12
  have hI : h₁.get? I = none := hI
  have e2 : Ext s.heap h₂ := e₁.trans e12
  have hIs : s.heap.get? I = none := by
    cases q : s.heap.get? I with
    | none => rfl
    | some o => rw [e₁ _ _ q] at hI; cases hI
  have hI0 : h₀.get? I = none := by
    cases q : h₀.get? I with
    | none => rfl
    | some o => rw [F.keep _ _ q] at hIs; cases hIs
  have hIL : I ≠ env.locals := by
    rintro rfl
    obtain ⟨o, _, _, ho, _⟩ := F.ns
    rw [hIs] at ho; cases ho
  have hLf : env.locals ∉ fp := fun hm => by
    rcases hfs _ hm with q | q
    · exact hIL q.symm
    · exact hsrcL src _ hC e₁ q
  refine codeAny_forLoop
    (fun k s' => ∃ h' tk m' i, s' = { s with heap := h', toks := tk } ∧ i ≤ n ∧ k = n + 1 - i ∧ St i h' ∧ Fr h₀ env.locals h' m' ∧ J I src i m' h') ?_ (n + 1)
    ⟨h₂, tk₁, m, 0, rfl, Nat.zero_le _, rfl, hst, ⟨F.ns.keeps e2, fun b o e => e2 b o (F.keep b o e), F.above⟩, h0 I src h₁ h₂ hC e₁ e12 hI hIs⟩
  rintro k s' ⟨H, tk, m', i, rfl, hi, rfl, hst', F', hJ'⟩
  by_cases hlt : i < n
  · refine W.item i _ _ _ hlt hst' fun v H1 tk₁ hPv hst₁ hk₁ => ?_
    have hk₁ : ∀ b o, b ≠ I → H.get? b = some o → H1.get? b = some o := fun b o hb e => hk₁ b o (by simpa using hb) e
    refine wpAny_assign_Name (wpAny_storeName_local hx (F'.ns.at' fun o e => hk₁ _ o (Ne.symm hIL) e) (fun H2 hn₂ hs₂ => ?_) hp)
    have up : ∀ b o, b ≠ I → b ≠ env.locals → H.get? b = some o → H2.get? b = some o := fun b o hbI hbL e => hs₂.extBut b o hbL (hk₁ b o hbI e)
    have hst₂ : St (i + 1) H2 := W.frame _ _ _ hst₁ fun b hb o e => hs₂.extBut b o (fun q => hLf (q ▸ hb)) e
    have F₂ : Fr h₀ env.locals H2 (fun y => if y = x then some v else m' y) := ⟨hn₂, fun b o e => up b o (fun q => by rw [q, hI0] at e; cases e) (fun q => by
      have h1 := Heap.lt_size e; rw [q] at h1; exact absurd h1 (Nat.not_lt.mpr F.above)) (F'.keep b o e), F.above⟩
    refine wpAny_mono (step I src i v m' { s with heap := H2, toks := tk₁ + 1 } hlt hPv hIL hI0 (hlive _ _ hst₂) (hJ I src i m' H H2 hJ' up) F₂ ⟨H2, _, rfl⟩) (fun f s₃ h₃ => ?_) fun _ _ e => e.elim
    have go : (∃ m₂, (∃ h tk, s₃ = { ({ s with heap := H2, toks := tk₁ + 1 } : Shared) with heap := h, toks := tk }) ∧ Fr h₀ env.locals s₃.heap m₂ ∧ J I src (i + 1) m₂ s₃.heap ∧ (∀ b, b = I ∨ b ∈ src → ∀ o, H2.get? b = some o → s₃.heap.get? b = some o)) →
        ∃ m, m < n + 1 - i ∧ ∃ h' tk m' i, s₃ = { s with heap := h', toks := tk } ∧ i ≤ n ∧ m = n + 1 - i ∧ St i h' ∧ Fr h₀ env.locals h' m' ∧ J I src i m' h' := by
      rintro ⟨m₂, ⟨h, tk, rfl⟩, F₃, J₃, k₃⟩
      exact ⟨n + 1 - (i + 1), by omega, h, tk, m₂, i + 1, rfl, hlt, rfl, W.frame _ _ _ hst₂ fun b hb o e => k₃ b (hfs b hb) o e, F₃, J₃⟩
    cases f with
    | next => exact go h₃
    | cont => exact go h₃
    | brk => exact h₃
    | ret v => exact h₃
  · have hin : i = n := by omega
    subst hin
    refine W.done _ _ _ hst' fun H1 tk₁ hk₁ => ?_
    have hk₁ : ∀ b o, b ≠ I → H.get? b = some o → H1.get? b = some o := fun b o hb e => hk₁ b o (by simpa using hb) e
    refine wpAny_execs_nil ?_
    exact fin I src H1 tk₁ m' ⟨F'.ns.at' fun o e => hk₁ _ o (Ne.symm hIL) e, fun b o e => hk₁ b o (fun q => by rw [q, hI0] at e; cases e) (F'.keep b o e), F.above⟩ (hJ I src i m' H H1 hJ' fun b o hb _ e => hk₁ b o hb e)

variable {E : Value → Shared → Prop}
/-- x[-1] = v -/
theorem setLast {l : Addr} {items : Array Value} {t : Tok} {v : Value} {Q : Unit → Shared → Prop} (hl : PlainL s.heap l items) (h1 : 0 < items.size) (hb : items.size ≤ 1000000)
    (hQ : ∀ h', PlainL h' l (items.setIfInBounds (items.size - 1) v) → Heap.SameBut l s.heap h' → Q () { s with heap := h' }) :
    wpAny (model prog w) A (setItem (.ref l) (.int (-1) t) v) Q E s := by
  obtain ⟨o, ne, ho, hc, hdn, hd⟩ := id hl
  unfold setItem
  try with_reducible refine wpAny_holding ?_
  first | refine wpAny_bind (wpAny_pure ?_) | skip
  refine wpAny_bind (wpAny_sequenceKey hl.isList.typeIs (by decide) ?_)
  refine wpAny_bind (wpAny_callSpecial?_slot (name := Str.ofString "__setitem__") hl.isList.typeIs slot_list_setitem
    (wpAny_call_entry slot_list_setitem hl.isList.typeIs entry_list_setitem ?_ (args_list_setitem _ _ _)))
  show wpAny _ _ (Builtin.List.listSubscript? (.int (-1) t) >>= _) _ _ s
  refine wpAny_bind (wpAny_listSubscript_int (fitsIndex_neg (by decide) (by decide)) ?_)
  have hidx : seqIndex? (-1) items.size = some (items.size - 1) := by rw [seqIndex_neg (by decide) (by omega)]; congr 1; omega
  show wpAny _ _ ((Builtin.List.listItems (.ref l) >>= fun xs => pure ((seqIndex? (Int.negSucc 0) xs.size).bind fun i => xs[i]?.map (i, ·))) >>= _) _ _ s
  refine wpAny_bind (wpAny_bind ?_)
  show wpAny _ _ (seqItems? (.ref l) >>= _) _ _ s
  refine wpAny_bind (wpAny_seqItems ho hd (wpAny_pure (wpAny_pure ?_)))
  rw [show (Int.negSucc 0) = (-1 : Int) from rfl, hidx]
  have hx' : items[items.size - 1]? = some (items[items.size - 1]'(by omega)) := Array.getElem?_eq_getElem _
  simp only [Option.bind_some, hx', Option.map_some]
  show wpAny _ _ (setSeqItemAt l (items.size - 1) v >>= _) _ _ s
  obtain ⟨n', hd'⟩ := Obj.data_mapSeq hd (·.setIfInBounds (items.size - 1) v)
  have hfin : PlainL (s.heap.update l (Obj.mapSeq (·.setIfInBounds (items.size - 1) v))) l (items.setIfInBounds (items.size - 1) v) := by
    refine ⟨_, n', Heap.get?_update_self _ ho (Obj.isFreed_of_seq hd'), (Obj.cls_mapSeq ..).trans hc, ?_, hd'⟩
    obtain ⟨c, d, dt, sl⟩ := o
    subst hd
    exact hdn
  refine wpAny_bind (wpAny_setSeqItemAt ho hd ?_)
  first
    | exact wpAny_bind (wpAny_pure (wpAny_pure ⟨.none, rfl, wpAny_pure (hQ _ hfin (Heap.SameBut.update ..))⟩))
    | exact wpAny_pure ⟨.none, rfl, wpAny_pure (hQ _ hfin (Heap.SameBut.update ..))⟩
end
end Mine
end

/-! text R3 -/
section
open PySem PySem.W PyProof.Rows
set_option Elab.async false
set_option maxRecDepth 100000
namespace Mine

abbrev TSt := List (List (List (List Nat))) × List (List (List Nat)) × Option (List (List Nat))
def sgn (j : Nat) : Nat := if j = 0 then 92 else if j = 1 then 93 else if j = 2 then 97 else 98
def inn1 (k : Nat) (inn : List (List Nat)) : List (List Nat) := if k = 3 ∨ inn = [] then inn ++ [[]] else inn
def inn2 (k : Nat) (inn : List (List Nat)) : List (List Nat) := if 3 < k then inn.dropLast ++ [inn.getLastD [] ++ [sgn (k - 4)]] else inn
def tstep (σ : TSt) (k : Nat) : TSt :=
  if k = 0 then (σ.1 ++ [treeOf σ.2.1 σ.2.2], [], none)
  else if k = 1 then (σ.1 ++ [treeOf σ.2.1 σ.2.2], σ.2.1, σ.2.2)
  else if k = 2 then (σ.1, treeOf σ.2.1 σ.2.2, some [])
  else (σ.1, σ.2.1, some (inn2 k (inn1 k (σ.2.2.getD []))))
def tfold (ks : List Nat) : TSt := ks.foldl tstep ([], [], none)
def treesOf (ks : List Nat) : List (List (List (List Nat))) := (tfold ks).1 ++ [treeOf (tfold ks).2.1 (tfold ks).2.2]

abbrev okN (i : Nat) (inn : List (List Nat)) : Prop := inn.length ≤ i ∧ ∀ t ∈ inn, t.length ≤ i ∧ ∀ c ∈ t, Sg c
abbrev okB (i : Nat) (tr : List (List (List Nat))) : Prop := tr.length ≤ i ∧ ∀ inn ∈ tr, okN i inn
theorem okN.up {i : Nat} {inn : List (List Nat)} (h : okN i inn) : okN (i + 1) inn := ⟨by have := h.1; omega, fun t ht => ⟨by have := (h.2 t ht).1; omega, (h.2 t ht).2⟩⟩
theorem okB.up {i : Nat} {tr : List (List (List Nat))} (h : okB i tr) : okB (i + 1) tr := ⟨by have := h.1; omega, fun t ht => (h.2 t ht).up⟩
theorem sgn_ok (j : Nat) : Sg (sgn j) := by
  unfold sgn
  split
  · exact .inl rfl
  · split
    · exact .inr (.inl rfl)
    · split
      · exact .inr (.inr (.inl rfl))
      · exact .inr (.inr (.inr rfl))

/-- sizes and signs after i steps -/
structure Bnd (i : Nat) (σ : TSt) : Prop where
  f : σ.1.length ≤ i
  a : ∀ tr ∈ σ.1, okB i tr
  t : okB i (treeOf σ.2.1 σ.2.2)

theorem Bnd.n {i : Nat} {σ : TSt} (b : Bnd i σ) (inn : List (List Nat)) (h : σ.2.2 = some inn) : okN i inn := b.t.2 inn (by rw [treeOf, h]; simp)

theorem inn_ok {i k : Nat} {inn : List (List Nat)} (hin : okN i inn) : okN (i + 1) (inn2 k (inn1 k inn)) := by
  have h1 : (inn1 k inn).length ≤ i + 1 ∧ ∀ t ∈ inn1 k inn, t.length ≤ i ∧ ∀ c ∈ t, Sg c := by
    unfold inn1
    split
    · refine ⟨by simp; have := hin.1; omega, fun t ht => ?_⟩
      rcases List.mem_append.mp ht with h | h
      · exact hin.2 t h
      · simp at h; subst h; simp
    · exact ⟨by have := hin.1; omega, hin.2⟩
  have hne : inn1 k inn ≠ [] := by
    unfold inn1
    split
    · simp
    · rename_i h; intro e; exact h (.inr e)
  unfold inn2
  split
  · refine ⟨by simp; have := List.length_pos_iff.mpr hne; omega, fun t ht => ?_⟩
    rcases List.mem_append.mp ht with h | h
    · have := h1.2 t (List.dropLast_subset _ h); exact ⟨by omega, this.2⟩
    · rw [List.mem_singleton] at h; subst h
      have : ((inn1 k inn).getLastD []).length ≤ i ∧ ∀ c ∈ (inn1 k inn).getLastD [], Sg c := by
        rw [List.getLastD_eq_getLast?, List.getLast?_eq_some_getLast hne]
        exact h1.2 _ (List.getLast_mem hne)
      refine ⟨by rw [List.length_append]; simp only [List.length_singleton]; omega, fun c hc => ?_⟩
      rcases List.mem_append.mp hc with h | h
      · exact this.2 c h
      · rw [List.mem_singleton] at h; subst h; exact sgn_ok _
  · exact ⟨h1.1, fun t ht => ⟨by have := (h1.2 t ht).1; omega, (h1.2 t ht).2⟩⟩

theorem Bnd.step {i : Nat} {σ : TSt} {k : Nat} (b : Bnd i σ) : Bnd (i + 1) (tstep σ k) := by
  have hf := b.f
  have ht := b.t
  have ha := b.a
  have hbn := b.n
  obtain ⟨fs, is, o⟩ := σ
  simp only at hf ht ha hbn
  have hal : ∀ tr ∈ fs ++ [treeOf is o], okB (i + 1) tr := fun tr h => by
    rcases List.mem_append.mp h with h | h
    · exact (ha tr h).up
    · rw [List.mem_singleton] at h; subst h; exact ht.up
  unfold tstep
  split
  · exact ⟨by simp; omega, hal, by simp [treeOf, okB]⟩
  · split
    · exact ⟨by simp; omega, hal, ht.up⟩
    · split
      · refine ⟨by simp only; omega, fun tr h => (ha tr h).up, ?_⟩
        refine ⟨by have := ht.1; simp [treeOf] at this ⊢; omega, fun inn h => ?_⟩
        rcases List.mem_append.mp h with h | h
        · exact (ht.2 inn h).up
        · simp at h; subst h; simp [okN]
      · have hin : okN i (o.getD []) := by
          cases o with
          | none => simp [okN]
          | some inn => exact hbn inn rfl
        refine ⟨by simp only; omega, fun tr h => (ha tr h).up, ?_⟩
        refine ⟨?_, fun inn h => ?_⟩
        · have := ht.1
          simp only [treeOf, List.length_append, Option.toList_some, List.length_singleton] at this ⊢
          cases o <;> simp at this ⊢ <;> omega
        · rcases List.mem_append.mp h with h | h
          · exact (ht.2 inn (List.mem_append_left _ h)).up
          · simp at h; subst h; exact inn_ok hin
theorem Bnd.fold : ∀ (ks : List Nat), Bnd ks.length (tfold ks) := by
  intro ks
  have aux : ∀ n (ks : List Nat), ks.length = n → Bnd n (tfold ks) := by
    intro n
    induction n with
    | zero => intro ks h; have := List.length_eq_zero_iff.mp h; subst this; exact ⟨by simp [tfold], by simp [tfold], by simp [tfold, treeOf, okB]⟩
    | succ n ih =>
      intro ks h
      obtain ⟨ys, c, rfl⟩ : ∃ ys c, ks = ys ++ [c] := ⟨ks.dropLast, ks.getLast (by intro e; subst e; simp at h), (List.dropLast_concat_getLast _).symm⟩
      have : tfold (ys ++ [c]) = tstep (tfold ys) c := by simp [tfold]
      rw [this]
      exact (ih ys (by simpa using h)).step
  exact aux _ ks rfl
theorem tfold_take {ks : List Nat} {i : Nat} (h : i < ks.length) : tfold (ks.take (i + 1)) = tstep (tfold (ks.take i)) ks[i] := by
  unfold tfold; rw [List.take_succ_eq_append_getElem h, List.foldl_append]; rfl
end Mine
end

/-! text R4 -/
section
open PySem PySem.W PyProof.Rows
set_option Elab.async false
set_option maxRecDepth 100000
namespace Mine
section
variable {prog : Program} {w : World} {A : Around} {s : Shared}

theorem ints_paired {h : Heap} : ∀ {vs : List Value} {ns : List Int}, IntsAre vs ns → Paired (rI.r Any h) vs ns
  | _, _, .nil => .nil
  | _, _, .cons n t r => .cons ⟨t, rfl⟩ (ints_paired r)
theorem ptake {α β : Type} {F : α → β → Prop} : ∀ {l₁ : List α} {l₂ : List β}, Paired F l₁ l₂ → ∀ i, Paired F (l₁.take i) (l₂.take i)
  | _, _, _, 0 => .nil
  | _, _, .nil, _ + 1 => .nil
  | _, _, .cons a t, i + 1 => .cons a (ptake t i)

/-- the loop's state -/
def TJ (h₀ : Heap) (L T : Addr) (I : Addr) (src : List Addr) (ks : List Nat) (i : Nat) (m : Str → Option Value) (h : Heap) : Prop :=
  m "trees" = some (.ref T) ∧ (∀ b ∈ src, ∃ o, h.get? b = some o) ∧ I ∉ src ∧ L ∉ src ∧ (∀ b ∈ src, h₀.get? b = none) ∧ I ≠ L ∧
  ∃ K N fv iv, TS h₀ (fun b => b = L ∨ b = I ∨ b ∈ src) T K N h fv iv (tfold (ks.take i)).1 (tfold (ks.take i)).2.1 (tfold (ks.take i)).2.2

set_option maxHeartbeats 4000000 in
theorem con_trees {a : Addr} {mg mb : Str → Option Value} (G : Gl mg mb s.heap) (r : Rm 1 A) (hf : isFun s.heap 6 a) {l : Addr} {vs : List Value} {ns : List Int} (hl : s.heap.IsList l vs.toArray) (hi : IntsAre vs ns) (hn : ns.length ≤ 63) :
    Ev prog w A (call (.ref a) [.ref l]) s (fun z s' => (rL (rL (rL rS))).r (New s.heap) s'.heap z (treesOf (([5, 1, 4] ++ ns.take 9).map fun n : Int => (n.fmod 8).toNat))) := by
  refine callF (k := 6) (binds := [("script", .ref l)]) (by have := r.depth; omega) hf G.nolimit (fun _ _ _ => rfl) (locs rfl) (fun h₁ cd F => ?_) rfl rfl rfl (by decide)
  have r' := r.deeper (envOf (fR 6).name (fR 6).scope s.heap.objs.size a cd)
  have hh := r'.hh
  generalize A.deeper (envOf (fR 6).name (fR 6).scope s.heap.objs.size a cd) = B at r' hh ⊢
  have hU : B.units + 5 < cLine := by have := r'.units; omega
  generalize hks : (([5, 1, 4] ++ ns.take 9).map fun n : Int => (n.fmod 8).toNat) = ks
  have hlen : vs.length = ns.length := hi.length
  have hLlt := F.ns.lt
  -- trees = [[]]
  refine wpAny_execs_cons (wpAny_Assign_Name (wpAny_List (Calls.spliced_cons (wpAny_List (Calls.spliced_nil ⟨Nat.zero_le _, Calls.spliced_nil ⟨by rw [sizeLine_eq]; simp, ?_⟩⟩)))))
  dsimp only
  generalize hH2 : (h₁.push { cls := .type "list", data := .seq ([] : List Value).toArray }) = H2
  have hs2 : H2.objs.size = h₁.objs.size + 1 := by rw [← hH2, Heap.size_push]
  have hK2 : H2.get? h₁.objs.size = some { cls := .type "list", data := .seq ([] : List Value).toArray } := by rw [← hH2]; exact Heap.get?_push_size _ rfl
  have F2 : Fr s.heap s.heap.objs.size H2 _ := hH2 ▸ F.push _
  refine stK (s := { s with heap := H2.push _, toks := _ }) (F2.push _) (fun h₃ F₃ sb₃ => ?_)
  have hT0 : s.heap.get? H2.objs.size = none := Heap.get?_none_of_le (by have : @LT.lt Nat instLTNat s.heap.objs.size h₁.objs.size := hLlt; omega)
  have hK0 : s.heap.get? h₁.objs.size = none := Heap.get?_none_of_le (Nat.le_of_lt hLlt)
  have hTL : H2.objs.size ≠ s.heap.objs.size := neN (by have : @LT.lt Nat instLTNat s.heap.objs.size h₁.objs.size := hLlt; omega)
  have hKL : h₁.objs.size ≠ s.heap.objs.size := neN (by have : @LT.lt Nat instLTNat s.heap.objs.size h₁.objs.size := hLlt; omega)
  have hTK : H2.objs.size ≠ h₁.objs.size := neN (by omega)
  have pT : PlainL h₃ H2.objs.size (#[].push (.ref h₁.objs.size)) := ⟨_, _, sb₃.extBut _ _ hTL (Heap.get?_push_size _ rfl), rfl, rfl, rfl⟩
  have pK : PlainL h₃ h₁.objs.size #[] := ⟨_, _, sb₃.extBut _ _ hKL (push_ext _ _ _ _ hK2), rfl, rfl, rfl⟩
  generalize H2.objs.size = T at *
  generalize h₁.objs.size = K at *
  -- the loop
  refine wpAny_execs_cons (for_src2 (n := ks.length) (P := fun i v => ∃ n t, v = .int n t ∧ ∀ h : i < ks.length, (n.fmod 8).toNat = ks[i]) (fun src h => (∀ b ∈ src, (∃ o, h.get? b = some o) ∧ h₃.get? b = none)) (fun I src i m h => TJ s.heap s.heap.objs.size T I src ks i m h) F₃ ?hit ?h0 ?hJ ?step ?fin ?hsrcL)
  case hit =>
    intro E
    have hl₃ : h₃.IsList l vs.toArray := hl.at fun o e => F₃.keep _ _ e
    refine wpAny_BinOp (wpAny_List (Calls.spliced_cons (wpAny_Constant_int (k := 0) (pos := ⟨0, 0, 0, 0⟩) (Calls.spliced_cons (wpAny_Constant_int (k := 0) (pos := ⟨0, 0, 0, 0⟩) (Calls.spliced_cons (wpAny_Constant_int (k := 0) (pos := ⟨0, 0, 0, 0⟩) (Calls.spliced_nil ⟨by rw [sizeLine_eq]; simp, ?_⟩))))))))
    dsimp only
    generalize hH4 : h₃.push _ = H4
    have e4 : Ext h₃ H4 := hH4 ▸ push_ext _ _
    have hA : H4.get? h₃.objs.size = some _ := hH4 ▸ Heap.get?_push_size _ rfl
    have F4 := F₃.keeps e4
    refine wpAny_Subscript_list_slice (ldl F4.ns rfl (evalPart_none_step (evalPart_some_step (wpAny_Constant_int ⟨l, vs.toArray, none, some ((9 : Nat) : Int), rfl, hl₃.at fun o e => e4 _ _ e, by rw [sizeLine_eq]; simp; omega, .none, .int _ _, ?_⟩))))
    rw [slicePick_upto']
    dsimp only
    generalize hH5 : H4.push _ = H5
    have e5 : Ext H4 H5 := hH5 ▸ push_ext _ _
    have hs5 : H5.objs.size = H4.objs.size + 1 := by rw [← hH5, Heap.size_push]
    rw [← hs5]
    have hBl : (H5.push { cls := .type "list", data := .seq (vs.toArray.toList.take 9).toArray }).get? H5.objs.size = some { cls := .type "list", data := .seq (vs.toArray.toList.take 9).toArray } := Heap.get?_push_size _ rfl
    refine P.add_list (push_ext _ _ _ _ (e5 _ _ hA)) hBl ?_ (by rw [sizeLine_eq]; simp; omega)
    generalize hH6 : H5.push _ = H6
    have e6 : Ext H5 H6 := hH6 ▸ push_ext _ _
    have hp0 : Paired (rI.r Any s.heap) vs ns := ints_paired hi
    have lt9 : (vs.toArray.toList.take 9).length = (ns.take 9).length := by simp [hlen]
    have hks' : ks.length = 3 + (ns.take 9).length := by rw [← hks]; simp; omega
    dsimp only
    generalize hIt : ([Value.int 5 _, Value.int 1 _, Value.int 4 _].toArray ++ (vs.toArray.toList.take 9).toArray) = its
    have hpt : Paired (rI.r Any s.heap) its.toList ([5, 1, 4] ++ ns.take 9) := by
      rw [← hIt]
      rw [Array.toList_append]
      refine papp (F := rI.r Any s.heap) ?_ (by simpa using ptake hp0 9)
      exact (.cons ⟨_, rfl⟩ (.cons ⟨_, rfl⟩ (.cons ⟨_, rfl⟩ .nil)) : Paired (rI.r Any s.heap) [_, _, _] [5, 1, 4])
    have hsz : its.size = ks.length := by have := hpt.length; rw [← hks]; simpa using this
    have hLi : (H6.push { cls := .type "list", data := .seq its }).IsList H6.objs.size its := ⟨_, Heap.get?_push_size _ rfl, rfl, _, rfl⟩
    have eAll : Ext h₃ (H6.push { cls := .type "list", data := .seq its }) := fun b o q => push_ext _ _ _ _ (e6 _ _ (e5 _ _ (e4 _ _ q)))
    refine ⟨kOf eAll, [H6.objs.size], SrcF.cast hsz ((SrcF.ofList hh hLi).imp fun i v hi' hv' => ?_), ?_⟩
    · obtain ⟨g1, rfl⟩ := Array.getElem?_eq_some_iff.mp hv'
      have h2 : i < ([5, 1, 4] ++ ns.take 9).length := by rw [← hpt.length]; simpa using g1
      obtain ⟨tn, hn'⟩ := pget hpt i (by simpa using g1) h2
      rw [Array.getElem_toList] at hn'
      refine ⟨_, tn, hn', fun h => ?_⟩
      subst hks
      rw [List.getElem_map]
    · intro b hb
      rw [List.mem_singleton] at hb
      subst hb
      refine ⟨⟨_, Heap.get?_push_size _ rfl⟩, ?_⟩
      cases q : h₃.get? H6.objs.size with
      | none => rfl
      | some o => have := ltSz (e6 _ _ (e5 _ _ (e4 _ _ q))); omega
  case h0 =>
    rintro I src h₄ h₅ hC e₃ e₄ hI hI3
    have lv : ∀ {b : Addr} {ob : Obj}, h₃.get? b = some ob → b ≠ I ∧ b ∉ src := fun {b ob} q => ⟨(fun e => by have hI3 : h₃.get? I = none := hI3; rw [e, hI3] at q; cases q), (fun hm => by rw [(hC b hm).2] at q; cases q)⟩
    have hT3 : ∃ ob, h₃.get? T = some ob := by obtain ⟨ob, _, q, _⟩ := pT; exact ⟨ob, q⟩
    have hK3 : ∃ ob, h₃.get? K = some ob := by obtain ⟨ob, _, q, _⟩ := pK; exact ⟨ob, q⟩
    have bad : ∀ {b : Addr}, b ≠ s.heap.objs.size → (∃ ob, h₃.get? b = some ob) → ¬ (b = s.heap.objs.size ∨ b = I ∨ b ∈ src) := fun {b} h1 ⟨ob, q⟩ h2 => by
      rcases h2 with h2 | h2 | h2
      · exact h1 h2
      · exact (lv q).1 h2
      · exact (lv q).2 h2
    have e35 : Ext h₃ h₅ := fun b o q => e₄ _ _ (e₃ _ _ q)
    have hL3 : ∃ ob, h₃.get? s.heap.objs.size = some ob := by obtain ⟨ob, _, _, q, _⟩ := F₃.ns; exact ⟨ob, q⟩
    refine ⟨rfl, fun b hb => (hC b hb).1.imp fun o q => e₄ _ _ q, ?_, ?_, ?_, ?_, K, K, #[], #[], ?_⟩
    · intro hm
      obtain ⟨o, q⟩ := (hC I hm).1
      rw [hI] at q; cases q
    · obtain ⟨ob, q⟩ := hL3; exact (lv q).2
    · intro b hb
      cases q : s.heap.get? b with
      | none => rfl
      | some o => have q2 := (hC b hb).2; rw [F₃.keep _ _ q] at q2; cases q2
    · obtain ⟨ob, q⟩ := hL3; exact Ne.symm (lv q).1
    · exact { tp := PlainL.at pT fun o q => e35 _ _ q, fz := .nil, kp := PlainL.at pK fun o q => e35 _ _ q, iz := .nil, np := by simp [tfold], e0 := fun _ => rfl, gT := hT0, gK := hK0, gN := hK0, LT := bad hTL hT3, LK := bad hKL hK3, LN := bad hKL hK3, TK := hTK, TN := hTK, KN := by simp [tfold] }
  case hJ =>
    rintro I src i m h h' ⟨h1, h2, h3, h4, h5, h6, K', N', fv, iv, S⟩ k
    refine ⟨h1, fun b hb => (h2 b hb).imp fun o q => k b o (fun e => h3 (e ▸ hb)) (fun e => h4 (by have e : b = s.heap.objs.size := e; exact e ▸ hb)) q, h3, h4, h5, h6, K', N', fv, iv, S.keep fun b ob hb q => k b ob (fun e => hb (.inr (.inl e))) (fun e => hb (.inl e)) q⟩
  case step =>
    rintro I src i v m₁ s₁ hilt ⟨nx, tx, rfl, hkx⟩ hIL hI0 hIo ⟨h1, h2, h3, h4, h5, h6, K', N', fv, iv, S⟩ F₁ ⟨H, tk, rfl⟩
    have hk := hkx hilt
    have hB := Bnd.fold (ks.take i)
    have hks12 : ks.length ≤ 12 := by rw [← hks]; simp; omega
    have hi12 : (ks.take i).length ≤ 12 := by rw [List.length_take]; omega
    unfold TJ
    rw [tfold_take hilt]
    generalize ks[i] = k at hk
    generalize tfold (ks.take i) = σ at S hB
    obtain ⟨fs, is, o⟩ := σ
    have hB1 := hB.f
    have hB2 := hB.t.1
    have hB4 := hB.t.2
    have hB3 := hB.n
    simp only at hB1 hB2 hB3 hB4
    have S : TS s.heap (fun b => b = s.heap.objs.size ∨ b = I ∨ b ∈ src) T K' N' H fv iv fs is o := S
    have hk8 : nx.fmod 8 = (k : Int) := by have := Int.fmod_nonneg_of_pos nx (by decide : (0 : Int) < 8); omega
    have hk7 : k < 8 := by have := Int.fmod_lt_of_pos nx (by decide : (0 : Int) < 8); omega
    clear hk hkx
    have hszf : fv.size ≤ 13 := by have := S.fz.length; simp at this; omega
    have hszi : iv.size ≤ 13 := by have := S.iz.length; simp [treeOf] at this hB2; omega
    have F₁ : Fr s.heap s.heap.objs.size H (fun y => if y = Str.ofString "x" then some (.int nx tx) else m₁ y) := F₁
    -- k = x % 8
    refine wpAny_execs_cons (wpAny_Assign_Name (wpAny_BinOp (ldl F₁.ns rfl (wpAny_Constant_int (PyProof.Rows.mod_int (by decide) ?_)))))
    rw [hk8]
    refine stK (s := { s with heap := H, toks := _ }) F₁ fun h₄ F₄ sb₄ => ?_
    have hS : ∀ {h h' : Heap} {K N : Addr} {fv iv : Array Value} {fs : List (List (List (List Nat)))} {is : List (List (List Nat))} {o : Option (List (List Nat))}, TS s.heap (fun b => b = s.heap.objs.size ∨ b = I ∨ b ∈ src) T K N h fv iv fs is o → Heap.SameBut s.heap.objs.size h h' → TS s.heap (fun b => b = s.heap.objs.size ∨ b = I ∨ b ∈ src) T K N h' fv iv fs is o :=
      fun S sb => S.keep fun b ob hb q => sb.extBut b ob (fun e => hb (.inl e)) q
    have S₄ := hS S sb₄
    -- tree = trees[-1]
    refine wpAny_execs_cons (wpAny_Assign_Name (Subscript_UnaryOp (ldl F₄.ns h1 (wpAny_UnaryOp (wpAny_Constant_int (neg_int (itemLast S₄.tp.isList (by simp) (by simp; omega) ?_)))))))
    rw [show (fv.push (Value.ref K'))[(fv.push (Value.ref K')).size - 1]'(by simp) = Value.ref K' by simp]
    refine stK (s := { s with heap := h₄, toks := _ }) F₄ fun h₅ F₅ sb₅ => ?_
    have S₅ := hS S₄ sb₅
    have kp₅ : ∀ b ob, b = I ∨ b ∈ src → H.get? b = some ob → h₅.get? b = some ob := fun b ob hb q => by
      have hbL : b ≠ s.heap.objs.size := by
        rcases hb with rfl | hb
        · exact h6
        · exact fun e => h4 (e ▸ hb)
      exact sb₅.extBut b ob hbL (sb₄.extBut b ob hbL q)
    obtain ⟨oI, hoI⟩ := hIo
    have hoI : H.get? I = some oI := hoI
    have nB : ∀ {h : Heap} {D : Addr}, (∀ b ob, b = I ∨ b ∈ src → H.get? b = some ob → h.get? b = some ob) → (∃ m, Fr s.heap s.heap.objs.size h m) → h.get? D = none → ¬ (D = s.heap.objs.size ∨ D = I ∨ D ∈ src) := fun {h D} kp ⟨m, F⟩ hD e => by
      rcases e with rfl | rfl | e
      · obtain ⟨ob, _, _, q, _⟩ := F.ns; rw [hD] at q; cases q
      · have := kp _ _ (.inl rfl) hoI; rw [hD] at this; cases this
      · obtain ⟨ob, q⟩ := h2 D e; have := kp _ _ (.inr e) q; rw [hD] at this; cases this
    have gD : ∀ {h : Heap} {m : Str → Option Value} {D : Addr}, Fr s.heap s.heap.objs.size h m → h.get? D = none → s.heap.get? D = none := fun {h m D} F hD => by
      cases q : s.heap.get? D with
      | none => rfl
      | some ob => rw [F.keep _ _ q] at hD; cases hD
    have frC : ∀ {h h' : Heap} {m : Str → Option Value} {D : Addr}, Fr s.heap s.heap.objs.size h m → Heap.SameBut D h h' → s.heap.get? D = none → D ≠ s.heap.objs.size → Fr s.heap s.heap.objs.size h' m := fun {h h' m D} F sb hD hDL =>
      ⟨F.ns.sameBut sb (Ne.symm hDL), fun b ob q => sb.extBut b ob (fun e => by rw [e, hD] at q; cases q) (F.keep b ob q), F.above⟩
    have notS : ∀ {D b : Addr}, ¬ (D = s.heap.objs.size ∨ D = I ∨ D ∈ src) → (b = I ∨ b ∈ src) → b ≠ D := fun {D b} hD hb e => hD (.inr (e ▸ hb))
    have done : ∀ (h' : Heap) (tk' : Nat) (m₂ : Str → Option Value) (K N : Addr) (fv iv : Array Value), Fr s.heap s.heap.objs.size h' m₂ → m₂ "trees" = some (.ref T) → TS s.heap (fun b => b = s.heap.objs.size ∨ b = I ∨ b ∈ src) T K N h' fv iv (tstep (fs, is, o) k).1 (tstep (fs, is, o) k).2.1 (tstep (fs, is, o) k).2.2 →
        (∀ b ob, b = I ∨ b ∈ src → H.get? b = some ob → h'.get? b = some ob) → ∃ m₂, (∃ h tk₀, ({ s with heap := h', toks := tk' } : Shared) = { ({ s with heap := H, toks := tk } : Shared) with heap := h, toks := tk₀ }) ∧ Fr s.heap s.heap.objs.size h' m₂ ∧
          (m₂ "trees" = some (.ref T) ∧ (∀ b ∈ src, ∃ o, h'.get? b = some o) ∧ I ∉ src ∧ s.heap.objs.size ∉ src ∧ (∀ b ∈ src, s.heap.get? b = none) ∧ I ≠ s.heap.objs.size ∧ ∃ K N fv iv, TS s.heap (fun b => b = s.heap.objs.size ∨ b = I ∨ b ∈ src) T K N h' fv iv (tstep (fs, is, o) k).1 (tstep (fs, is, o) k).2.1 (tstep (fs, is, o) k).2.2) ∧ (∀ b, b = I ∨ b ∈ src → ∀ o, H.get? b = some o → h'.get? b = some o) :=
      fun h' tk' m₂ K N fv iv F' e' S' kp => ⟨m₂, ⟨h', tk', rfl⟩, F', ⟨e', fun b hb => (h2 b hb).imp fun ob q => kp b ob (.inr hb) q, h3, h4, h5, h6, K, N, fv, iv, S'⟩, fun b hb ob q => kp b ob hb q⟩
    refine genQ fun Q' hQ' => ?_
    have done := fun h' tk' m₂ K N fv iv a b c d => hQ' .next { s with heap := h', toks := tk' } (done h' tk' m₂ K N fv iv a b c d)
    clear hQ'
    refine wpAny_execs_cons (wpAny_If (wpAny_isTrue_Compare1 (ldl F₅.ns rfl (wpAny_Constant_int (PyProof.Rows.eq_int (wpAny_truthy_bool ?_))))))
    by_cases hk0 : k = 0
    · subst hk0
      rw [show (((0 : Nat) : Int) == 0) = true from rfl]
      simp only [if_true]
      refine wpAny_execs_cons (appS (ldl F₅.ns h1 ⟨T, _, rfl, S₅.tp, wpAny_List (Calls.spliced_nil ⟨Nat.zero_le _, PlainL.at S₅.tp fun o q => push_ext _ _ _ _ q, by rw [sizeLine_eq]; simp; omega, fun h₆ pl₆ sb₆ => ?_⟩)⟩))
      have hD := get_none_size h₅
      have S₆ := S₅.push0 (push_ext _ _) hD (nB kp₅ ⟨_, F₅⟩ hD) (gD F₅ hD) ⟨_, _, Heap.get?_push_size _ rfl, rfl, rfl, rfl⟩ sb₆ pl₆
      refine wpAny_execs_nil (wpAny_execs_nil ?_)
      exact done h₆ _ _ _ _ _ _ (frC (F₅.push _) sb₆ S.gT (fun e => S.LT (.inl e))) h1 S₆ fun b ob hb q => sb₆.extBut b ob (notS S.LT hb) (push_ext _ _ _ _ (kp₅ b ob hb q))
    rw [show ((k : Int) == 0) = false by simp; omega]
    simp only [Bool.false_eq_true, if_false]
    refine wpAny_execs_cons (wpAny_If (wpAny_isTrue_Compare1 (ldl F₅.ns rfl (wpAny_Constant_int (PyProof.Rows.eq_int (wpAny_truthy_bool ?_))))))
    by_cases hk1 : k = 1
    · subst hk1
      rw [show (((1 : Nat) : Int) == 1) = true from rfl]
      simp only [if_true]
      refine wpAny_execs_cons (appS (ldl F₅.ns h1 ⟨T, _, rfl, S₅.tp, (comp_valS (prog := prog) (w := w) (A := B) (s := { s with heap := h₅, toks := _ }) (RI := rL rS) (R := rL rS) (xs := treeOf is o) (p := fun _ => true) (f := fun x => x) (cl := []) (Sep := (· ≠ ·)) ?hsep rfl (by decide) rfl (by decide) rfl ?chit ?cok (by rw [sizeLine_eq]; omega)).use fun z s₆ hK₆ hz => ?cpost⟩))
      case hsep =>
        rintro X h h' u v x y ⟨a1, i1, rfl, _, ⟨o1, n1, q1, _⟩, _⟩ ⟨a2, i2, rfl, hX2, _⟩ e
        cases e
        have hX2 : h.get? a1 = none := hX2
        rw [hX2] at q1; cases q1
      case chit =>
        intro E
        exact ldl F₅.ns rfl ⟨kRefl _, Src.ofL hh S₅.tree⟩
      case cok =>
        constructor
        · intro y hy C v s₂ m₂ e₂ hv hn₂ hm₂
          exact tests0 rfl
        · rintro y hy _ C v s₂ m₂ e₂ ⟨la, il, rfl, _, pl, pp⟩ hn₂ hm₂ E
          have G₂ : Gl mg mb s₂.heap := G.keeps fun b ob q => e₂ _ _ (F₅.keep _ _ q)
          have hyl : y.length ≤ 12 := by have := (hB4 y hy).1; omega
          have hils : il.size = y.length := by have := pp.length; simpa using this
          refine wpAny_Call_NameR (nameB (x := "list") (v := .type "list") G₂ (by simp) (by kernel_rfl) ?_)
          refine PyProof.Rows.callWith_type1 (Calls.spliced_cons (ldl hn₂ hm₂ (Calls.spliced_nil ?_)))
          obtain ⟨ob, nn, q, hc, _, hd⟩ := id pl
          refine call_list_seq la (.inl rfl) q hc hd (fun h' c' hk' hD' => ⟨kOf hk', _, il, rfl, get_none_size _, ⟨_, c', hD', rfl, rfl, rfl⟩, Paired.mono (fun _ _ z => rSany z) pp⟩) (by rw [sizeLine_eq]; omega)
      case cpost =>
        obtain ⟨h₆, tk₆, rfl, e₆⟩ := hK₆
        have e₆ : Ext h₅ h₆ := e₆
        obtain ⟨D, its, rfl, hD, hpl, hpd, hpw⟩ := hz
        rw [List.filter_eq_self.mpr (fun _ _ => rfl), List.map_id'] at hpd
        refine ⟨PlainL.at S₅.tp fun o q => e₆ _ _ q, by rw [sizeLine_eq]; simp; omega, fun h₇ pl₇ sb₇ => ?_⟩
        have hDn : ∀ b ∈ its.toList, b ≠ .ref D := by
          rintro b hb rfl
          obtain ⟨x, a1, i1, e1, _, p1, q1⟩ := pmem hpd _ hb
          cases e1
          obtain ⟨o1, n1, ho1, _, _, hd1⟩ := p1
          obtain ⟨o2, n2, ho2, _, _, hd2⟩ := hpl
          rw [ho1] at ho2; cases ho2
          rw [hd1] at hd2; cases hd2
          obtain ⟨y, t, e2⟩ := pmem q1 _ hb
          cases e2
        obtain ⟨N₇, iv₇, S₇⟩ := S₅.push1 e₆ hD (fun b hb => ⟨gD F₅ hb, nB kp₅ ⟨_, F₅⟩ hb⟩) hpl hpd hpw hDn sb₇ pl₇
        refine wpAny_execs_nil (wpAny_execs_nil (wpAny_execs_nil ?_))
        exact done h₇ _ _ _ _ _ _ (frC (F₅.keeps e₆) sb₇ S.gT (fun e => S.LT (.inl e))) h1 S₇ fun b ob hb q => sb₇.extBut b ob (notS S.LT hb) (e₆ _ _ (kp₅ b ob hb q))
    rw [show ((k : Int) == 1) = false by simp; omega]
    simp only [Bool.false_eq_true, if_false]
    refine wpAny_execs_cons (wpAny_If (wpAny_isTrue_Compare1 (ldl F₅.ns rfl (wpAny_Constant_int (PyProof.Rows.eq_int (wpAny_truthy_bool ?_))))))
    by_cases hk2 : k = 2
    · subst hk2
      rw [show (((2 : Nat) : Int) == 2) = true from rfl]
      simp only [if_true]
      refine wpAny_execs_cons (appS (ldl F₅.ns rfl ⟨K', _, rfl, S₅.kp, wpAny_List (Calls.spliced_nil ⟨Nat.zero_le _, PlainL.at S₅.kp fun o q => push_ext _ _ _ _ q, by rw [sizeLine_eq]; cases o <;> simp; omega, fun h₆ pl₆ sb₆ => ?_⟩)⟩))
      have hD := get_none_size h₅
      have S₆ := S₅.pushK (push_ext _ _) hD (nB kp₅ ⟨_, F₅⟩ hD) (gD F₅ hD) ⟨_, _, Heap.get?_push_size _ rfl, rfl, rfl, rfl⟩ sb₆ pl₆
      refine wpAny_execs_nil (wpAny_execs_nil (wpAny_execs_nil (wpAny_execs_nil ?_)))
      exact done h₆ _ _ _ _ _ _ (frC (F₅.push _) sb₆ S.gK (fun e => S.LK (.inl e))) h1 S₆ fun b ob hb q => sb₆.extBut b ob (notS S.LK hb) (push_ext _ _ _ _ (kp₅ b ob hb q))
    rw [show ((k : Int) == 2) = false by simp; omega]
    simp only [Bool.false_eq_true, if_false]
    have hst : tstep (fs, is, o) k = (fs, is, some (inn2 k (inn1 k (o.getD [])))) := by unfold tstep; rw [if_neg hk0, if_neg hk1, if_neg hk2]
    rw [hst] at done
    obtain ⟨mm, F₅, hmT, hmK, tk', hmk⟩ : ∃ mm : Str → Option Value, Fr s.heap s.heap.objs.size h₅ mm ∧ mm "trees" = some (.ref T) ∧ mm "tree" = some (.ref K') ∧ (∃ t, mm "k" = some (.int (k : Int) t)) := ⟨_, F₅, h1, rfl, ⟨_, rfl⟩⟩
    -- if tree == []: tree.append([])
    refine wpAny_execs_cons (wpAny_mono (E := fun _ _ => False) (Q := fun f s' => f = .next ∧ ∃ h₆ tk₆ N₆ iv₆, s' = { s with heap := h₆, toks := tk₆ } ∧ Fr s.heap s.heap.objs.size h₆ mm ∧
      TS s.heap (fun b => b = s.heap.objs.size ∨ b = I ∨ b ∈ src) T K' N₆ h₆ fv iv₆ fs is (some (o.getD [])) ∧ (∀ b ob, b = I ∨ b ∈ src → H.get? b = some ob → h₆.get? b = some ob)) (wpAny_If ?if1) ?rest1 (fun _ _ x => x.elim))
    case if1 =>
      refine wpAny_isTrue_Compare1 (ldl F₅.ns hmK (wpAny_List (Calls.spliced_nil ⟨Nat.zero_le _, ?_⟩)))
      have e₆ : Ext h₅ (h₅.push { cls := .type "list", data := .seq ([] : List Value).toArray }) := push_ext _ _
      refine (cmp_op (ordL (ordL ordS)) (by omega) (s := { s with heap := h₅.push { cls := .type "list", data := .seq ([] : List Value).toArray }, toks := _ }) (Y := Any) (y := []) ((rL (rL rS)).ext S₅.tree e₆) ⟨_, _, rfl, trivial, ⟨_, _, Heap.get?_push_size _ rfl, rfl, rfl, rfl⟩, .nil⟩).2.2.1 (wpAny_truthy_bool ?_)
      have S₆ := S₅.keep fun b ob _ q => e₆ b ob q
      have F₆ := F₅.keeps e₆
      cases o with
      | none =>
        have e0 := S.e0 rfl
        subst e0
        rw [show (cmpL (cmpL c0) (treeOf [] none) [] == .eq) = true from rfl]
        simp only [if_true]
        refine wpAny_execs_cons (appS (ldl F₆.ns hmK ⟨K', _, rfl, S₆.kp, wpAny_List (Calls.spliced_nil ⟨Nat.zero_le _, PlainL.at S₆.kp fun o q => push_ext _ _ _ _ q, by rw [sizeLine_eq]; simp, fun h₇ pl₇ sb₇ => ?_⟩)⟩))
        have hD := get_none_size (h₅.push { cls := .type "list", data := .seq ([] : List Value).toArray })
        have S₇ := S₆.pushK (push_ext _ _) hD (nB (fun b ob hb q => e₆ _ _ (kp₅ b ob hb q)) ⟨_, F₆⟩ hD) (gD F₆ hD) ⟨_, _, Heap.get?_push_size _ rfl, rfl, rfl, rfl⟩ sb₇ pl₇
        refine wpAny_execs_nil ⟨rfl, h₇, _, _, _, rfl, frC (F₆.push _) sb₇ S.gK (fun e => S.LK (.inl e)), S₇, fun b ob hb q => sb₇.extBut b ob (notS S.LK hb) (push_ext _ _ _ _ (e₆ _ _ (kp₅ b ob hb q)))⟩
      | some inn =>
        rw [show (cmpL (cmpL c0) (treeOf is (some inn)) [] == .eq) = false by cases is <;> rfl]
        simp only [Bool.false_eq_true, if_false]
        exact wpAny_execs_nil ⟨rfl, _, _, _, _, rfl, F₆, S₆, fun b ob hb q => e₆ _ _ (kp₅ b ob hb q)⟩
    case rest1 =>
      rintro f s' ⟨rfl, h₆, tk₆, N₆, iv₆, rfl, F₆, S₆, kp₆⟩
      have hin : okN (ks.take i).length (o.getD []) := by
        cases o with
        | none => simp [okN]
        | some inn => exact hB3 inn rfl
      have hszi₆ : iv₆.size ≤ 13 := by
        have e1 := S₆.iz.length
        have e2 : is.length ≤ (treeOf is o).length := by simp [treeOf]
        simp at e1; omega
      generalize o.getD [] = inn at hin S₆ done
      have last : (iv₆.push (Value.ref N₆))[(iv₆.push (Value.ref N₆)).size - 1]'(by simp) = Value.ref N₆ := by simp
      -- if k == 3 or tree[-1] == []: tree[-1].append('')
      refine wpAny_execs_cons (wpAny_mono (E := fun _ _ => False) (Q := fun f s' => f = .next ∧ ∃ h₇ tk₇, s' = { s with heap := h₇, toks := tk₇ } ∧ Fr s.heap s.heap.objs.size h₇ mm ∧
        TS s.heap (fun b => b = s.heap.objs.size ∨ b = I ∨ b ∈ src) T K' N₆ h₇ fv iv₆ fs is (some (inn1 k inn)) ∧ (∀ b ob, b = I ∨ b ∈ src → H.get? b = some ob → h₇.get? b = some ob)) (wpAny_If ?if2) ?rest2 (fun _ _ x => x.elim))
      case if2 =>
        obtain ⟨tx₆, pN, qN⟩ := S₆.np inn rfl
        have hszN : tx₆.size ≤ 12 := by have := qN.length; simp at this; have := hin.1; omega
        refine wpAny_mono (Q := fun b s' => b = decide (k = 3 ∨ inn = []) ∧ ∃ h₇ tk₇, s' = { s with heap := h₇, toks := tk₇ } ∧ Ext h₆ h₇) ?test ?branch (fun _ _ x => x)
        case test =>
          refine isTrue_or (wpAny_isTrue_Compare1 (ldl F₆.ns hmk (wpAny_Constant_int (PyProof.Rows.eq_int (wpAny_truthy_bool ?_)))))
          by_cases hk3 : k = 3
          · subst hk3
            rw [show (((3 : Nat) : Int) == 3) = true from rfl]
            simp only [if_true]
            exact ⟨by simp, _, _, rfl, Ext.refl _⟩
          · rw [show ((k : Int) == 3) = false by simp; omega]
            simp only [Bool.false_eq_true, if_false]
            refine isTrue_or (wpAny_isTrue_Compare1 (Subscript_UnaryOp (ldl F₆.ns hmK (wpAny_UnaryOp (wpAny_Constant_int (neg_int (itemLast S₆.kp.isList (by simp) (by simp; omega) ?_)))))))
            rw [last]
            refine wpAny_List (Calls.spliced_nil ⟨Nat.zero_le _, ?_⟩)
            have e₇ : Ext h₆ (h₆.push { cls := .type "list", data := .seq ([] : List Value).toArray }) := push_ext _ _
            refine (cmp_op (ordL ordS) (by omega) (s := { s with heap := h₆.push { cls := .type "list", data := .seq ([] : List Value).toArray }, toks := _ }) (X := Any) (Y := Any) (x := inn) (y := []) ⟨N₆, tx₆, rfl, trivial, PlainL.at pN fun o q => e₇ _ _ q, Paired.mono (fun _ _ z => rSany z) qN⟩ ⟨_, _, rfl, trivial, ⟨_, _, Heap.get?_push_size _ rfl, rfl, rfl, rfl⟩, .nil⟩).2.2.1 (wpAny_truthy_bool ?_)
            have hq : (cmpL c0 inn [] == .eq) = decide (inn = []) := by cases inn <;> simp [cmpL]
            rw [hq]
            by_cases hin0 : inn = []
            · rw [decide_eq_true hin0]
              simp only [if_true]
              exact ⟨by simp [hin0], _, _, rfl, e₇⟩
            · rw [decide_eq_false hin0]
              simp only [Bool.false_eq_true, if_false]
              exact isTrue_or_nil ⟨by simp [hin0, hk3], _, _, rfl, e₇⟩
        case branch =>
          rintro b s' ⟨rfl, h₇, tk₇, rfl, e₇⟩
          have S₇ := S₆.keep fun b ob _ q => e₇ b ob q
          have F₇ := F₆.keeps e₇
          have kp₇ : ∀ b ob, b = I ∨ b ∈ src → H.get? b = some ob → h₇.get? b = some ob := fun b ob hb q => e₇ _ _ (kp₆ b ob hb q)
          by_cases hc : k = 3 ∨ inn = []
          · rw [decide_eq_true hc]
            simp only [if_true]
            have e1 : inn1 k inn = inn ++ [[]] := by unfold inn1; rw [if_pos hc]
            refine wpAny_execs_cons (appS (Subscript_UnaryOp (ldl F₇.ns hmK (wpAny_UnaryOp (wpAny_Constant_int (neg_int (itemLast S₇.kp.isList (by simp) (by simp; omega) ?_)))))))
            rw [last]
            refine ⟨N₆, tx₆, rfl, PlainL.at pN fun o q => e₇ _ _ q, cstr (l := []) fun t₈ => ⟨PlainL.at pN fun o q => e₇ _ _ q, by rw [sizeLine_eq]; omega, fun h₈ pl₈ sb₈ => ?_⟩⟩
            have S₈ := S₇.setN sb₈ rfl (inn' := inn ++ [[]]) pl₈ (by rw [Array.toList_push]; exact papp (Paired.mono (fun _ _ z => rSany z) qN) (.cons ⟨t₈, rfl⟩ .nil))
            refine wpAny_execs_nil ⟨rfl, h₈, _, rfl, frC F₇ sb₈ S₆.gN (fun e => S₆.LN (.inl e)), by rw [e1]; exact S₈, fun b ob hb q => sb₈.extBut b ob (notS S₆.LN hb) (kp₇ b ob hb q)⟩
          · rw [decide_eq_false hc]
            simp only [Bool.false_eq_true, if_false]
            have e1 : inn1 k inn = inn := by unfold inn1; rw [if_neg hc]
            exact wpAny_execs_nil ⟨rfl, h₇, tk₇, rfl, F₇, by rw [e1]; exact S₇, kp₇⟩
      case rest2 =>
        rintro f s' ⟨rfl, h₇, tk₇, rfl, F₇, S₇, kp₇⟩
        have hne : inn1 k inn ≠ [] := by
          unfold inn1
          split
          · simp
          · rename_i h; intro e; exact h (.inr e)
        have hokI : (inn1 k inn).length ≤ 13 ∧ ∀ t ∈ inn1 k inn, t.length ≤ 12 := by
          unfold inn1
          split
          · refine ⟨by simp; have := hin.1; omega, fun t ht => ?_⟩
            rcases List.mem_append.mp ht with h | h
            · have := (hin.2 t h).1; omega
            · simp at h; subst h; simp
          · exact ⟨by have := hin.1; omega, fun t ht => by have := (hin.2 t ht).1; omega⟩
        generalize inn1 k inn = inn' at hne hokI S₇ done
        obtain ⟨tx₇, pN, qN⟩ := S₇.np inn' rfl
        have hszN : tx₇.size = inn'.length := by have := qN.length; simpa using this
        have hpos := List.length_pos_iff.mpr hne
        refine wpAny_execs_cons (wpAny_If (wpAny_isTrue_Compare1 (ldl F₇.ns hmk (wpAny_Constant_int (PyProof.Rows.gt_int (wpAny_truthy_bool ?_))))))
        by_cases hk3 : 3 < k
        · rw [show decide ((k : Int) > 3) = true by simp; omega]
          simp only [if_true]
          refine wpAny_execs_cons (wpAny_AugAssign_SubscriptAny (Subscript_UnaryOp (ldl F₇.ns hmK (wpAny_UnaryOp (wpAny_Constant_int (neg_int (itemLast S₇.kp.isList (by simp) (by simp; omega) ?_)))))))
          rw [last]
          refine wpAny_UnaryOp (wpAny_Constant_int (neg_int ?_))
          obtain ⟨tl, htl⟩ : ∃ t, tx₇[tx₇.size - 1]'(by omega) = .str (mkS (inn'.getLastD [])) t := by
            have := pget qN (inn'.length - 1) (by simp; omega) (by omega)
            rw [Array.getElem_toList] at this
            obtain ⟨t, ht⟩ := this
            refine ⟨t, ?_⟩
            have e1 : inn'.getLastD [] = inn'[inn'.length - 1]'(by omega) := by
              rw [List.getLastD_eq_getLast?, List.getLast?_eq_getElem?, List.getElem?_eq_getElem (by omega)]; rfl
            rw [e1, ← ht]
            congr 1; omega
          refine wpAny_getItem_list_neg (x := .str (mkS (inn'.getLastD [])) tl) pN.isList (by decide) (by omega) (by decide) ?_ ?_
          · rw [show ((-1 : Int) + tx₇.size).toNat = tx₇.size - 1 by omega, Array.getElem?_eq_getElem (by omega), htl]
          have hlL : (inn'.getLastD []).length ≤ 12 := by
            rw [List.getLastD_eq_getLast?, List.getLast?_eq_some_getLast hne]
            exact hokI.2 _ (List.getLast_mem hne)
          refine PyProof.Rows.Subscript_ (cstr (l := [92, 93, 97, 98]) fun t₈ => wpAny_BinOp (ldl F₇.ns hmk (wpAny_Constant_int (PyProof.Rows.sub_int ?_))))
          have hcase : k = 4 ∨ k = 5 ∨ k = 6 ∨ k = 7 := by omega
          have hit' : Txt.item (mkS [92, 93, 97, 98]) ((k : Int) - 4) = mkS [sgn (k - 4)] ∧ (Txt.charAt (mkS [92, 93, 97, 98]) ((k : Int) - 4)).isSome = true ∧ fitsSsize ((k : Int) - 4) = true := by
            rcases hcase with rfl | rfl | rfl | rfl <;> decide +kernel
          refine subscriptTail_builtin (typeIs_str _ _ _) PySem.F.slot_str_getitem.lookup (SB.getItem hit'.2.2 hit'.2.1 ?_)
          rw [hit'.1]
          refine iaddS (by simp only [List.length_singleton]; omega) fun t₉ tk₉ => ?_
          refine setLast (s := { s with heap := h₇, toks := _ }) pN (by omega) (by omega) fun h₈ pl₈ sb₈ => ?_
          have hset : Paired (rS.r Any h₈) (tx₇.setIfInBounds (tx₇.size - 1) (.str (mkS (inn'.getLastD [] ++ [sgn (k - 4)])) t₉)).toList (inn'.dropLast ++ [inn'.getLastD [] ++ [sgn (k - 4)]]) := by
            rw [Array.toList_setIfInBounds]
            have e3 : tx₇.toList.set (tx₇.size - 1) (.str (mkS (inn'.getLastD [] ++ [sgn (k - 4)])) t₉) = tx₇.toList.take (inn'.length - 1) ++ [.str (mkS (inn'.getLastD [] ++ [sgn (k - 4)])) t₉] := by
              rw [List.set_eq_take_append_cons_drop, if_pos (by simp; omega), hszN, List.drop_eq_nil_of_le (by simp; omega)]
            rw [e3, List.dropLast_eq_take]
            exact papp (Paired.mono (fun _ _ z => rSany z) (ptake qN _)) (.cons ⟨t₉, rfl⟩ .nil)
          have S₈ := S₇.setN sb₈ rfl pl₈ hset
          have e2 : inn2 k inn' = inn'.dropLast ++ [inn'.getLastD [] ++ [sgn (k - 4)]] := by unfold inn2; rw [if_pos hk3]
          refine wpAny_execs_nil (wpAny_execs_nil (wpAny_execs_nil (wpAny_execs_nil (wpAny_execs_nil ?_))))
          rw [e2] at done
          exact done h₈ _ _ _ _ _ _ (frC F₇ sb₈ S₇.gN (fun e => S₇.LN (.inl e))) hmT S₈ fun b ob hb q => sb₈.extBut b ob (notS S₇.LN hb) (kp₇ b ob hb q)
        · rw [show decide ((k : Int) > 3) = false by simp; omega]
          simp only [Bool.false_eq_true, if_false]
          have e2 : inn2 k inn' = inn' := by unfold inn2; rw [if_neg hk3]
          refine wpAny_execs_nil (wpAny_execs_nil (wpAny_execs_nil (wpAny_execs_nil (wpAny_execs_nil ?_))))
          rw [e2] at done
          exact done h₇ _ _ _ _ _ _ F₇ hmT S₇ kp₇
  case fin =>
    rintro I src h' tk' m' F' ⟨h1, h2, h3, h4, h5, h6, K', N', fv, iv, S⟩
    refine wpAny_execs_cons (wpAny_Return_some (ldl F'.ns h1 ⟨kOf F'.keep, ?_⟩))
    rw [List.take_length] at S
    exact (rL (rL (rL rS))).stab S.all fun b o hb q => ⟨hb.1, q⟩
  case hsrcL =>
    rintro src h' hC e hm
    obtain ⟨ob, _, _, q, _⟩ := F₃.ns
    have := (hC _ hm).2
    rw [this] at q; cases q
end
end Mine
end

/-! text S1 -/
section
open PySem PySem.W PyProof.Rows
set_option Elab.async false
set_option maxRecDepth 100000
namespace Mine

/-! ### the sorting tree, by keys -/
def KOk {α : Type} (K : Nat → Nat) (n : Nat) : KasT α → (α → Prop) → Prop
  | .ret a, Q => Q a
  | .ask i j k, Q => i < n ∧ j < n ∧ KOk K n (k (decide (K i < K j))) Q

theorem KOk.mono {α : Type} {K : Nat → Nat} {n : Nat} {Q Q' : α → Prop} (hq : ∀ a, Q a → Q' a) : ∀ {t : KasT α}, KOk K n t Q → KOk K n t Q'
  | .ret _, h => hq _ h
  | .ask _ _ _, ⟨h1, h2, h3⟩ => ⟨h1, h2, KOk.mono hq h3⟩
theorem KOk.bind {α β : Type} {K : Nat → Nat} {n : Nat} {f : α → KasT β} {Q : β → Prop} : ∀ {t : KasT α}, KOk K n t (fun a => KOk K n (f a) Q) → KOk K n (t.bind f) Q
  | .ret _, h => h
  | .ask _ _ _, ⟨h1, h2, h3⟩ => ⟨h1, h2, KOk.bind h3⟩
theorem KOk.wp {α : Type} {K : Nat → Nat} {n : Nat} {cmp : Nat → Nat → (Bool → Shared → Prop) → Shared → Prop} {Q : α → Shared → Prop} {s : Shared} (hc : ∀ i j (C : Bool → Shared → Prop), i < n → j < n → C (decide (K i < K j)) s → cmp i j C s) :
    ∀ {t : KasT α}, KOk K n t (fun a => Q a s) → t.kasWp cmp Q s
  | .ret _, h => h
  | .ask i j _, ⟨h1, h2, h3⟩ => hc i j _ h1 h2 (KOk.wp hc h3)

abbrev V (K : Nat → Nat) (p : Array Nat) (i : Nat) : Nat := K (p.getD i 0)
structure Val (n : Nat) (p : Array Nat) : Prop where
  sz : p.size = n
  perm : p.Perm (List.range n).toArray
theorem Val.lt {n : Nat} {p : Array Nat} (v : Val n p) {i : Nat} (hi : i < n) : p.getD i 0 < n := by
  have hi' : i < p.size := by rw [v.sz]; exact hi
  have hm : p[i] ∈ p := Array.getElem_mem hi'
  have := v.perm.mem_iff.mp hm
  simp at this
  simp [Array.getD, hi', this]
def So (K : Nat → Nat) (p : Array Nat) (k : Nat) : Prop := ∀ i j, i ≤ j → j < k → V K p i ≤ V K p j
def Ni (K : Nat → Nat) (p : Array Nat) (k : Nat) : Prop := ∀ i j, i ≤ j → j < k → V K p j ≤ V K p i

theorem V_rev {K : Nat → Nat} {p : Array Nat} {i j : Nat} (hj : j ≤ p.size) (k : Nat) : V K (kas_rev p i j) k = if i ≤ k ∧ k < j then V K p (i + j - 1 - k) else V K p k := by
  have e := getElem?_mirror_all (i := i) hj k
  simp only [V, Array.getD_eq_getD_getElem?]
  unfold kas_rev
  rw [e]
  split <;> rfl
theorem V_bub {K : Nat → Nat} {p : Array Nat} {src d : Nat} (hs : src < p.size) (hd : d ≤ src) (k : Nat) : V K (bubble p src d) k = if k = src - d then V K p src else if src - d < k ∧ k ≤ src then V K p (k - 1) else V K p k := by
  have e := getElem?_bubble hs d hd k
  simp only [V, Array.getD_eq_getD_getElem?]
  rw [e]
  split
  · rfl
  · split <;> rfl
theorem Val.rev {n : Nat} {p : Array Nat} (v : Val n p) (i j : Nat) : Val n (kas_rev p i j) := ⟨(mirror_size _ _ _ _).trans v.sz, (mirror_perm _ _ _ _).trans v.perm⟩
theorem Val.bub {n : Nat} {p : Array Nat} (v : Val n p) (i j : Nat) : Val n (bubble p i j) := ⟨(bubble_size _ _ _).trans v.sz, (bubble_perm _ _ _).trans v.perm⟩

theorem asc_ok {K : Nat → Nat} {n : Nat} {p : Array Nat} (v : Val n p) : ∀ (f m : Nat), 1 ≤ m → m + f = n → So K p m → KOk K n (kas_asc p f m) (fun r => m ≤ r ∧ r ≤ n ∧ So K p r ∧ (r < n → V K p r < V K p (r - 1)))
  | 0, m, h1, h2, hs => ⟨Nat.le_refl _, by omega, hs, fun h => by omega⟩
  | f + 1, m, h1, h2, hs => by
    refine ⟨v.lt (by omega), v.lt (by omega), ?_⟩
    by_cases hc : V K p m < V K p (m - 1)
    · rw [decide_eq_true hc]
      simp only [if_true]
      exact ⟨Nat.le_refl _, by omega, hs, fun _ => hc⟩
    · rw [decide_eq_false hc]
      simp only [Bool.false_eq_true, if_false]
      refine KOk.mono (fun r hr => ⟨by omega, hr.2⟩) (asc_ok v f (m + 1) (by omega) (by omega) ?_)
      intro i j hij hj
      by_cases hjm : j = m
      · subst hjm
        by_cases hi : i = j
        · subst hi; exact Nat.le_refl _
        · have := hs i (j - 1) (by omega) (by omega)
          omega
      · exact hs i j hij (by omega)

/-- a stretch of equal keys that is turned round changes no key -/
theorem V_flat {K : Nat → Nat} {p : Array Nat} {i j : Nat} (hj : j ≤ p.size) (he : ∀ a b, i ≤ a → a < j → i ≤ b → b < j → V K p a = V K p b) (k : Nat) : V K (kas_rev p i j) k = V K p k := by
  rw [V_rev hj]
  split
  · exact he _ _ (by omega) (by omega) (by omega) (by omega)
  · rfl

theorem desc_ok {K : Nat → Nat} {n : Nat} : ∀ (f : Nat) (p : Array Nat) (m q : Nat), Val n p → m + f = n → q + 1 ≤ m → Ni K p m → (∀ a b, m - (q + 1) ≤ a → a < m → m - (q + 1) ≤ b → b < m → V K p a = V K p b) →
    KOk K n (kas_desc f p m q) (fun r => Val n r.1 ∧ r.2.2 + 1 ≤ r.2.1 ∧ r.2.1 ≤ n ∧ Ni K r.1 r.2.1 ∧ (∀ a b, r.2.1 - (r.2.2 + 1) ≤ a → a < r.2.1 → r.2.1 - (r.2.2 + 1) ≤ b → b < r.2.1 → V K r.1 a = V K r.1 b))
  | 0, p, m, q, v, h2, hq, hn, he => ⟨v, hq, by show m ≤ n; omega, hn, he⟩
  | f + 1, p, m, q, v, h2, hq, hn, he => by
    refine ⟨v.lt (by omega), v.lt (by omega), ?_⟩
    have ext : ∀ (p' : Array Nat), (∀ k, V K p' k = V K p k) → V K p m ≤ V K p (m - 1) → Ni K p' (m + 1) := fun p' hp' hle i j hij hj => by
      rw [hp', hp']
      by_cases hjm : j = m
      · subst hjm
        by_cases hi : i = j
        · subst hi; exact Nat.le_refl _
        · have := hn i (j - 1) (by omega) (by omega); omega
      · exact hn i j hij (by omega)
    by_cases hc : V K p m < V K p (m - 1)
    · rw [decide_eq_true hc]
      simp only [if_true]
      split
      · refine desc_ok f _ (m + 1) 0 (v.rev _ _) (by omega) (by omega) (ext _ (fun k => V_flat (by rw [v.sz]; omega) he k) (by omega)) (fun a b h1 h2 h3 h4 => ?_)
        have : a = b := by omega
        rw [this]
      · refine desc_ok f p (m + 1) 0 v (by omega) (by omega) (ext p (fun _ => rfl) (by omega)) (fun a b h1 h2 h3 h4 => ?_)
        have : a = b := by omega
        rw [this]
    · rw [decide_eq_false hc]
      simp only [Bool.false_eq_true, if_false]
      refine ⟨v.lt (by omega), v.lt (by omega), ?_⟩
      by_cases hd : V K p (m - 1) < V K p m
      · rw [decide_eq_true hd]
        simp only [if_true]
        exact ⟨v, hq, by show m ≤ n; omega, hn, he⟩
      · rw [decide_eq_false hd]
        simp only [Bool.false_eq_true, if_false]
        refine desc_ok f p (m + 1) (q + 1) v (by omega) (by omega) (ext p (fun _ => rfl) (by omega)) (fun a b h1 h2 h3 h4 => ?_)
        have hm : V K p m = V K p (m - 1) := by omega
        have at' : ∀ a, m + 1 - (q + 1 + 1) ≤ a → a < m + 1 → V K p a = V K p (m - 1) := fun a h1 h2 => by
          by_cases ha : a = m
          · rw [ha]; exact hm
          · exact he a (m - 1) (by omega) (by omega) (by omega) (by omega)
        rw [at' a h1 h2, at' b h3 h4]

theorem tail3_ok {K : Nat → Nat} {n : Nat} {p : Array Nat} {m : Nat} (v : Val n p) (h1 : 1 ≤ m) (hm : m ≤ n) (hn : Ni K p m) : KOk K n (kas_tail3 m n p) (fun r => Val n r.2 ∧ 1 ≤ r.1 ∧ r.1 ≤ n ∧ So K r.2 r.1) := by
  refine KOk.bind (KOk.mono (fun r hr => ?_) (asc_ok (v.rev 0 m) (n - m) m h1 (by omega) ?_))
  · exact ⟨v.rev 0 m, by have := hr.1; show 1 ≤ r; omega, hr.2.1, hr.2.2.1⟩
  · intro i j hij hj
    rw [V_rev (by rw [v.sz]; exact hm), V_rev (by rw [v.sz]; exact hm), if_pos (by omega), if_pos (by omega)]
    exact hn _ _ (by omega) (by omega)

theorem descPart_ok {K : Nat → Nat} {n : Nat} {p : Array Nat} {m : Nat} (v : Val n p) (h1 : 1 ≤ m) (hm : m + 1 ≤ n) (he : ∀ a b, a < m → b < m → V K p a = V K p b) (hlt : V K p m < V K p (m - 1)) :
    KOk K n (kas_descPart m n p) (fun r => Val n r.2 ∧ 1 ≤ r.1 ∧ r.1 ≤ n ∧ So K r.2 r.1) := by
  refine KOk.bind (KOk.mono (fun r hr => ?_) (desc_ok (n - (m + 1)) p (m + 1) 0 v (by omega) (by omega) ?_ (fun a b h1 h2 h3 h4 => ?_)))
  · obtain ⟨v', hq, hle, hn, hfl⟩ := hr
    split
    · refine tail3_ok (v'.rev _ _) (by omega) hle fun i j hij hj => ?_
      rw [V_flat (by rw [v'.sz]; exact hle) hfl, V_flat (by rw [v'.sz]; exact hle) hfl]
      exact hn i j hij hj
    · exact tail3_ok v' (by omega) hle hn
  · intro i j hij hj
    by_cases hjm : j = m
    · subst hjm
      by_cases hi : i = j
      · subst hi; exact Nat.le_refl _
      · have := he i (j - 1) (by omega) (by omega); omega
    · exact Nat.le_of_eq (he j i (by omega) (by omega))
  · have : a = b := by omega
    rw [this]

theorem count_ok {K : Nat → Nat} {n : Nat} {p : Array Nat} (v : Val n p) (h1 : 1 ≤ n) : KOk K n (kas_count n p) (fun r => Val n r.2 ∧ 1 ≤ r.1 ∧ r.1 ≤ n ∧ So K r.2 r.1) := by
  have s1 : So K p 1 := fun i j hij hj => by
    have : i = j := by omega
    rw [this]; exact Nat.le_refl _
  refine KOk.bind (KOk.mono (fun m hm => ?_) (asc_ok v (n - 1) 1 (Nat.le_refl _) (by omega) s1))
  obtain ⟨hm1, hmn, hso, hnx⟩ := hm
  split
  · rename_i h
    have : m = n := by simpa using h
    exact ⟨v, hm1, hmn, hso⟩
  · rename_i h
    have hne : m < n := by have : ¬ m = n := by simpa using h
                           omega
    split
    · refine ⟨v.lt (by omega), v.lt (by omega), ?_⟩
      by_cases hc : V K p 0 < V K p (m - 1)
      · rw [decide_eq_true hc]
        simp only [if_true]
        exact ⟨v, hm1, hmn, hso⟩
      · rw [decide_eq_false hc]
        simp only [Bool.false_eq_true, if_false]
        have flat : ∀ a b, a < m → b < m → V K p a = V K p b := fun a b ha hb => by
          have e1 := hso 0 a (by omega) ha
          have e2 := hso a (m - 1) (by omega) (by omega)
          have e3 := hso 0 b (by omega) hb
          have e4 := hso b (m - 1) (by omega) (by omega)
          omega
        have vf : ∀ k, V K (kas_rev p 0 m) k = V K p k := V_flat (by rw [v.sz]; omega) (fun a b _ ha _ hb => flat a b ha hb)
        refine descPart_ok (v.rev _ _) hm1 (by omega) (fun a b ha hb => ?_) ?_
        · rw [vf, vf]; exact flat a b ha hb
        · rw [vf, vf]; exact hnx hne
    · have : m = 1 := by omega
      subst this
      refine descPart_ok v (Nat.le_refl _) (by omega) (fun a b ha hb => ?_) (hnx hne)
      have : a = b := by omega
      rw [this]

theorem place_ok {K : Nat → Nat} {n : Nat} {p : Array Nat} (v : Val n p) {k : Nat} (hk : k < n) (hs : So K p k) : ∀ (f l r : Nat), l ≤ r → r ≤ k → r - l ≤ f → (∀ i, i < l → V K p i ≤ V K p k) → (∀ i, r ≤ i → i < k → V K p k ≤ V K p i) →
    KOk K n (kas_place p k f l r) (fun x => x ≤ k ∧ (∀ i, i < x → V K p i ≤ V K p k) ∧ (∀ i, x ≤ i → i < k → V K p k ≤ V K p i))
  | 0, l, r, hlr, hr, hf, h1, h2 => ⟨by show l ≤ k; omega, h1, fun i hi hik => h2 i (by have hi : l ≤ i := hi; omega) hik⟩
  | f + 1, l, r, hlr, hr, hf, h1, h2 => by
    unfold kas_place
    split
    · exact ⟨by show l ≤ k; omega, h1, fun i hi hik => h2 i (by have hi : l ≤ i := hi; omega) hik⟩
    · refine ⟨v.lt hk, v.lt (by omega), ?_⟩
      by_cases hc : V K p k < V K p ((l + r) / 2)
      · rw [decide_eq_true hc]
        simp only [if_true]
        refine place_ok v hk hs f l ((l + r) / 2) (by omega) (by omega) (by omega) h1 (fun i hi hik => ?_)
        have := hs ((l + r) / 2) i hi hik
        omega
      · rw [decide_eq_false hc]
        simp only [Bool.false_eq_true, if_false]
        refine place_ok v hk hs f ((l + r) / 2 + 1) r (by omega) hr (by omega) (fun i hi => ?_) h2
        have := hs i ((l + r) / 2) (by omega) (by omega)
        omega

theorem bin_ok {K : Nat → Nat} {n : Nat} : ∀ (f : Nat) (p : Array Nat) (k : Nat), Val n p → k + f = n → So K p k → KOk K n (kas_bin f p k) (fun p' => Val n p' ∧ So K p' n)
  | 0, p, k, v, h, hs => ⟨v, by have : k = n := by omega
                                subst this; exact hs⟩
  | f + 1, p, k, v, h, hs => by
    refine KOk.bind (KOk.mono (fun l hl => ?_) (place_ok v (by omega) hs k 0 k (Nat.zero_le _) (Nat.le_refl _) (by omega) (by omega) (by omega)))
    obtain ⟨hlk, ha, hb⟩ := hl
    refine bin_ok f _ (k + 1) (v.bub _ _) (by omega) fun i j hij hj => ?_
    rw [V_bub (by rw [v.sz]; omega) (by omega), V_bub (by rw [v.sz]; omega) (by omega)]
    have e : k - (k - l) = l := by omega
    rw [e]
    by_cases i1 : i = l
    · rw [if_pos i1]
      by_cases j1 : j = l
      · rw [if_pos j1]; exact Nat.le_refl _
      · rw [if_neg j1, if_pos (by omega)]; exact hb _ (by omega) (by omega)
    · rw [if_neg i1]
      by_cases i2 : l < i ∧ i ≤ k
      · rw [if_pos i2]
        rw [if_neg (by omega), if_pos (by omega)]
        exact hs _ _ (by omega) (by omega)
      · rw [if_neg i2]
        by_cases j1 : j = l
        · rw [if_pos j1]; exact ha _ (by omega)
        · rw [if_neg j1]
          by_cases j2 : l < j ∧ j ≤ k
          · rw [if_pos j2]
            exact hs _ _ (by omega) (by omega)
          · rw [if_neg j2]; exact hs _ _ hij (by omega)

theorem sort_ok {K : Nat → Nat} {n : Nat} (h : 1 ≤ n) : KOk K n (kas_sort n) (fun p => Val n p ∧ So K p n) := by
  have v0 : Val n (List.toArray (List.range n)) := ⟨by simp, .refl _⟩
  refine KOk.bind (KOk.mono (fun r hr => ?_) (count_ok v0 h))
  obtain ⟨v, h1, hn, hs⟩ := hr
  split
  · have e : max r.1 1 = r.1 := by omega
    rw [e]
    exact bin_ok _ _ _ v (by omega) hs
  · have e : r.1 = n := by omega
    exact ⟨v, e ▸ hs⟩
end Mine
end

/-! text S2 -/
section
open PySem PySem.W PyProof.Rows
set_option Elab.async false
set_option maxRecDepth 100000
namespace Mine

/-- c is a linear order -/
structure LinO {β : Type} (c : β → β → Ordering) : Prop where
  sw : ∀ a b, c b a = (c a b).swap
  tr : ∀ a b d, c a b ≠ .gt → c b d ≠ .gt → c a d ≠ .gt
  eq : ∀ a b, c a b = .eq → a = b
theorem LinO.rf {β : Type} {c : β → β → Ordering} (L : LinO c) (a : β) : c a a = .eq := by
  have := L.sw a a
  cases h : c a a <;> rw [h] at this <;> first | rfl | simp [Ordering.swap] at this
theorem LinO.ltr {β : Type} {c : β → β → Ordering} (L : LinO c) {a b d : β} (h1 : c a b = .lt) (h2 : c b d ≠ .gt) : c a d = .lt := by
  have h3 := L.tr a b d (by rw [h1]; simp) h2
  cases h : c a d with
  | lt => rfl
  | gt => exact absurd h h3
  | eq =>
    have := L.eq a d h
    subst this
    have := L.sw a b
    rw [h1] at this
    exact absurd this h2
theorem LinO.lrt {β : Type} {c : β → β → Ordering} (L : LinO c) {a b d : β} (h1 : c a b ≠ .gt) (h2 : c b d = .lt) : c a d = .lt := by
  have h3 := L.tr a b d h1 (by rw [h2]; simp)
  cases h : c a d with
  | lt => rfl
  | gt => exact absurd h h3
  | eq =>
    have := L.eq a d h
    subst this
    have := L.sw b a
    rw [h2] at this
    exact absurd this h1
theorem cN_le (a b : Nat) : cN a b ≠ .gt ↔ a ≤ b := by
  unfold cN
  by_cases h1 : a < b
  · simp [h1]; omega
  · by_cases h2 : b < a
    · simp [h1, h2]
    · simp [h1, h2]; omega
theorem cN_lin : LinO cN where
  sw := fun a b => by
    unfold cN
    by_cases h1 : a < b
    · simp [h1, Nat.not_lt.mpr (Nat.le_of_lt h1)]
    · by_cases h2 : b < a
      · simp [h1, h2]
      · simp [h1, h2]
  tr := fun a b d h1 h2 => by rw [cN_le] at *; omega
  eq := fun a b h => by
    unfold cN at h
    split at h
    · cases h
    · split at h
      · cases h
      · omega
theorem cmpL_lin {β : Type} {c : β → β → Ordering} (L : LinO c) : LinO (cmpL c) where
  sw := by
    intro a
    induction a with
    | nil => intro b; cases b <;> rfl
    | cons x a ih =>
      intro b
      cases b with
      | nil => rfl
      | cons y b =>
        show (match c y x with | .eq => cmpL c b a | o => o) = (match c x y with | .eq => cmpL c a b | o => o).swap
        rw [L.sw x y]
        cases h : c x y with
        | lt => rfl
        | gt => rfl
        | eq => exact ih b
  tr := by
    intro a
    induction a with
    | nil => intro b d; cases b <;> cases d <;> simp [cmpL]
    | cons x a ih =>
      intro b d h1 h2
      cases b with
      | nil => simp [cmpL] at h1
      | cons y b =>
        cases d with
        | nil => simp [cmpL] at h2
        | cons z d =>
          have h1 : (match c x y with | .eq => cmpL c a b | o => o) ≠ .gt := h1
          have h2 : (match c y z with | .eq => cmpL c b d | o => o) ≠ .gt := h2
          show (match c x z with | .eq => cmpL c a d | o => o) ≠ .gt
          cases hxy : c x y with
          | gt => rw [hxy] at h1; exact absurd rfl h1
          | lt =>
            have : c y z ≠ .gt := by intro e; rw [e] at h2; exact h2 rfl
            rw [L.ltr hxy this]; simp
          | eq =>
            have := L.eq _ _ hxy
            subst this
            rw [hxy] at h1
            cases hyz : c x z with
            | gt => rw [hyz] at h2; exact absurd rfl h2
            | lt => simp
            | eq => rw [hyz] at h2; exact ih b d h1 h2
  eq := by
    intro a
    induction a with
    | nil => intro b h; cases b <;> simp [cmpL] at h ⊢
    | cons x a ih =>
      intro b h
      cases b with
      | nil => simp [cmpL] at h
      | cons y b =>
        have h : (match c x y with | .eq => cmpL c a b | o => o) = .eq := h
        cases hxy : c x y with
        | lt => rw [hxy] at h; cases h
        | gt => rw [hxy] at h; cases h
        | eq => rw [hxy] at h; rw [L.eq _ _ hxy, ih b h]
theorem c0_lin : LinO c0 := cmpL_lin cN_lin
theorem c1_lin : LinO c1 := cmpL_lin c0_lin
theorem c2_lin : LinO c2 := cmpL_lin c1_lin

theorem countP_lt {α : Type} {p q : α → Bool} : ∀ {l : List α}, (∀ a ∈ l, p a = true → q a = true) → (∃ a ∈ l, q a = true ∧ p a = false) → l.countP p < l.countP q
  | [], _, h => by simp at h
  | x :: l, h, ⟨a, ha, hq, hp⟩ => by
    have hle : l.countP p ≤ l.countP q := List.countP_mono_left fun a ha => h a (by simp [ha])
    rw [List.countP_cons, List.countP_cons]
    rcases List.mem_cons.mp ha with rfl | ha
    · simp [hq, hp]; omega
    · have := countP_lt (l := l) (fun a ha => h a (by simp [ha])) ⟨a, ha, hq, hp⟩
      have hx := h x (by simp)
      cases hpx : p x
      · simp; split <;> omega
      · simp [hx hpx]; omega

def rank {β : Type} (c : β → β → Ordering) (xs : List β) (d : β) (i : Nat) : Nat := xs.countP fun y => c y (xs.getD i d) == .lt
theorem rank_lt {β : Type} {c : β → β → Ordering} (L : LinO c) {xs : List β} {d : β} {i j : Nat} (hi : i < xs.length) : (rank c xs d i < rank c xs d j) ↔ c (xs.getD i d) (xs.getD j d) = .lt := by
  have hmem : xs.getD i d ∈ xs := by rw [List.getD_eq_getElem?_getD, List.getElem?_eq_getElem hi]; exact List.getElem_mem hi
  constructor
  · intro h
    cases hc : c (xs.getD i d) (xs.getD j d) with
    | lt => rfl
    | eq => rw [rank, rank, L.eq _ _ hc] at h; exact absurd h (Nat.lt_irrefl _)
    | gt =>
      exfalso
      have hsw := L.sw (xs.getD i d) (xs.getD j d)
      rw [hc] at hsw
      have : rank c xs d j ≤ rank c xs d i := List.countP_mono_left fun a ha h => by
        have h : (c a (xs.getD j d) == .lt) = true := h
        have h' : c a (xs.getD j d) = .lt := eq_of_beq h
        have := L.ltr h' (b := xs.getD j d) (d := xs.getD i d) (by rw [hsw]; simp [Ordering.swap])
        show (c a (xs.getD i d) == .lt) = true
        rw [this]; rfl
      omega
  · intro h
    refine countP_lt (fun a ha h' => ?_) ⟨_, hmem, by rw [h]; rfl, by rw [L.rf]; rfl⟩
    have h' : (c a (xs.getD i d) == .lt) = true := h'
    have h' : c a (xs.getD i d) = .lt := eq_of_beq h'
    have := L.ltr h' (b := xs.getD i d) (d := xs.getD j d) (by rw [h]; simp)
    show (c a (xs.getD j d) == .lt) = true
    rw [this]; rfl

abbrev Srt {β : Type} (c : β → β → Ordering) (zs : List β) : Prop := zs.Pairwise fun a b => c a b ≠ .gt

theorem sort_out {β : Type} {c : β → β → Ordering} (L : LinO c) {xs : List β} (d : β) {p : Array Nat} (v : Val xs.length p) (hs : So (rank c xs d) p xs.length) :
    (p.toList.map fun i => xs.getD i d).Perm xs ∧ Srt c (p.toList.map fun i => xs.getD i d) := by
  constructor
  · have h1 : p.toList.Perm (List.range xs.length) := by have := Array.perm_iff_toList_perm.mp v.perm; simpa using this
    have h2 := h1.map fun i => xs.getD i d
    have h3 : (List.range xs.length).map (fun i => xs.getD i d) = xs := by
      apply List.ext_getElem
      · simp
      · intro i h1 h2
        have h2' : i < xs.length := h2
        simp [h2']
    rwa [h3] at h2
  · rw [Srt, List.pairwise_map, List.pairwise_iff_getElem]
    intro i j hi hj hij
    have hsz := v.sz
    have hi' : i < xs.length := by simp at hi; omega
    have hj' : j < xs.length := by simp at hj; omega
    have h := hs i j (by omega) hj'
    have gi : p.getD i 0 = p.toList[i] := by simp [Array.getD, show i < p.size by omega]
    have gj : p.getD j 0 = p.toList[j] := by simp [Array.getD, show j < p.size by omega]
    have hlt : p.toList[j] < xs.length := by rw [← gj]; exact v.lt hj'
    rw [V, V, gi, gj] at h
    intro hgt
    have hsw := L.sw (xs.getD p.toList[i] d) (xs.getD p.toList[j] d)
    rw [hgt] at hsw
    have := (rank_lt L (xs := xs) (d := d) (i := p.toList[j]) (j := p.toList[i]) hlt).mpr (by rw [hsw]; rfl)
    omega
end Mine
end

/-! text S3 -/
section
open PySem PySem.W PyProof.Rows
set_option Elab.async false
set_option maxRecDepth 100000
namespace Mine
section
variable {prog : Program} {w : World} {A : Around} {E : Value → Shared → Prop} {s : Shared}

theorem askL {β : Type} {R : Rel β} {c : β → β → Ordering} {n : Nat} (O : Ordd R c n) (hu : A.units + n + 2 < cLine) {X Y : Addr → Prop} {v u : Value} {xs ys : List β} (hv : (rL R).r X s.heap v xs) (hw : (rL R).r Y s.heap u ys) {Q : Bool → Shared → Prop} (h : Q (cmpL c xs ys == .lt) s) :
    wpAny (model prog w) A (keyLt' oneType' v u) Q E s := by
  obtain ⟨l, items, rfl, _, ⟨⟨cls, dd, data, sl⟩, n1, ho, hc, hd, hdat⟩, hp⟩ := hv
  obtain ⟨b, items2, rfl, _, ⟨⟨cls2, dd2, data2, sl2⟩, n2, ho2, hc2, hd2, hdat2⟩, hq⟩ := hw
  simp only at hc hdat hc2 hdat2
  subst hc hdat hc2 hdat2
  have hx : items.size = xs.length := by have := hp.length; simpa using this
  have hy : items2.size = ys.length := by have := hq.length; simpa using this
  rw [keyLt'_oneType, oneLt'_eq]
  simp only [if_true]
  refine wpAny_bind (wpAny_cRoomFor (by omega) ?_)
  refine wpAny_bind (wpAny_callSpecialIfBound?_slot ⟨_, ho, rfl⟩ F.slot_list_lt (call_meets F.slot_list_lt ⟨_, ho, rfl⟩ F.entry_list_lt (F.args_list_lt_2 _ _) (list_lt c l b items items2 n1 n2 dd dd2 sl sl2 xs ys hx hy)
    ⟨ho, ho2, fun j h1 h2 => ?_, ?_⟩))
  · have h1' := pget hp j (by simpa using h1) (by rw [← hx]; exact h1)
    have h2' := pget hq j (by simpa using h2) (by rw [← hy]; exact h2)
    rw [Array.getElem_toList] at h1' h2'
    have := O.oa h1' h2' A.in1 (by show A.units + 1 + n < cLine; omega)
    exact ⟨this.1, this.2.2.2.1⟩
  · exact wpAny_truthy_bool h

theorem look_ref {a : Addr} {o : Obj} {T : String} {h : Heap} (ho : h.get? a = some o) (hc : o.cls = .type T) : Looks (model prog w) h (typeOf (.ref a)) (.type T) :=
  fun A Q E s k q => wpAny_typeOf (T := T) ⟨o, k _ _ ho, hc⟩ q

/-- sorted(v) of two or more lists -/
theorem sortedL {β : Type} {R : Rel β} {c : β → β → Ordering} {n : Nat} (O : Ordd R c n) (Lc : LinO (cmpL c)) (hu : A.units + n + 4 < cLine) {h₀ : Heap} {L : Addr} {m : Str → Option Value} (F : Fr h₀ L s.heap m) {v : Value} {xs : List (List β)} (hv : (rL (rL R)).r (· ≠ L) s.heap v xs)
    (h2 : 2 ≤ xs.length) (h64 : xs.length < 64) {Q : Value → Shared → Prop}
    (k : ∀ D h' zs, Fr h₀ L h' m → (∀ b o, b ≠ L → s.heap.get? b = some o → h'.get? b = some o) → zs.Perm xs → Srt (cmpL c) zs → (rL (rL R)).r (· ≠ L) h' (.ref D) zs → Q (.ref D) { s with heap := h' }) :
    wpAny (model prog w) A (call (.builtin "sorted") [v]) Q E s := by
  obtain ⟨l, items, rfl, _, hl, hp⟩ := hv
  have hlen : items.size = xs.length := by have := hp.length; simpa using this
  have hL : L < s.heap.objs.size := F.ns.lt
  have hLf : L ∉ (List.range s.heap.objs.size).filter (fun b => b != L) := by simp
  have N := news_ownOf (h₀ := h₀) (h := s.heap) hLf
  have mem : ∀ b o, b ≠ L → s.heap.get? b = some o → h₀.get? b = none → (b, o) ∈ ownOf h₀ ((List.range s.heap.objs.size).filter (fun b => b != L)) s.heap := fun b o hb q hn => mem_ownOf (by simp [hb]; exact ltSz q) hn q
  have up : ∀ {h' : Heap} {news : List (Addr × Obj)}, Fr h₀ L h' m → News h₀ L h' news → (∀ p ∈ ownOf h₀ ((List.range s.heap.objs.size).filter (fun b => b != L)) s.heap, p ∈ news) → ∀ b o, b ≠ L → s.heap.get? b = some o → h'.get? b = some o := fun {h' news} F' N' hs b o hb q => by
    cases hn : h₀.get? b with
    | none => exact (N' _ (hs _ (mem b o hb q hn))).1
    | some o' => have e1 := F.keep _ _ hn; rw [q] at e1; cases e1; exact F'.keep _ _ hn
  have keepR : ∀ {h' : Heap}, (∀ b o, b ≠ L → s.heap.get? b = some o → h'.get? b = some o) → Paired ((rL R).r (· ≠ L) h') items.toList xs := fun {h'} e =>
    Paired.mono (fun _ _ z => Rel.stab _ z fun b o hb q => ⟨hb, e b o hb q⟩) hp
  have atR : ∀ {h' : Heap}, (∀ b o, b ≠ L → s.heap.get? b = some o → h'.get? b = some o) → ∀ i, i < xs.length → (rL R).r (· ≠ L) h' (items.toList.getD i Value.none) (xs.getD i []) := fun {h'} e i hi => by
    have := pget (keepR e) i (by simp; omega) hi
    rw [List.getD_eq_getElem?_getD, List.getD_eq_getElem?_getD, List.getElem?_eq_getElem hi, List.getElem?_eq_getElem (by simp; omega)]
    exact this
  have hl' : s.heap.IsList l items.toList.toArray := by simpa using hl.isList
  refine kas_sorted F N hl' (by simpa [hlen] using h2) (by simpa [hlen] using h64) (T := .type "list") (fun h F' N' v hv' => ?_) (by decide) fun D e1 h' F' N' hD => ?_
  · obtain ⟨y, a, its, rfl, _, ⟨o, nn, ho, hc, _⟩, _⟩ := pmem (keepR (up F' N' fun p hp => hp)) v hv'
    exact look_ref ho hc
  · have e' := up F' N' fun p hp => List.mem_cons_of_mem _ hp
    have hl2 : items.toList.length = xs.length := by simpa using hlen
    rw [hl2]
    refine KOk.wp (K := rank (cmpL c) xs []) (n := xs.length) (fun i j C hi hj hC => ?_) (KOk.mono (fun p hpv => ?_) (sort_ok (by omega)))
    · refine askL O (by show A.units + 1 + 1 + n + 2 < cLine; omega) (s := { s with heap := h' }) (atR e' i hi) (atR e' j hj) ?_
      have : (cmpL c (xs.getD i []) (xs.getD j []) == .lt) = decide (rank (cmpL c) xs [] i < rank (cmpL c) xs [] j) := by
        rw [Bool.eq_iff_iff, decide_eq_true_iff, rank_lt Lc hi]
        exact beq_iff_eq
      rw [this]; exact hC
    · obtain ⟨pv, ps⟩ := hpv
      obtain ⟨o1, o2⟩ := sort_out Lc [] pv ps
      refine KasFin.intro F' N' (.head fun q hq => Nat.ne_of_lt (hD q hq)) fun h'' c' F'' N'' => ?_
      have e'' := up F'' N'' fun p hp => List.mem_cons_of_mem _ hp
      have hDn := N'' (D, listOf (List.toArray (p.toList.map fun i => items.toList.getD i Value.none)) c') (by simp)
      refine k D h'' _ F'' e'' o1 o2 ⟨D, _, rfl, hDn.2.1, ⟨_, _, hDn.1, rfl, rfl, rfl⟩, ?_⟩
      show Paired _ (p.toList.map fun i => items.toList.getD i Value.none) _
      have lt : ∀ i ∈ p.toList, i < xs.length := fun i hi => by
        have := (Array.perm_iff_toList_perm.mp pv.perm).mem_iff.mp hi
        simpa using this
      generalize p.toList = is at lt
      induction is with
      | nil => exact .nil
      | cons i is ih => exact .cons (atR e'' i (lt i (by simp))) (ih fun j hj => lt j (by simp [hj]))

theorem sort_short {a : Addr} {vs : List Value} {n : Nat} {P : PySem.Fin → Shared → Prop} (ho : s.heap.get? a = some (seqObj "list" vs.toArray n)) (hlt : vs.length < 2)
    (h : P (.done (.ret .none)) { s with heap := sortedHeap s.heap a vs ((vs.toArray.zip vs.toArray).map (·.2)) }) : wpAny (model prog w) A (Builtin.«list.sort» ⟨[.ref a], []⟩) P E s := by
  rw [list_sort_plain]
  have ha : a < s.heap.objs.size := Heap.lt_size ho
  refine wpAny_bind (listItems_at ho rfl ?_)
  refine wpAny_bind (listUpdate_at ho rfl ?_)
  obtain ⟨e1, ho1⟩ : ∃ e1, (s.heap.update a (Obj.mapSeq fun _ => #[])).get? a = some (seqObj "list" #[] e1) := ⟨_, get?_update_seq ho (fun _ => #[])⟩
  refine wpAny_bind (seqEpoch_at ho1 rfl ?_)
  refine wpAny_bind (wpAny_newTuple ?_)
  refine wpAny_bind (wpAny_newList ?_)
  refine wpAny_holding ?_
  have ho6 : (((s.heap.update a (Obj.mapSeq fun _ => #[])).push (seqObj "tuple" vs.toArray 0)).push (seqObj "list" #[] 0)).get? a = some (seqObj "list" #[] e1) := by
    rw [Heap.get?_push_ne _ _ _ (by rw [size_push', Heap.size_update]; exact Nat.ne_of_lt (Nat.lt_succ_of_lt ha)), Heap.get?_push_ne _ _ _ (by rw [Heap.size_update]; exact Nat.ne_of_lt ha)]
    exact ho1
  show wpAny (model prog w) A _ P E { s with heap := ((s.heap.update a (Obj.mapSeq fun _ => #[])).push (seqObj "tuple" vs.toArray 0)).push (seqObj "list" #[] 0) }
  dsimp only
  have h2 : vs.toArray.size < 2 := by simpa using hlt
  rw [if_pos h2, if_pos h2]
  refine wpAny_bind (wpAny_pure ?_)
  rw [StateT.run_pure]
  refine wpAny_bind (wpAny_pure ?_)
  dsimp only
  refine wpAny_bind (seqEpoch_at ho6 rfl ?_)
  refine wpAny_bind (listUpdate_at ho6 rfl ?_ (hsz2 := by rw [Array.size_map]; show (pairsOf vs).size ≤ _; rw [pairsOf_size, sizeLine_eq]; omega))
  simp only [bne_self_eq_false, Bool.false_eq_true, if_false]
  exact wpAny_pure h

/-- sorted(v) of no list or one -/
theorem sorted_short {l : Addr} {vs : List Value} {Q : Value → Shared → Prop} (hl : s.heap.IsList l vs.toArray) (hlt : vs.length < 2)
    (h : Q (.ref (s.heap.objs.size + 1)) { s with heap := sortedAll s.heap vs ((vs.toArray.zip vs.toArray).map (·.2)) }) : wpAny (model prog w) A (call (.builtin "sorted") [.ref l]) Q E s := by
  refine Calls.call_function_entry kind_sorted plain_sorted entry_sorted (args_sorted1 _) ?_
  unfold Builtin.«sorted»
  refine wpAny_bind (m := checkCount "sorted" 1 1 _) (wpAny_pure ?_)
  refine wpAny_bind (collect_list hl ?_)
  refine wpAny_bind (wpAny_newList ?_)
  have hsz : ((s.heap.push (seqObj "list" #[] 0)).update s.heap.objs.size (Obj.mapSeq (· ++ vs.toArray))).objs.size = s.heap.objs.size + 1 := by
    rw [Heap.size_update, size_push']
  have hoL : (((s.heap.push (seqObj "list" #[] 0)).update s.heap.objs.size (Obj.mapSeq (· ++ vs.toArray))).push (seqObj "list" vs.toArray 0)).get? (s.heap.objs.size + 1) = some (seqObj "list" vs.toArray 0) := by
    rw [← hsz]; exact Heap.get?_push_size _ rfl
  show wpAny _ _ _ _ _ { s with heap := ((s.heap.push (seqObj "list" #[] 0)).update s.heap.objs.size (Obj.mapSeq (· ++ vs.toArray))).push (seqObj "list" vs.toArray 0) }
  rw [hsz]
  refine wpAny_bind (wpAny_holding (wpAny_call_entry slot_list_sort ⟨_, hoL, rfl⟩ entry_list_sort (sort_short hoL hlt ⟨_, rfl, ?_⟩) (args_list_sort _)))
  exact wpAny_pure ⟨_, rfl, h⟩

theorem srt_short {β : Type} {c : β → β → Ordering} {xs : List β} (h : xs.length < 2) : Srt c xs := by
  match xs, h with
  | [], _ => exact .nil
  | [x], _ => exact List.pairwise_singleton _ _

/-- sorted(v) of lists, any number -/
theorem con_sortL {β : Type} {R : Rel β} {c : β → β → Ordering} {n : Nat} (O : Ordd R c n) (Lc : LinO (cmpL c)) (hu : A.units + n + 4 < cLine) {h₀ : Heap} {L : Addr} {m : Str → Option Value} (F : Fr h₀ L s.heap m) {v : Value} {xs : List (List β)} (hv : (rL (rL R)).r (· ≠ L) s.heap v xs)
    (h64 : xs.length < 64) {Q : Value → Shared → Prop}
    (k : ∀ D h' zs, Fr h₀ L h' m → (∀ b o, b ≠ L → s.heap.get? b = some o → h'.get? b = some o) → zs.Perm xs → Srt (cmpL c) zs → (rL (rL R)).r (· ≠ L) h' (.ref D) zs → Q (.ref D) { s with heap := h' }) :
    wpAny (model prog w) A (call (.builtin "sorted") [v]) Q E s := by
  by_cases h2 : 2 ≤ xs.length
  · exact sortedL O Lc hu F hv h2 h64 k
  · obtain ⟨l, items, rfl, _, hl, hp⟩ := hv
    have hlen : items.size = xs.length := by have := hp.length; simpa using this
    have hl' : s.heap.IsList l items.toList.toArray := by simpa using hl.isList
    refine sorted_short hl' (by simp; omega) ?_
    have e : ((items.toList.toArray.zip items.toList.toArray).map (·.2)) = items := by
      apply Array.toList_inj.mp
      rw [Array.toList_map, Array.toList_zip]
      exact List.map_snd_zip (Nat.le_refl _)
    rw [e]
    obtain ⟨ee, he⟩ := sortedAll_at s.heap items.toList items
    have old : Ext s.heap (sortedAll s.heap items.toList items) := fun b o q => sortedAll_old q
    have hL : L < s.heap.objs.size := F.ns.lt
    refine k _ _ xs (F.keeps old) (fun b o _ q => old b o q) (.refl _) (srt_short (by omega)) ⟨_, items, rfl, Nat.ne_of_gt (Nat.lt_succ_of_lt hL), ⟨_, _, he, rfl, rfl, rfl⟩, Paired.mono (fun _ _ z => Rel.stab _ z fun b o hb q => ⟨hb, old b o q⟩) hp⟩

theorem rise_srt : ∀ (l : List Str) (x : Str), risingS x l = true → Srt c0 ((x :: l).map fun z => z.cps.toList)
  | [], x, _ => List.pairwise_singleton _ _
  | y :: l, x, h => by
    have h : (!Spec.ltCps y.cps.toList x.cps.toList && risingS y l) = true := h
    rw [Bool.and_eq_true] at h
    have ih := rise_srt l y h.2
    have h1 : c0 x.cps.toList y.cps.toList ≠ .gt := by
      intro e
      have e2 := c0_gt x.cps.toList y.cps.toList
      rw [e] at e2
      have h1 := h.1
      rw [ltCps_eq, ← e2] at h1
      exact absurd h1 (by decide)
    refine List.pairwise_cons.mpr ⟨fun z hz => ?_, ih⟩
    rcases List.mem_cons.mp hz with rfl | hz
    · exact h1
    · exact c0_lin.tr _ _ _ h1 ((List.pairwise_cons.mp ih).1 z hz)

/-- sorted(v) of texts -/
theorem con_sortS {X : Addr → Prop} {v : Value} {xs : List (List Nat)} (hv : (rL rS).r X s.heap v xs) (h64 : xs.length < 64) :
    Ev prog w A (call (.builtin "sorted") [v]) s (fun z s' => ∃ zs, zs.Perm xs ∧ Srt c0 zs ∧ (rL rS).r (New s.heap) s'.heap z zs) := by
  obtain ⟨l, items, rfl, _, hl, hp⟩ := hv
  have hlen : items.size = xs.length := by have := hp.length; simpa using this
  intro E
  have hl' : s.heap.IsList l items.toList.toArray := by simpa using hl.isList
  refine sorted_strs hl' (strsAre_of hp) (by simp; omega) fun out ss' h1 h2 h3 => ?_
  obtain ⟨ee, he⟩ := sortedAll_at s.heap items.toList out
  have old : Ext s.heap (sortedAll s.heap items.toList out) := fun b o q => sortedAll_old q
  have back : (ss'.map fun z : Str => z.cps.toList).map mkS = ss' := by rw [List.map_map]; exact List.map_id' ss'
  refine ⟨kOf old, ss'.map fun z => z.cps.toList, ?_, ?_, ⟨_, out, rfl, Heap.get?_none_of_le (Nat.le_succ _), ⟨_, _, he, rfl, rfl, rfl⟩, paired_of (by rw [back]; exact h1)⟩⟩
  · have := h2.map fun z : Str => z.cps.toList
    rw [List.map_map] at this
    have e : (xs.map ((fun z : Str => z.cps.toList) ∘ mkS)) = xs := by
      have : ((fun z : Str => z.cps.toList) ∘ mkS) = id := by funext x; simp
      rw [this, List.map_id]
    rwa [e] at this
  · cases ss' with
    | nil => exact .nil
    | cons x l => exact rise_srt l x h3
end
end Mine
end

/-! text P1 -/
section
open PySem PySem.W PyProof.Rows
set_option Elab.async false
set_option maxRecDepth 100000
namespace Mine

/-! ### reading back what was written -/
def qt (u : List Nat) : List Nat := 34 :: (u ++ [34])

theorem run_append (x y : List Nat) (p : PS) : (x ++ y).foldl pstep p = y.foldl pstep (x.foldl pstep p) := List.foldl_append
theorem run_esc (u : List Nat) : ∀ (res : List (List Nat)) (part : List Nat), (u.flatMap esc).foldl pstep ⟨res, part, false, true⟩ = ⟨res, part ++ u, false, true⟩ := by
  induction u with
  | nil => intro res part; simp
  | cons c u ih =>
    intro res part
    rw [List.flatMap_cons, run_append]
    have h1 : (esc c).foldl pstep ⟨res, part, false, true⟩ = ⟨res, part ++ [c], false, true⟩ := by
      unfold esc
      split
      · rename_i h
        rcases h with rfl | rfl <;> simp [pstep]
      · rename_i h
        have h92 : c ≠ 92 := fun e => h (.inl e)
        have h34 : c ≠ 34 := fun e => h (.inr e)
        simp [pstep, h92, h34]
    rw [h1, ih]
    simp
theorem run_quo (u : List Nat) (res : List (List Nat)) : (quo u).foldl pstep ⟨res, [], false, false⟩ = ⟨res, qt u, false, false⟩ := by
  unfold quo
  rw [List.foldl_cons]
  have h1 : pstep ⟨res, [], false, false⟩ 34 = ⟨res, [34], false, true⟩ := by simp [pstep]
  rw [h1, run_append, run_esc]
  simp [pstep, qt]
theorem run_written : ∀ (us : List (List Nat)) (res : List (List Nat)), us ≠ [] → (written us).foldl pstep ⟨res, [], false, false⟩ = ⟨res ++ (us.map qt).dropLast, (us.map qt).getLastD [], false, false⟩
  | [], _, h => absurd rfl h
  | [u], res, _ => by
    show (joinL [44] [quo u]).foldl pstep _ = _
    simp only [joinL]
    rw [run_quo]; simp
  | u :: v :: us, res, _ => by
    have e : written (u :: v :: us) = quo u ++ ([44] ++ written (v :: us)) := by simp [written, joinL]
    rw [e, run_append, run_quo, run_append]
    have h1 : [44].foldl pstep ⟨res, qt u, false, false⟩ = ⟨res ++ [qt u], [], false, false⟩ := by simp [pstep]
    rw [h1, run_written (v :: us) _ (by simp)]
    simp [List.dropLast]
theorem pend_written (us : List (List Nat)) : pend (pfold (written us)) = us.map qt := by
  by_cases h : us = []
  · subst h; simp [written, joinL, pfold, pend]
  · unfold pfold
    rw [run_written us [] h]
    have hne : us.map qt ≠ [] := by simpa using h
    have hl : (us.map qt).getLastD [] = (us.map qt).getLast hne := by rw [List.getLastD_eq_getLast?, List.getLast?_eq_some_getLast hne]; rfl
    have hq : (us.map qt).getLast hne ≠ [] := by
      have := List.getLast_mem hne
      obtain ⟨u, _, e⟩ := List.mem_map.mp this
      rw [← e]; simp [qt]
    unfold pend
    simp only [List.nil_append]
    rw [hl, if_neg hq]
    exact List.dropLast_concat_getLast hne
theorem strp_qt (u : List Nat) : strp (qt u) = qt u := by
  have hs : Unicode.isSpace 34 = false := by decide +kernel
  have hl : (mkS (qt u)).cps.toList = qt u := by simp
  have lo : stripLo Unicode.isSpace true (mkS (qt u)) = 0 := by
    unfold stripLo
    rw [hl, if_pos rfl]
    unfold qt
    rw [List.takeWhile_cons, hs]; rfl
  have hi : stripHi Unicode.isSpace true (mkS (qt u)) 0 = (mkS (qt u)).length := by
    unfold stripHi
    rw [hl, if_pos rfl, List.drop_zero]
    have : (qt u).reverse = 34 :: (u.reverse ++ [34]) := by simp [qt]
    rw [this, List.takeWhile_cons, hs]; rfl
  have same : stripSame Unicode.isSpace true true (mkS (qt u)) = true := by
    unfold stripSame
    rw [lo, hi]; simp
  unfold strp Txt.strip Txt.stripBy
  rw [if_pos same]
theorem parse_written (us : List (List Nat)) : parse (written us) = us.map qt := by
  unfold parse
  rw [pend_written, List.map_map]
  exact List.map_congr_left fun u _ => strp_qt u
theorem cut_qt (u : List Nat) : cut (qt u) = u := by
  simp [cut, qt]

/-! ### orders of codes -/
theorem c0_cons (a b : Nat) (x y : List Nat) : c0 (a :: x) (b :: y) = match cN a b with | .eq => c0 x y | o => o := rfl
theorem c0_pre (p x y : List Nat) : c0 (p ++ x) (p ++ y) = c0 x y := by
  induction p with
  | nil => rfl
  | cons a p ih => show (match cN a a with | .eq => c0 (p ++ x) (p ++ y) | o => o) = _; rw [cN_lin.rf]; exact ih
theorem c0_lt_cons {a b : Nat} (h : a < b) (x y : List Nat) : c0 (a :: x) (b :: y) = .lt := by rw [c0_cons]; simp [cN, h]
theorem c0_gt_cons {a b : Nat} (h : b < a) (x y : List Nat) : c0 (a :: x) (b :: y) = .gt := by rw [c0_cons]; simp [cN, h, Nat.not_lt.mpr (Nat.le_of_lt h)]

/-- the order is decided within the code -/
def Dec {α : Type} (P : α → Prop) (f : α → List Nat) (c : α → α → Ordering) : Prop := ∀ a b, P a → P b → c a b ≠ .eq → ∀ u v, c0 (f a ++ u) (f b ++ v) = c a b

theorem Dec.pre {α : Type} {P : α → Prop} {f : α → List Nat} {c : α → α → Ordering} (D : Dec P f c) (p : List Nat) : Dec P (fun a => p ++ f a) c := fun a b ha hb h u v => by
  show c0 ((p ++ f a) ++ u) ((p ++ f b) ++ v) = _
  rw [List.append_assoc, List.append_assoc, c0_pre]
  exact D a b ha hb h u v

/-- a list, closed by τ that lies below every code -/
theorem Dec.list {α : Type} {P : α → Prop} {f : α → List Nat} {c : α → α → Ordering} (D : Dec P f c) (L : LinO c) {τ : List Nat} (ht : ∀ a, P a → ∀ u v, c0 (τ ++ u) (f a ++ v) = .lt) :
    Dec (fun l => ∀ a ∈ l, P a) (fun l => l.flatMap f ++ τ) (cmpL c) := by
  intro a
  induction a with
  | nil =>
    intro b _ hb h u v
    cases b with
    | nil => exact absurd rfl h
    | cons y b =>
      show c0 (τ ++ u) ((y :: b).flatMap f ++ τ ++ v) = .lt
      rw [List.flatMap_cons, List.append_assoc, List.append_assoc]
      exact ht y (hb y (by simp)) _ _
  | cons x a ih =>
    intro b ha hb h u v
    cases b with
    | nil =>
      show c0 ((x :: a).flatMap f ++ τ ++ u) (τ ++ v) = .gt
      rw [List.flatMap_cons, List.append_assoc, List.append_assoc, c0_lin.sw (τ ++ v), ht x (ha x (by simp))]; rfl
    | cons y b =>
      show c0 ((x :: a).flatMap f ++ τ ++ u) ((y :: b).flatMap f ++ τ ++ v) = (match c x y with | .eq => cmpL c a b | o => o)
      have h : (match c x y with | .eq => cmpL c a b | o => o) ≠ .eq := h
      rw [List.flatMap_cons, List.flatMap_cons, List.append_assoc, List.append_assoc, List.append_assoc, List.append_assoc]
      cases hxy : c x y with
      | eq =>
        have e := L.eq x y hxy
        subst e
        rw [hxy] at h
        rw [c0_pre]
        have := ih b (fun z hz => ha z (by simp [hz])) (fun z hz => hb z (by simp [hz])) h u v
        simpa [List.append_assoc] using this
      | lt => rw [D x y (ha x (by simp)) (hb y (by simp)) (by rw [hxy]; simp), hxy]
      | gt => rw [D x y (ha x (by simp)) (hb y (by simp)) (by rw [hxy]; simp), hxy]
end Mine
end

/-! text P2 -/
section
open PySem PySem.W PyProof.Rows
set_option Elab.async false
set_option maxRecDepth 100000
namespace Mine

theorem headDec {P : Nat → Prop} {f : Nat → List Nat} (hf : ∀ a, P a → ∃ r, f a = a :: r) : Dec P f cN := fun a b ha hb h u v => by
  obtain ⟨r, hr⟩ := hf a ha
  obtain ⟨q, hq⟩ := hf b hb
  rw [hr, hq]
  show (match cN a b with | .eq => _ | o => o) = _
  cases e : cN a b with
  | eq => exact absurd e h
  | lt => rfl
  | gt => rfl

theorem Dec.plain {α : Type} {P : α → Prop} {g : α → List Nat} {c : α → α → Ordering} (D : Dec P g c) (L : LinO c) (hg : ∀ a, g a ≠ []) : ∀ (a b : List α), (∀ x ∈ a, P x) → (∀ x ∈ b, P x) → c0 (a.flatMap g) (b.flatMap g) = cmpL c a b
  | [], [], _, _ => rfl
  | [], y :: b, _, _ => by
    rw [List.flatMap_cons, List.flatMap_nil]
    cases h : g y with
    | nil => exact absurd h (hg y)
    | cons z r => rfl
  | x :: a, [], _, _ => by
    rw [List.flatMap_cons, List.flatMap_nil]
    cases h : g x with
    | nil => exact absurd h (hg x)
    | cons z r => rfl
  | x :: a, y :: b, ha, hb => by
    rw [List.flatMap_cons, List.flatMap_cons]
    show _ = (match c x y with | .eq => cmpL c a b | o => o)
    cases hxy : c x y with
    | eq =>
      have e := L.eq x y hxy
      subst e
      rw [c0_pre]
      exact Dec.plain D L hg a b (fun z hz => ha z (by simp [hz])) fun z hz => hb z (by simp [hz])
    | lt => rw [D x y (ha x (by simp)) (hb y (by simp)) (by rw [hxy]; simp), hxy]
    | gt => rw [D x y (ha x (by simp)) (hb y (by simp)) (by rw [hxy]; simp), hxy]

theorem cmpL_map {α β : Type} {P : α → Prop} {f : α → β} {c : α → α → Ordering} {c' : β → β → Ordering} (h : ∀ a b, P a → P b → c' (f a) (f b) = c a b) : ∀ (x y : List α), (∀ a ∈ x, P a) → (∀ a ∈ y, P a) → cmpL c' (x.map f) (y.map f) = cmpL c x y
  | [], [], _, _ => rfl
  | [], _ :: _, _, _ => rfl
  | _ :: _, [], _, _ => rfl
  | a :: x, b :: y, hx, hy => by
    show (match c' (f a) (f b) with | .eq => cmpL c' (x.map f) (y.map f) | o => o) = (match c a b with | .eq => cmpL c x y | o => o)
    rw [h a b (hx a (by simp)) (hy b (by simp)), cmpL_map h x y (fun z hz => hx z (by simp [hz])) fun z hz => hy z (by simp [hz])]

abbrev SgT (t : List Nat) : Prop := ∀ c ∈ t, Sg c
abbrev SgI (x : List (List Nat)) : Prop := ∀ t ∈ x, SgT t
abbrev SgR (x : List (List (List Nat))) : Prop := ∀ t ∈ x, SgI t

theorem sg_ge {c : Nat} (h : Sg c) : 92 ≤ c := by rcases h with rfl | rfl | rfl | rfl <;> decide
theorem dec_esc : Dec Sg esc cN := headDec fun a ha => by rcases ha with rfl | rfl | rfl | rfl <;> exact ⟨_, rfl⟩
theorem dec_esc2 : Dec Sg (fun a => (esc a).flatMap esc) cN := headDec fun a ha => by rcases ha with rfl | rfl | rfl | rfl <;> exact ⟨_, rfl⟩
theorem dec_one : Dec Sg (fun a => [a]) cN := headDec fun a _ => ⟨_, rfl⟩

theorem dec_quo : Dec SgT quo c0 := by
  have := (Dec.list dec_esc cN_lin (τ := [34]) fun a ha u v => by
    rcases ha with rfl | rfl | rfl | rfl <;> exact c0_lt_cons (by decide) _ _).pre [34]
  exact this
def E2 (t : List Nat) : List Nat := (quo t).flatMap esc
theorem E2_eq (t : List Nat) : E2 t = [92, 34] ++ (t.flatMap (fun a => (esc a).flatMap esc) ++ [92, 34]) := by
  unfold E2 quo
  rw [List.flatMap_cons, List.flatMap_append, List.flatMap_assoc]
  rfl
theorem dec_E2 : Dec SgT E2 c0 := by
  have := (Dec.list dec_esc2 cN_lin (τ := [92, 34]) fun a ha u v => by
    rcases ha with rfl | rfl | rfl | rfl
    · show c0 (92 :: 34 :: u) (92 :: 92 :: (92 :: 92 :: v)) = .lt
      rw [c0_cons, cN_lin.rf]
      exact c0_lt_cons (by decide) _ _
    all_goals exact c0_lt_cons (by decide) _ _).pre [92, 34]
  intro a b ha hb h u v
  rw [E2_eq, E2_eq]
  exact this a b ha hb h u v

theorem joinL_tail (e : List Nat → List Nat) : ∀ (t : List Nat) (r : List (List Nat)), joinL [44] ((t :: r).map e) = e t ++ r.flatMap (fun t => 44 :: e t)
  | t, [] => by simp [joinL]
  | t, s :: r => by
    have := joinL_tail e s r
    simp only [List.map_cons] at this ⊢
    rw [joinL, this]
    simp
theorem written_esc : ∀ (x : List (List Nat)), (written x).flatMap esc = joinL [44] (x.map E2)
  | [] => rfl
  | t :: r => by
    unfold written
    rw [joinL_tail, joinL_tail, List.flatMap_append, List.flatMap_assoc]
    congr 1

/-- the code of an inner list in a tree's writing -/
theorem dec_W : Dec SgI (fun x => quo (written x)) c1 := by
  have tl := Dec.list (dec_E2.pre [44]) c0_lin (τ := [34]) fun a _ u v => c0_lt_cons (by decide) _ _
  intro x y hx hy h u v
  show c0 ((34 :: ((written x).flatMap esc ++ [34])) ++ u) ((34 :: ((written y).flatMap esc ++ [34])) ++ v) = _
  rw [written_esc, written_esc]
  show c0 ([34] ++ (joinL [44] (x.map E2) ++ [34] ++ u)) ([34] ++ (joinL [44] (y.map E2) ++ [34] ++ v)) = _
  rw [c0_pre]
  cases x with
  | nil =>
    cases y with
    | nil => exact absurd rfl h
    | cons s q =>
      rw [joinL_tail, E2_eq]
      exact c0_lt_cons (by decide) _ _
  | cons t r =>
    cases y with
    | nil =>
      rw [joinL_tail, E2_eq]
      exact c0_gt_cons (by decide) _ _
    | cons s q =>
      rw [joinL_tail, joinL_tail]
      have h : (match c0 t s with | .eq => c1 r q | o => o) ≠ .eq := h
      show _ = (match c0 t s with | .eq => c1 r q | o => o)
      simp only [List.append_assoc]
      cases hts : c0 t s with
      | eq =>
        have e := c0_lin.eq t s hts
        subst e
        rw [hts] at h
        rw [c0_pre]
        have := tl r q (fun z hz => hx z (by simp [hz])) (fun z hz => hy z (by simp [hz])) h u v
        simpa [List.append_assoc] using this
      | lt => rw [dec_E2 t s (hx t (by simp)) (hy s (by simp)) (by rw [hts]; simp), hts]
      | gt => rw [dec_E2 t s (hx t (by simp)) (hy s (by simp)) (by rw [hts]; simp), hts]

def txt (tr : List (List (List Nat))) : List Nat := written (tr.map written)
def row (tr : List (List (List Nat))) : List (List Nat) := tr.map fun x => qt (written x)
def dp (tr : List (List (List Nat))) : List (List (List Nat)) := tr.map fun x => x.map qt

theorem ord_txt (a b : List (List (List Nat))) (ha : SgR a) (hb : SgR b) : c0 (txt a) (txt b) = c2 a b := by
  have form : ∀ x r, txt (x :: r) = quo (written x) ++ r.flatMap (fun x => 44 :: quo (written x)) := fun x r => by
    unfold txt written
    rw [List.map_cons, joinL_tail]
    rw [List.flatMap_map]
  have D := dec_W
  cases a with
  | nil =>
    cases b with
    | nil => rfl
    | cons y b => rw [form]; rfl
  | cons x a =>
    cases b with
    | nil => rw [form]; rfl
    | cons y b =>
      rw [form, form]
      show _ = (match c1 x y with | .eq => c2 a b | o => o)
      cases hxy : c1 x y with
      | eq =>
        have e := c1_lin.eq x y hxy
        subst e
        rw [c0_pre]
        exact Dec.plain (dec_W.pre [44]) c1_lin (fun _ => by simp) a b (fun z hz => ha z (by simp [hz])) fun z hz => hb z (by simp [hz])
      | lt => rw [D x y (ha x (by simp)) (hb y (by simp)) (by rw [hxy]; simp), hxy]
      | gt => rw [D x y (ha x (by simp)) (hb y (by simp)) (by rw [hxy]; simp), hxy]

theorem ord_in (x y : List (List Nat)) (hx : SgI x) (hy : SgI y) : c0 (qt (written x)) (qt (written y)) = c1 x y := by
  have tl := Dec.list (dec_quo.pre [44]) c0_lin (τ := [34]) fun a _ u v => c0_lt_cons (by decide) _ _
  show c0 ([34] ++ (joinL [44] (x.map quo) ++ [34])) ([34] ++ (joinL [44] (y.map quo) ++ [34])) = _
  rw [c0_pre]
  cases x with
  | nil =>
    cases y with
    | nil => rfl
    | cons s q =>
      rw [joinL_tail]
      show c0 [34] (34 :: _) = .lt
      rw [c0_cons, cN_lin.rf]
      cases s with
      | nil => rfl
      | cons c s => 
        rcases hy _ (List.mem_cons_self ..) c (by simp) with rfl | rfl | rfl | rfl <;> rfl
  | cons t r =>
    cases y with
    | nil =>
      rw [joinL_tail]
      show c0 (34 :: _) [34] = .gt
      rw [c0_cons, cN_lin.rf]
      cases t with
      | nil => rfl
      | cons c s => 
        rcases hx _ (List.mem_cons_self ..) c (by simp) with rfl | rfl | rfl | rfl <;> rfl
    | cons s q =>
      rw [joinL_tail, joinL_tail]
      show _ = (match c0 t s with | .eq => c1 r q | o => o)
      simp only [List.append_assoc]
      cases hts : c0 t s with
      | eq =>
        have e := c0_lin.eq t s hts
        subst e
        rw [c0_pre]
        show _ = c1 r q
        by_cases h : c1 r q = .eq
        · have e := c1_lin.eq r q h
          subst e
          rw [h]; exact c0_lin.rf _
        · have := tl r q (fun z hz => hx z (by simp [hz])) (fun z hz => hy z (by simp [hz])) h [] []
          simpa [List.append_assoc] using this
      | lt => rw [dec_quo t s (hx t (by simp)) (hy s (by simp)) (by rw [hts]; simp), hts]
      | gt => rw [dec_quo t s (hx t (by simp)) (hy s (by simp)) (by rw [hts]; simp), hts]
theorem ord_row (a b : List (List (List Nat))) (ha : SgR a) (hb : SgR b) : c1 (row a) (row b) = c2 a b := cmpL_map (P := SgI) ord_in a b ha hb

theorem ord_qt (s t : List Nat) (hs : SgT s) (ht : SgT t) : c0 (qt s) (qt t) = c0 s t := by
  by_cases h : c0 s t = .eq
  · have e := c0_lin.eq s t h
    subst e
    rw [h]; exact c0_lin.rf _
  · have := ((Dec.list dec_one cN_lin (τ := [34]) fun a ha u v => by
      rcases ha with rfl | rfl | rfl | rfl <;> exact c0_lt_cons (by decide) _ _).pre [34]) s t hs ht h [] []
    simpa [qt] using this
theorem ord_dp (a b : List (List (List Nat))) (ha : SgR a) (hb : SgR b) : c2 (dp a) (dp b) = c2 a b :=
  cmpL_map (P := SgI) (fun x y hx hy => cmpL_map (P := SgT) ord_qt x y hx hy) a b ha hb

theorem parse_txt (a : List (List (List Nat))) : parse (txt a) = row a := by
  unfold txt row
  rw [parse_written, List.map_map]; rfl
theorem read_row (a : List (List (List Nat))) : (row a).map (fun it => parse (cut it)) = dp a := by
  unfold row dp
  rw [List.map_map]
  exact List.map_congr_left fun x _ => by simp only [Function.comp]; rw [cut_qt, parse_written]
theorem read_txt (a : List (List (List Nat))) : readT (txt a) = dp a := by
  unfold readT; rw [parse_txt, read_row]
end Mine
end

/-! text P4 -/
section
open PySem PySem.W PyProof.Rows
set_option Elab.async false
set_option maxRecDepth 100000
namespace Mine

theorem perm_map {α β : Type} (f : α → β) {l : List β} : ∀ {m : List β}, l.Perm m → ∀ ts : List α, m = ts.map f → ∃ as : List α, as.Perm ts ∧ l = as.map f := by
  intro m h
  induction h with
  | nil => intro ts e; cases ts with
    | nil => exact ⟨[], .refl _, rfl⟩
    | cons a ts => cases e
  | cons x _ ih => intro ts e; cases ts with
    | nil => cases e
    | cons a ts =>
      simp only [List.map_cons, List.cons.injEq] at e
      obtain ⟨as, h1, h2⟩ := ih ts e.2
      exact ⟨a :: as, h1.cons a, by rw [e.1, h2]; rfl⟩
  | swap x y l => intro ts e; cases ts with
    | nil => cases e
    | cons a ts => cases ts with
      | nil => cases e
      | cons b ts =>
        simp only [List.map_cons, List.cons.injEq] at e
        exact ⟨b :: a :: ts, .swap a b ts, by rw [e.1, e.2.1, e.2.2]; rfl⟩
  | trans _ _ ih1 ih2 => intro ts e
                         obtain ⟨bs, h1, h2⟩ := ih2 ts e
                         obtain ⟨as, h3, h4⟩ := ih1 bs h2
                         exact ⟨as, h3.trans h1, h4⟩

theorem srt_unique {β : Type} {c : β → β → Ordering} (L : LinO c) : ∀ {a b : List β}, a.Perm b → Srt c a → Srt c b → a = b
  | [], b, h, _, _ => h.nil_eq
  | x :: a, [], h, _, _ => absurd h.length_eq (by simp)
  | x :: a, y :: b, h, ha, hb => by
    have hx : x ∈ y :: b := h.mem_iff.mp (by simp)
    have hy : y ∈ x :: a := h.mem_iff.mpr (by simp)
    have e : x = y := by
      rcases List.mem_cons.mp hx with e | hx
      · exact e
      · rcases List.mem_cons.mp hy with e | hy
        · exact e.symm
        · have h1 := (List.pairwise_cons.mp ha).1 y hy
          have h2 := (List.pairwise_cons.mp hb).1 x hx
          refine L.eq x y ?_
          rw [L.sw x y] at h2
          cases hc : c x y with
          | eq => rfl
          | lt => rw [hc] at h2; exact absurd rfl h2
          | gt => exact absurd hc h1
    subst e
    rw [srt_unique L (List.perm_cons x |>.mp h) (List.pairwise_cons.mp ha).2 (List.pairwise_cons.mp hb).2]

theorem dropE_map {α β : Type} {P : α → Prop} {f : α → β} {c : α → α → Ordering} {c' : β → β → Ordering} (h : ∀ a b, P a → P b → c' (f a) (f b) = c a b) {x : α} (hx : P x) : ∀ (l : List α), (∀ a ∈ l, P a) → dropE c' (f x) (l.map f) = (dropE c x l).map f
  | [], _ => rfl
  | y :: l, hl => by
    unfold dropE
    rw [List.map_cons, List.dropWhile_cons, List.dropWhile_cons, h y x (hl y (by simp)) hx]
    split
    · exact dropE_map h hx l fun a ha => hl a (by simp [ha])
    · rfl
theorem dropE_sub {β : Type} {c : β → β → Ordering} {x : β} {l : List β} : (dropE c x l).Sublist l := List.dropWhile_sublist _

theorem sld_map {α β : Type} {P : α → Prop} {f : α → β} {c : α → α → Ordering} {c' : β → β → Ordering} (h : ∀ a b, P a → P b → c' (f a) (f b) = c a b) : ∀ (n : Nat) (xs ys : List α), xs.length + ys.length ≤ n → (∀ a ∈ xs, P a) → (∀ a ∈ ys, P a) → sld c' (xs.map f) (ys.map f) = ((sld c xs ys).1.map f, (sld c xs ys).2.map f)
  | _, [], ys, _, _, _ => by rw [List.map_nil, sld_nil_l, sld_nil_l]; rfl
  | _, x :: xs, [], _, _, _ => by rw [List.map_nil, sld_nil_r, sld_nil_r]; rfl
  | 0, _ :: _, _ :: _, hn, _, _ => by simp at hn
  | n + 1, x :: xs, y :: ys, hn, hx, hy => by
    have px := hx x (by simp)
    have py := hy y (by simp)
    have hxs : ∀ a ∈ xs, P a := fun a ha => hx a (by simp [ha])
    have hys : ∀ a ∈ ys, P a := fun a ha => hy a (by simp [ha])
    have lx : (dropE c x xs).length ≤ xs.length := dropE_sub.length_le
    have ly : (dropE c y ys).length ≤ ys.length := dropE_sub.length_le
    have hdx : ∀ a ∈ dropE c x xs, P a := fun a ha => hxs a (dropE_sub.subset ha)
    have hdy : ∀ a ∈ dropE c y ys, P a := fun a ha => hys a (dropE_sub.subset ha)
    simp only [List.length_cons] at hn
    rw [List.map_cons, List.map_cons]
    cases hc : c x y with
    | lt =>
      have hc' : c' (f x) (f y) = .lt := by rw [h x y px py, hc]
      rw [sld_lt hc', sld_lt hc, dropE_map h px xs hxs]
      have := sld_map h n (dropE c x xs) (y :: ys) (by simp; omega) hdx hy
      rw [List.map_cons] at this
      rw [this]; rfl
    | gt =>
      have hc' : c' (f x) (f y) = .gt := by rw [h x y px py, hc]
      rw [sld_gt hc', sld_gt hc, dropE_map h py ys hys]
      have := sld_map h n (x :: xs) (dropE c y ys) (by simp; omega) hx hdy
      rw [List.map_cons] at this
      rw [this]; rfl
    | eq =>
      have hc' : c' (f x) (f y) = .eq := by rw [h x y px py, hc]
      rw [sld_eq hc', sld_eq hc, dropE_map h px xs hxs, dropE_map h py ys hys]
      exact sld_map h n _ _ (by omega) hdx hdy

theorem sld_swap {β : Type} {c : β → β → Ordering} (L : LinO c) : ∀ (n : Nat) (xs ys : List β), xs.length + ys.length ≤ n → sld c ys xs = ((sld c xs ys).2, (sld c xs ys).1)
  | _, [], ys, _ => by rw [sld_nil_l, sld_nil_r]
  | _, x :: xs, [], _ => by rw [sld_nil_l, sld_nil_r]
  | 0, _ :: _, _ :: _, hn => by simp at hn
  | n + 1, x :: xs, y :: ys, hn => by
    have lx : (dropE c x xs).length ≤ xs.length := dropE_sub.length_le
    have ly : (dropE c y ys).length ≤ ys.length := dropE_sub.length_le
    simp only [List.length_cons] at hn
    cases hc : c x y with
    | lt =>
      rw [sld_lt hc, sld_gt (by rw [L.sw x y, hc]; rfl), sld_swap L n (dropE c x xs) (y :: ys) (by simp; omega)]
    | gt =>
      rw [sld_gt hc, sld_lt (by rw [L.sw x y, hc]; rfl), sld_swap L n (x :: xs) (dropE c y ys) (by simp; omega)]
    | eq =>
      rw [sld_eq hc, sld_eq (by rw [L.sw x y, hc]; rfl), sld_swap L n (dropE c x xs) (dropE c y ys) (by omega)]

/-- alone, by the element before -/
def al {β : Type} (c : β → β → Ordering) (Y : List β) (top : β) : Option β → List β → List β
  | _, [] => []
  | p, x :: xs => (if !(Y.any fun y => c y x == .eq) && (p.isNone || (p.any fun q => c q x != .eq) || c x top == .gt) then [x] else []) ++ al c Y top (some x) xs

theorem any_eq {β : Type} {c : β → β → Ordering} (L : LinO c) {Y : List β} {x : β} : (Y.any fun y => c y x == .eq) = true ↔ x ∈ Y := by
  rw [List.any_eq_true]
  constructor
  · rintro ⟨y, hy, e⟩
    rw [← L.eq y x (eq_of_beq e)]; exact hy
  · intro h
    exact ⟨x, h, by rw [L.rf]; rfl⟩

/-- equal ones behind x are passed over -/
theorem al_drop {β : Type} {c : β → β → Ordering} (L : LinO c) {Y : List β} {top x : β} (h : x ∈ Y ∨ c x top ≠ .gt) : ∀ (xs : List β), al c Y top (some x) xs = al c Y top (some x) (dropE c x xs)
  | [] => rfl
  | y :: xs => by
    unfold dropE
    rw [List.dropWhile_cons]
    split
    · rename_i e
      have e := L.eq y x (eq_of_beq e)
      subst e
      have ih := al_drop L h xs
      unfold dropE at ih
      rw [← ih]
      rw [al, if_neg]
      · rfl
      · intro hh
        rw [Bool.and_eq_true] at hh
        rcases h with h | h
        · have := (any_eq L).mpr h
          rw [this] at hh
          exact absurd hh.1 (by simp)
        · have := hh.2
          simp [L.rf] at this
          exact h this
    · rfl
end Mine
end

/-! text P5 -/
section
open PySem PySem.W PyProof.Rows
set_option Elab.async false
set_option maxRecDepth 100000
namespace Mine

theorem dropE_lt {β : Type} {c : β → β → Ordering} (L : LinO c) {x : β} : ∀ {xs : List β}, Srt c (x :: xs) → ∀ z ∈ dropE c x xs, c x z = .lt
  | [], _, z, hz => by simp [dropE] at hz
  | w :: xs, hs, z, hz => by
    obtain ⟨h1, h2⟩ := List.pairwise_cons.mp hs
    unfold dropE at hz
    rw [List.dropWhile_cons] at hz
    split at hz
    · exact dropE_lt L (List.pairwise_cons.mpr ⟨fun a ha => h1 a (by simp [ha]), (List.pairwise_cons.mp h2).2⟩) z hz
    · rename_i hne
      have hxw : c x w = .lt := by
        cases hc : c x w with
        | lt => rfl
        | gt => exact absurd hc (h1 w (by simp))
        | eq =>
          have e := L.eq x w hc
          subst e
          exact absurd (by rw [L.rf]; rfl) hne
      rcases List.mem_cons.mp hz with rfl | hz
      · exact hxw
      · exact L.ltr hxw ((List.pairwise_cons.mp h2).1 z hz)

theorem al_all {β : Type} {c : β → β → Ordering} (L : LinO c) {Y : List β} {top : β} (htm : top ∈ Y) : ∀ (xs : List β) (p : Option β), (∀ y ∈ Y, ∀ x ∈ xs, c y x = .lt) → al c Y top p xs = xs
  | [], _, _ => by simp [al]
  | x :: xs, p, h => by
    have hn : (Y.any fun y => c y x == .eq) = false := by
      rw [Bool.eq_false_iff]
      intro e
      have := h x ((any_eq L).mp e) x (by simp)
      rw [L.rf] at this; cases this
    have ht : c x top = .gt := by rw [L.sw top x, h top htm x (by simp)]; rfl
    rw [al, hn, ht, al_all L htm xs _ fun y hy z hz => h y hy z (by simp [hz])]
    simp

theorem sld_al {β : Type} {c : β → β → Ordering} (L : LinO c) {Y : List β} {top : β} (htm : top ∈ Y) (htop : ∀ y ∈ Y, c y top ≠ .gt) : ∀ (n : Nat) (xs ys pre : List β) (prev : Option β), xs.length + ys.length ≤ n → Srt c xs → Srt c ys → Y = pre ++ ys →
    (∀ p ∈ pre, ∀ x ∈ xs, c p x = .lt) → (∀ q, prev = some q → ∀ x ∈ xs, c q x = .lt) → (sld c xs ys).1 = al c Y top prev xs
  | _, [], ys, _, _, _, _, _, _, _, _ => by rw [sld_nil_l]; simp [al]
  | _, x :: xs, [], pre, prev, _, _, _, hY, hp, _ => by
    rw [sld_nil_r]
    rw [List.append_nil] at hY
    subst hY
    exact (al_all L htm _ _ hp).symm
  | 0, _ :: _, _ :: _, _, _, hn, _, _, _, _, _ => by simp at hn
  | n + 1, x :: xs, y :: ys, pre, prev, hn, hx, hy, hY, hp, hq => by
    have lx : (dropE c x xs).length ≤ xs.length := dropE_sub.length_le
    have ly : (dropE c y ys).length ≤ ys.length := dropE_sub.length_le
    simp only [List.length_cons] at hn
    obtain ⟨hx1, hx2⟩ := List.pairwise_cons.mp hx
    obtain ⟨hy1, hy2⟩ := List.pairwise_cons.mp hy
    have hyY : y ∈ Y := by rw [hY]; simp
    have head : (prev.isNone || (prev.any fun q => c q x != .eq)) = true := by
      cases prev with
      | none => rfl
      | some q => simp [hq q rfl x (by simp)]
    have sx : Srt c (dropE c x xs) := hx2.sublist dropE_sub
    have sy : Srt c (dropE c y ys) := hy2.sublist dropE_sub
    have split : y :: ys = (y :: ys.takeWhile fun z => c z y == .eq) ++ dropE c y ys := by
      show _ = y :: (ys.takeWhile _ ++ ys.dropWhile _)
      rw [List.takeWhile_append_dropWhile]
    have tw : ∀ p ∈ (y :: ys.takeWhile fun z => c z y == .eq), p = y := fun p hp => by
      rcases List.mem_cons.mp hp with rfl | hp
      · rfl
      · have := List.all_takeWhile (p := fun z => c z y == .eq) (l := ys)
        rw [List.all_eq_true] at this
        exact L.eq p y (eq_of_beq (this p hp))
    cases hc : c x y with
    | lt =>
      have hnx : x ∉ Y := by
        intro hm
        rw [hY] at hm
        rcases List.mem_append.mp hm with hm | hm
        · have := hp x hm x (by simp); rw [L.rf] at this; cases this
        · have hle : c y x ≠ .gt := by
            rcases List.mem_cons.mp hm with rfl | hm
            · rw [L.rf]; simp
            · exact hy1 x hm
          rw [L.sw x y, hc] at hle
          exact hle rfl
      have hn1 : (Y.any fun y => c y x == .eq) = false := by
        rw [Bool.eq_false_iff]; intro e; exact hnx ((any_eq L).mp e)
      have htl : c x top ≠ .gt := by rw [L.ltr hc (htop y hyY)]; simp
      rw [sld_lt hc, al, hn1, head]
      simp only [Bool.not_false, Bool.true_or, Bool.and_self, if_true]
      rw [al_drop L (.inr htl)]
      show x :: _ = x :: _
      rw [sld_al L htm htop n (dropE c x xs) (y :: ys) pre (some x) (by simp; omega) sx hy hY (fun p hp' z hz => hp p hp' z (by simp [dropE_sub.subset hz])) (fun q e z hz => by cases e; exact dropE_lt L hx z hz)]
      rfl
    | gt =>
      rw [sld_gt hc]
      have hyx : c y x = .lt := by rw [L.sw x y, hc]; rfl
      refine sld_al L htm htop n (x :: xs) (dropE c y ys) (pre ++ (y :: ys.takeWhile fun z => c z y == .eq)) prev (by simp; omega) hx sy (by rw [List.append_assoc, ← split, hY]) (fun p hp' z hz => ?_) hq
      rcases List.mem_append.mp hp' with h | h
      · exact hp p h z hz
      · rw [tw p h]
        rcases List.mem_cons.mp hz with rfl | hz
        · exact hyx
        · exact L.ltr hyx (hx1 z hz)
    | eq =>
      have e := L.eq x y hc
      subst e
      have hm : (Y.any fun y => c y x == .eq) = true := (any_eq L).mpr hyY
      rw [sld_eq hc, al, hm]
      simp only [Bool.not_true, Bool.false_and, Bool.false_eq_true, if_false, List.nil_append]
      rw [al_drop L (.inl hyY)]
      refine sld_al L htm htop n (dropE c x xs) (dropE c x ys) (pre ++ (x :: ys.takeWhile fun z => c z x == .eq)) (some x) (by omega) sx sy (by rw [List.append_assoc, ← split, hY]) (fun p hp' z hz => ?_) (fun q e z hz => by cases e; exact dropE_lt L hx z hz)
      rcases List.mem_append.mp hp' with h | h
      · exact hp p h z (by simp [dropE_sub.subset hz])
      · rw [tw p h]; exact dropE_lt L hx z hz

theorem alone_al_aux (xs ys : List (List Nat)) : ∀ (rest pre : List (List Nat)), xs = pre ++ rest → ((List.range' pre.length rest.length).filter (alk xs ys)).map (fun k => xs.getD k []) = al c0 ys (ys.getLastD []) pre.getLast? rest
  | [], pre, _ => by simp [al]
  | x :: rest, pre, h => by
    have hg : xs.getD pre.length [] = x := by rw [h]; simp
    have ih := alone_al_aux xs ys rest (pre ++ [x]) (by rw [h]; simp)
    rw [List.length_append, List.length_singleton, List.getLast?_concat] at ih
    rw [List.length_cons, List.range'_succ, List.filter_cons, al, ← ih]
    have hk : alk xs ys pre.length = (!(ys.any fun y => c0 y x == .eq) && (pre.getLast?.isNone || (pre.getLast?.any fun q => c0 q x != .eq) || c0 x (ys.getLastD []) == .gt)) := by
      rcases List.eq_nil_or_concat pre with rfl | ⟨p', q, rfl⟩
      · unfold alk
        rw [hg]; rfl
      · rw [List.concat_eq_append] at *
        have h1 : xs.getD ((p' ++ [q]).length - 1) [] = q := by rw [h]; simp
        unfold alk
        rw [hg, h1, List.getLast?_concat, show ((p' ++ [q]).length == 0) = false by simp]
        rfl
    rw [hk]
    split
    · rw [List.map_cons, hg]; rfl
    · rfl
theorem alone_al (xs ys : List (List Nat)) : alone xs ys = al c0 ys (ys.getLastD []) none xs := by
  have := alone_al_aux xs ys xs [] rfl
  simp only [List.length_nil, List.getLast?_nil] at this
  rw [← this]
  unfold alone
  rw [List.range_eq_range']

theorem sld_alone {xs ys : List (List Nat)} (hx : Srt c0 xs) (hy : Srt c0 ys) (hx0 : xs ≠ []) (hy0 : ys ≠ []) : sld c0 xs ys = (alone xs ys, alone ys xs) := by
  have top : ∀ {Y : List (List Nat)}, Srt c0 Y → Y ≠ [] → Y.getLastD [] ∈ Y ∧ ∀ y ∈ Y, c0 y (Y.getLastD []) ≠ .gt := fun {Y} hs h0 => by
    have e : Y.getLastD [] = Y.getLast h0 := by rw [List.getLastD_eq_getLast?, List.getLast?_eq_some_getLast h0]; rfl
    rw [e]
    refine ⟨List.getLast_mem h0, fun y hy => ?_⟩
    have h1 : Y = Y.dropLast ++ [Y.getLast h0] := (List.dropLast_concat_getLast h0).symm
    rw [h1] at hy
    rcases List.mem_append.mp hy with h | h
    · have hs' := hs
      rw [h1] at hs'
      exact (List.pairwise_append.mp hs').2.2 y h _ (by simp)
    · rw [List.mem_singleton.mp h, c0_lin.rf]; simp
  have a1 := sld_al c0_lin (top hy hy0).1 (top hy hy0).2 (xs.length + ys.length) xs ys [] none (Nat.le_refl _) hx hy rfl (by simp) (by simp)
  have a2 := sld_al c0_lin (top hx hx0).1 (top hx hx0).2 (ys.length + xs.length) ys xs [] none (Nat.le_refl _) hy hx rfl (by simp) (by simp)
  rw [sld_swap c0_lin (xs.length + ys.length) xs ys (Nat.le_refl _)] at a2
  rw [← alone_al] at a1 a2
  exact Prod.ext a1 a2
end Mine
end

/-! text P6 -/
section
open PySem PySem.W PyProof.Rows
set_option Elab.async false
set_option maxRecDepth 100000
namespace Mine

theorem srt_map {α β : Type} {P : α → Prop} {f : α → β} {c : α → α → Ordering} {c' : β → β → Ordering} (h : ∀ a b, P a → P b → c' (f a) (f b) = c a b) {as : List α} (hP : ∀ a ∈ as, P a) : Srt c' (as.map f) ↔ Srt c as := by
  rw [Srt, List.pairwise_map]
  constructor
  · intro q
    refine List.Pairwise.imp_of_mem (fun {a b} ha hb r => ?_) q
    rw [h a b (hP a ha) (hP b hb)] at r; exact r
  · intro q
    refine List.Pairwise.imp_of_mem (fun {a b} ha hb r => ?_) q
    rw [h a b (hP a ha) (hP b hb)]; exact r

/-- sorted writings and sorted deep lists go back to the same trees -/
theorem same_trees {Ts : List (List (List (List Nat)))} (hT : ∀ a ∈ Ts, SgR a) {zs : List (List Nat)} {ws : List (List (List (List Nat)))} (h1 : zs.Perm (Ts.map txt)) (h2 : Srt c0 zs) (h3 : ws.Perm (Ts.map dp)) (h4 : Srt c2 ws) :
    ∃ as : List (List (List (List Nat))), as.Perm Ts ∧ zs = as.map txt ∧ ws = as.map dp := by
  obtain ⟨as, p1, rfl⟩ := perm_map txt h1 Ts rfl
  obtain ⟨bs, p2, rfl⟩ := perm_map dp h3 Ts rfl
  have hA : ∀ a ∈ as, SgR a := fun a ha => hT a (p1.mem_iff.mp ha)
  have hB : ∀ a ∈ bs, SgR a := fun a ha => hT a (p2.mem_iff.mp ha)
  have s1 := (srt_map (P := SgR) ord_txt hA).mp h2
  have s2 := (srt_map (P := SgR) ord_dp hB).mp h4
  have e : as = bs := srt_unique c2_lin (p1.trans p2.symm) s1 s2
  subst e
  exact ⟨as, p1, rfl, rfl⟩

theorem read_sorted {Ts : List (List (List (List Nat)))} (hT : ∀ a ∈ Ts, SgR a) {zs : List (List Nat)} {ws : List (List (List (List Nat)))} (h1 : zs.Perm (Ts.map txt)) (h2 : Srt c0 zs) (h3 : ws.Perm (Ts.map dp)) (h4 : Srt c2 ws) : zs.map readT = ws := by
  obtain ⟨as, _, rfl, rfl⟩ := same_trees hT h1 h2 h3 h4
  rw [List.map_map]
  exact List.map_congr_left fun a _ => read_txt a

theorem read_sld {Ts Us : List (List (List (List Nat)))} (hT : ∀ a ∈ Ts, SgR a) (hU : ∀ a ∈ Us, SgR a) {zs zs' : List (List Nat)} {ws ws' : List (List (List (List Nat)))} (h1 : zs.Perm (Ts.map txt)) (h2 : Srt c0 zs) (h3 : ws.Perm (Ts.map dp)) (h4 : Srt c2 ws)
    (h1' : zs'.Perm (Us.map txt)) (h2' : Srt c0 zs') (h3' : ws'.Perm (Us.map dp)) (h4' : Srt c2 ws') : sld c2 ws ws' = ((sld c0 zs zs').1.map readT, (sld c0 zs zs').2.map readT) := by
  obtain ⟨as, p, rfl, rfl⟩ := same_trees hT h1 h2 h3 h4
  obtain ⟨bs, p', rfl, rfl⟩ := same_trees hU h1' h2' h3' h4'
  have hA : ∀ a ∈ as, SgR a := fun a ha => hT a (p.mem_iff.mp ha)
  have hB : ∀ a ∈ bs, SgR a := fun a ha => hU a (p'.mem_iff.mp ha)
  rw [sld_map (P := SgR) ord_dp _ as bs (Nat.le_refl _) hA hB, sld_map (P := SgR) ord_txt _ as bs (Nat.le_refl _) hA hB]
  simp only [List.map_map]
  have e : readT ∘ txt = dp := by funext a; exact read_txt a
  rw [e]

theorem oI_swap (o : Ordering) : oI o.swap = -oI o := by cases o <;> rfl

/-- every tree is made of signs, and all is small -/
theorem trees_ok (ks : List Nat) : (treesOf ks).length ≤ ks.length + 1 ∧ ∀ tr ∈ treesOf ks, okB ks.length tr := by
  have b := Bnd.fold ks
  refine ⟨by unfold treesOf; simp; exact b.f, fun tr h => ?_⟩
  rcases List.mem_append.mp h with h | h
  · exact b.a tr h
  · rw [List.mem_singleton.mp h]; exact b.t
theorem trees_two (ks : List Nat) : 2 ≤ (treesOf ([5, 1, 4] ++ ks)).length := by
  have aux : ∀ (l : List Nat) (σ : TSt), σ.1.length ≤ (l.foldl tstep σ).1.length := by
    intro l
    induction l with
    | nil => intro σ; exact Nat.le_refl _
    | cons k l ih =>
      intro σ
      refine Nat.le_trans ?_ (ih (tstep σ k))
      unfold tstep
      split
      · simp
      · split
        · simp
        · split <;> simp
  unfold treesOf tfold
  rw [List.foldl_append, List.length_append]
  have := aux ks ([5, 1, 4].foldl tstep ([], [], none))
  have h1 : ([5, 1, 4].foldl tstep ([], [], none)).1.length = 1 := by decide +kernel
  simp only [List.length_singleton]
  omega
theorem okB_sg {n : Nat} {tr : List (List (List Nat))} (h : okB n tr) : SgR tr := fun x hx t ht c hc => ((h.2 x hx).2 t ht).2 c hc
end Mine
end

/-! text L0 -/
section
open PySem PySem.W PyProof.Rows
set_option Elab.async false
set_option maxRecDepth 100000
namespace Mine

theorem wt_le {N : Nat} : ∀ {ts : List (List Nat)}, (∀ t ∈ ts, t.length ≤ N) → wt ts ≤ ts.length * (2 * N + 3)
  | [], _ => by simp [wt]
  | t :: ts, h => by
    have ih := wt_le (ts := ts) fun t ht => h t (by simp [ht])
    have := h t (by simp)
    simp only [wt, List.map_cons, List.sum_cons, List.length_cons] at ih ⊢
    rw [Nat.add_mul]; omega
theorem inn_wt {x : List (List Nat)} (h : okN 12 x) : wt x ≤ 400 ∧ (written x).length ≤ 400 := by
  have h1 := wt_le (N := 12) (ts := x) fun t ht => (h.2 t ht).1
  have h2 := written_len x
  have h3 : x.length * (2 * 12 + 3) ≤ 12 * 27 := Nat.mul_le_mul_right 27 h.1
  omega
theorem tree_wt {tr : List (List (List Nat))} (h : okB 12 tr) : wt (tr.map written) ≤ 10000 ∧ (txt tr).length ≤ 10000 := by
  have h1 := wt_le (N := 400) (ts := tr.map written) fun t ht => by
    obtain ⟨x, hx, rfl⟩ := List.mem_map.mp ht
    exact (inn_wt (h.2 x hx)).2
  have h2 := written_len (tr.map written)
  rw [List.length_map] at h1
  have h3 : tr.length * (2 * 400 + 3) ≤ 12 * 803 := Nat.mul_le_mul_right 803 h.1
  unfold txt
  omega
theorem okB_okW {tr : List (List (List Nat))} (h : okB 12 tr) : okW tr :=
  ⟨fun x hx => ⟨fun t ht => ⟨((h.2 x hx).2 t ht).2, by have := ((h.2 x hx).2 t ht).1; omega⟩, by have := (h.2 x hx).1; omega⟩, by have := h.1; omega⟩
theorem okB_le {n : Nat} {tr : List (List (List Nat))} (hn : n ≤ 12) (h : okB n tr) : okB 12 tr :=
  ⟨by have := h.1; omega, fun x hx => ⟨by have := (h.2 x hx).1; omega, fun t ht => ⟨by have := ((h.2 x hx).2 t ht).1; omega, ((h.2 x hx).2 t ht).2⟩⟩⟩

theorem filt_map {β γ : Type} (xs : List β) (f : β → γ) : (xs.filter fun _ => true).map f = xs.map f := by rw [List.filter_eq_self.mpr (fun _ _ => rfl)]
end Mine
end

/-! text L2 -/
section
open PySem PySem.W PyProof.Rows
set_option Elab.async false
set_option maxRecDepth 100000
namespace Mine

abbrev lawEnv (L a : Addr) (cd : Value) : Env := envOf (fR 11).name (fR 11).scope L a cd

/-- what the law's names stand for -/
structure LSt (P : Addr → Prop) (Ts : List (List (List (List Nat)))) (m : Str → Option Value) (h : Heap) : Prop where
  T : ∃ v, m "trees" = some v ∧ (rL (rL (rL rS))).r P h v Ts
  X : ∃ v, m "texts" = some v ∧ (rL rS).r P h v (Ts.map txt)
  R : ∃ v, m "rows" = some v ∧ (rL (rL rS)).r P h v (Ts.map row)
  D : ∃ v, m "deep" = some v ∧ (rL (rL (rL rS))).r P h v (Ts.map dp)
theorem LSt.stab {P P' : Addr → Prop} {Ts : List (List (List (List Nat)))} {m : Str → Option Value} {h h' : Heap} (S : LSt P Ts m h) (k : ∀ b o, P b → h.get? b = some o → P' b ∧ h'.get? b = some o) : LSt P' Ts m h' :=
  ⟨let ⟨v, a, b⟩ := S.T; ⟨v, a, (rL (rL (rL rS))).stab b k⟩, let ⟨v, a, b⟩ := S.X; ⟨v, a, (rL rS).stab b k⟩, let ⟨v, a, b⟩ := S.R; ⟨v, a, (rL (rL rS)).stab b k⟩, let ⟨v, a, b⟩ := S.D; ⟨v, a, (rL (rL (rL rS))).stab b k⟩⟩

/-- two items of a floor, by the order of the trees -/
structure Fl {β : Type} (R : Rel β) (c : β → β → Ordering) (n : Nat) (f : List (List (List Nat)) → β) : Prop where
  O : Ordd R c n
  n3 : n ≤ 100
  o : ∀ a b, SgR a → SgR b → c (f a) (f b) = c2 a b
theorem flX : Fl rS c0 0 txt := ⟨ordS, by omega, ord_txt⟩
theorem flR : Fl (rL rS) c1 1 row := ⟨ordL ordS, by omega, ord_row⟩
theorem flD : Fl (rL (rL rS)) c2 2 dp := ⟨ordL (ordL ordS), by omega, ord_dp⟩

section
variable {prog : Program} {w : World} {B : Around} {s : Shared} {h₀ : Heap} {L a : Addr} {cd : Value} {E : Value → Shared → Prop} {Q : Flow → Shared → Prop}

theorem rangeF {A : Around} {n : Nat} {t : Tok} {Q : Value → Shared → Prop} (hh : A.handled = none) (hn : n ≤ 1000000)
    (h : ∀ h' tk r, Ext s.heap h' → SrcF prog w A (.ref r) { s with heap := h', toks := tk } n (fun i u => ∃ t, u = .int ((0 : Int) + i) t) [] → Q (.ref r) { s with heap := h', toks := tk }) :
    wpAny (model prog w) A (call (.type "range") [.int (n : Int) t]) Q E s := by
  refine call_range_1 (h _ _ _ (push_ext _ _) ?_)
  have hr : IsRange (s.heap.push { cls := .type "range", data := .fields #[.int 0 s.toks, .int (n : Int) t, .int 1 (s.toks + 1)] }) s.heap.objs.size 0 (0 + (n : Int)) 1 s.toks t (s.toks + 1) := by
    have := IsRange.new s.heap 0 n 1 s.toks t (s.toks + 1)
    rwa [Int.zero_add]
  exact SrcF.ofRange (s := { s with heap := s.heap.push { cls := .type "range", data := .fields #[.int 0 s.toks, .int (n : Int) t, .int 1 (s.toks + 1)] }, toks := s.toks + 1 + 1 }) hh hr (small_one (by omega) (by omega) (by omega) (by omega))
theorem rangeF2 {A : Around} {a b n : Nat} {t u : Tok} {Q : Value → Shared → Prop} (hh : A.handled = none) (hn : b ≤ 1000000) (hab : a + n = b)
    (h : ∀ h' tk r, Ext s.heap h' → SrcF prog w A (.ref r) { s with heap := h', toks := tk } n (fun i u => ∃ t, u = .int ((a : Int) + i) t) [] → Q (.ref r) { s with heap := h', toks := tk }) :
    wpAny (model prog w) A (call (.type "range") [.int (a : Int) t, .int (b : Int) u]) Q E s := by
  refine call_range_2 (h _ _ _ (push_ext _ _) ?_)
  have hr : IsRange (s.heap.push { cls := .type "range", data := .fields #[.int (a : Int) t, .int (b : Int) u, .int 1 s.toks] }) s.heap.objs.size (a : Int) ((a : Int) + (n : Int)) 1 t u s.toks := by
    have := IsRange.new s.heap a b 1 t u s.toks
    rwa [show (b : Int) = (a : Int) + (n : Int) by omega] at this ⊢
  exact SrcF.ofRange (s := { s with heap := s.heap.push { cls := .type "range", data := .fields #[.int (a : Int) t, .int (b : Int) u, .int 1 s.toks] }, toks := s.toks + 1 }) hh hr (small_one (by omega) (by omega) (by omega) (by omega))

set_option maxHeartbeats 4000000 in
theorem law_loops {mg mb : Str → Option Value} (G0 : Gl mg mb h₀) (r : Rm 6 B) {Ts : List (List (List (List Nat)))} (hok : ∀ tr ∈ Ts, okB 12 tr) (hTl : Ts.length ≤ 13) {m : Str → Option Value} (F : Fr h₀ L s.heap m) (S : LSt (· ≠ L) Ts m s.heap)
    (k : ∀ h m' tk, Fr h₀ L h m' → LSt (· ≠ L) Ts m' h → wpAny (model prog w) B (execs ((fR 11).body.drop 7) (lawEnv L a cd)) Q E { s with heap := h, toks := tk }) :
    wpAny (model prog w) B (execs ((fR 11).body.drop 6) (lawEnv L a cd)) Q E s := by
  have hh := r.hh
  have G := G0.keeps F.keep
  obtain ⟨vT, hvT, zT⟩ := S.T
  obtain ⟨lT, iT, rfl, hPT, pT, qT⟩ := id zT
  have sT : iT.size = Ts.length := by have := qT.length; simpa using this
  have lenT : ∀ {h : Heap} {P : Addr → Prop} {m : Str → Option Value}, LSt P Ts m h → ∀ {A : Around} {s' : Shared} {Q E : Value → Shared → Prop}, s'.heap = h → True := fun _ => by intros; trivial
  refine wpAny_execs_cons (for_src (n := Ts.length) (P := fun i u => ∃ t, u = .int ((0 : Int) + i) t) (C := fun src => src = []) (J := fun I _ i m h => LSt (fun b => b ≠ L ∧ b ≠ I) Ts m h) F ?hit ?h0 ?hJ ?step ?fin ?hsrcL)
  case hsrcL => rintro src rfl; simp
  case h0 =>
    intro I src h₁ _ e hI
    exact S.stab fun b o hb q => ⟨⟨hb, fun eb => by have hI : s.heap.get? I = none := hI; rw [eb, hI] at q; cases q⟩, e b o q⟩
  case hJ =>
    intro I src i m h h' J k
    exact J.stab fun b o hb q => ⟨hb, k b o hb.2 hb.1 q⟩
  case fin =>
    intro I src h' tk m' _ F' J
    exact k h' m' tk F' (J.stab fun b o hb q => ⟨hb.1, q⟩)
  case hit =>
    intro E
    refine rangeN G (lenN G (ldl F.ns hvT (Calls.call_len_list pT.isList (by omega) ?_)))
    rw [sT]
    exact rangeF hh (by omega) fun h' tk r e S' => ⟨kOf e, [], S', rfl⟩
  case step =>
    rintro I src i v m₁ s₁ rfl hi ⟨ti, rfl⟩ hIL hI0 hIo J F₁ ⟨H, tk, rfl⟩
    refine genQ fun Q₁ hQ₁ => ?_
    rw [Int.zero_add] at F₁
    obtain ⟨obI, hoI⟩ := hIo
    have hoI : H.get? I = some obI := hoI
    have F₁ : Fr h₀ L H (fun y => if y = Str.ofString "i" then some (.int (i : Int) ti) else m₁ y) := F₁
    have J : LSt (fun b => b ≠ L ∧ b ≠ I) Ts (fun y => if y = Str.ofString "i" then some (.int (i : Int) ti) else m₁ y) H := ⟨J.T, J.X, J.R, J.D⟩
    have G₁ := G0.keeps F₁.keep
    obtain ⟨vT, hvT, zT⟩ := id J.T
    obtain ⟨lT, iT, rfl, hPT, pT, qT⟩ := id zT
    have sT : iT.size = Ts.length := by have := qT.length; simpa using this
    refine wpAny_execs_cons (for_src (s := { s with heap := H, toks := tk }) (n := Ts.length - i) (P := fun j u => ∃ t, u = .int ((i : Int) + j) t) (C := fun src => src = []) (J := fun I' _ j m h => LSt (fun b => b ≠ L ∧ b ≠ I ∧ b ≠ I') Ts m h ∧ m "i" = some (.int (i : Int) ti) ∧ h.get? I = some obI ∧ I ≠ I') F₁ ?hit2 ?h02 ?hJ2 ?step2 ?fin2 ?hsrcL2)
    case hsrcL2 => rintro src rfl; simp
    case h02 =>
      intro I' src h₁ _ e hI
      have hI : H.get? I' = none := hI
      have e : Ext H h₁ := e
      exact ⟨J.stab fun b o hb q => ⟨⟨hb.1, hb.2, fun eb => by rw [eb, hI] at q; cases q⟩, e b o q⟩, rfl, e _ _ hoI, fun eb => by rw [eb, hI] at hoI; cases hoI⟩
    case hJ2 =>
      rintro I' src j m h h' ⟨J, h1, h2, h3⟩ k
      exact ⟨J.stab fun b o hb q => ⟨hb, k b o hb.2.2 hb.1 q⟩, h1, k _ _ h3 hIL h2, h3⟩
    case fin2 =>
      rintro I' src h' tk' m' _ F' ⟨J, h1, h2, h3⟩
      refine wpAny_execs_nil (hQ₁ .next _ ⟨m', ⟨h', tk', rfl⟩, F', J.stab fun b o hb q => ⟨⟨hb.1, hb.2.1⟩, q⟩, fun b hb o q => ?_⟩)
      rcases hb with rfl | hb
      · have q : H.get? b = some o := q
        rw [hoI] at q; cases q; exact h2
      · simp at hb
    case hit2 =>
      intro E
      refine wpAny_Call_NameR (nameB (x := "range") (v := .type "range") G₁ (by simp) (by kernel_rfl) ?_)
      refine PyProof.Rows.callWith_type1 (Calls.spliced_cons (ldl F₁.ns rfl (Calls.spliced_cons (lenN G₁ (ldl F₁.ns hvT (Calls.call_len_list pT.isList (by omega) (Calls.spliced_nil ?_)))))))
      rw [sT]
      exact rangeF2 hh (by omega) (by omega) fun h' tk r e S' => ⟨kOf e, [], S', rfl⟩
    case step2 =>
      rintro I' src j v m₂ s₂ rfl hj ⟨tj, rfl⟩ hIL' hI0' hIo' ⟨J2, h1, h2, h3⟩ F₂ ⟨H2, tk2, rfl⟩
      refine genQ fun Q₂ hQ₂ => ?_
      obtain ⟨obI', hoI'⟩ := hIo'
      have hoI' : H2.get? I' = some obI' := hoI'
      obtain ⟨kk, hkk⟩ : ∃ kk : Nat, (i : Int) + (j : Int) = (kk : Int) ∧ kk < Ts.length := ⟨i + j, by omega, by omega⟩
      rw [hkk.1] at F₂
      have F₂ : Fr h₀ L H2 (fun y => if y = Str.ofString "k" then some (.int (kk : Int) tj) else m₂ y) := F₂
      have G₂ := G0.keeps F₂.keep
      obtain ⟨vT, hvT, zT⟩ := id J2.T
      obtain ⟨lT, iT, rfl, hPT, pT, qT⟩ := id zT
      have sT : iT.size = Ts.length := by have := qT.length; simpa using this
      have atT : ∀ x (hx : x < Ts.length), (rL (rL rS)).r Any H2 (iT[x]'(by omega)) Ts[x] := fun x hx => by
        have := pget qT x (by simp; omega) hx
        rw [Array.getElem_toList] at this
        exact (rL (rL rS)).any this
      -- due = _law_order(trees[i], trees[k], 3)
      obtain ⟨a8, ha8, hF8⟩ := G₂.fn 8 (by omega)
      obtain ⟨o, pm, code, doc, ho, hdat, hcd⟩ := id hF8
      refine wpAny_execs_cons (wpAny_Assign_Name (wpAny_Call_NameR (Calls.Name_function_global rfl rfl (Calls.loadGlobal_global (mg := mg) G₂.g ha8 ?_) (by decide))))
      refine callWith_def_at (o := o) (fd := _) ho hdat (Calls.spliced_cons (Subscript_Name (ldl F₂.ns hvT (ldl F₂.ns h1 (itemL pT.isList (by omega) (by omega) (Calls.spliced_cons (Subscript_Name (ldl F₂.ns hvT (ldl F₂.ns rfl (itemL pT.isList (by omega) (by omega) ?_))))))))))
      refine Calls.spliced_cons (wpAny_Constant_int (k := 0) (pos := ⟨0, 0, 0, 0⟩) (Calls.spliced_nil ⟨ho, ?_⟩))
      refine (con_order (s := { s with heap := H2, toks := _ }) G₂ (r.mono (by omega)) hF8 (atT i hi) (atT kk hkk.2) (okB_okW (hok _ (List.getElem_mem hi))) (okB_okW (hok _ (List.getElem_mem hkk.2)))).use fun z₃ s₃ hK₃ hz₃ => ?_
      obtain ⟨td, rfl⟩ := hz₃
      obtain ⟨h₃, tk₃, rfl, e₃⟩ := hK₃
      have e₃ : Ext H2 h₃ := e₃
      refine stK (s := { s with heap := h₃, toks := tk₃ }) (F₂.keeps e₃) fun h₄ F₄ sb₄ => ?_
      have F₄ : Fr h₀ L h₄ (fun y => if y = Str.ofString "due" then some (.int (oI (c2 Ts[i] Ts[kk])) td) else if y = Str.ofString "k" then some (.int (kk : Int) tj) else m₂ y) := F₄
      have up₄ : ∀ b o, b ≠ L → H2.get? b = some o → h₄.get? b = some o := fun b o hb q => sb₄.extBut b o hb (e₃ b o q)
      have J4 : LSt (fun b => b ≠ L ∧ b ≠ I ∧ b ≠ I') Ts (fun y => if y = Str.ofString "due" then some (.int (oI (c2 Ts[i] Ts[kk])) td) else if y = Str.ofString "k" then some (.int (kk : Int) tj) else m₂ y) h₄ := (LSt.mk J2.T J2.X J2.R J2.D : LSt _ Ts (fun y => if y = Str.ofString "due" then some (.int (oI (c2 Ts[i] Ts[kk])) td) else if y = Str.ofString "k" then some (.int (kk : Int) tj) else m₂ y) H2).stab fun b o hb q => ⟨hb, up₄ b o hb.1 q⟩
      -- for floor in [texts, rows, deep]
      generalize hm4 : (fun y => if y = Str.ofString "due" then some (Value.int (oI (c2 Ts[i] Ts[kk])) td) else if y = Str.ofString "k" then some (Value.int (kk : Int) tj) else m₂ y) = m4 at F₄ J4
      have md : m4 "due" = some (.int (oI (c2 Ts[i] Ts[kk])) td) := by rw [← hm4]; rfl
      have mk : m4 "k" = some (.int (kk : Int) tj) := by rw [← hm4]; rfl
      have mi : m4 "i" = some (.int (i : Int) ti) := by rw [← hm4]; exact h1
      obtain ⟨vX, hvX, zX⟩ := J4.X
      obtain ⟨vR, hvR, zR⟩ := J4.R
      obtain ⟨vD, hvD, zD⟩ := J4.D
      refine wpAny_execs_cons (for_src2 (s := { s with heap := h₄, toks := _ }) (n := 3) (P := fun j u => (j = 0 ∧ u = vX) ∨ (j = 1 ∧ u = vR) ∨ (j = 2 ∧ u = vD)) (fun src h => ∀ b ∈ src, h₄.get? b = none) (fun I'' src j m h => LSt (fun b => b ≠ L ∧ b ≠ I ∧ b ≠ I' ∧ b ≠ I'') Ts m h ∧ m "due" = some (.int (oI (c2 Ts[i] Ts[kk])) td) ∧ m "k" = some (.int (kk : Int) tj) ∧ m "i" = some (.int (i : Int) ti) ∧ h.get? I = some obI ∧ h.get? I' = some obI' ∧ I ≠ I'' ∧ I' ≠ I'' ∧ (rL rS).r (fun b => b ≠ L ∧ b ≠ I ∧ b ≠ I' ∧ b ≠ I'') h vX (Ts.map txt) ∧ (rL (rL rS)).r (fun b => b ≠ L ∧ b ≠ I ∧ b ≠ I' ∧ b ≠ I'') h vR (Ts.map row) ∧ (rL (rL (rL rS))).r (fun b => b ≠ L ∧ b ≠ I ∧ b ≠ I' ∧ b ≠ I'') h vD (Ts.map dp)) F₄ ?hit3 ?h03 ?hJ3 ?step3 ?fin3 ?hsrcL3)
      case hsrcL3 =>
        rintro src h hC e hm
        obtain ⟨ob, _, _, q, _⟩ := F₄.ns
        have this : h₄.get? L = none := hC _ hm
        rw [this] at q; cases q
      case h03 =>
        intro I'' src h₅ h₆ _ e₅ e₆ _ hI
        have hI : h₄.get? I'' = none := hI
        have e : Ext h₄ h₆ := fun b o q => e₆ _ _ (e₅ _ _ q)
        have kk' : ∀ b o, (b ≠ L ∧ b ≠ I ∧ b ≠ I') → h₄.get? b = some o → (b ≠ L ∧ b ≠ I ∧ b ≠ I' ∧ b ≠ I'') ∧ h₆.get? b = some o := fun b o hb q => ⟨⟨hb.1, hb.2.1, hb.2.2, fun eb => by rw [eb, hI] at q; cases q⟩, e b o q⟩
        have q1 := up₄ _ _ hIL h2
        have q2 := up₄ _ _ hIL' hoI'
        exact ⟨J4.stab kk', md, mk, mi, e _ _ q1, e _ _ q2, (fun eb => by rw [eb, hI] at q1; cases q1), (fun eb => by rw [eb, hI] at q2; cases q2), (rL rS).stab zX kk', (rL (rL rS)).stab zR kk', (rL (rL (rL rS))).stab zD kk'⟩
      case hJ3 =>
        rintro I'' src j m h h' ⟨J, a1, a2, a3, a4, a5, a6, a7, b1, b2, b3⟩ k
        have kk' : ∀ b o, (b ≠ L ∧ b ≠ I ∧ b ≠ I' ∧ b ≠ I'') → h.get? b = some o → (b ≠ L ∧ b ≠ I ∧ b ≠ I' ∧ b ≠ I'') ∧ h'.get? b = some o := fun b o hb q => ⟨hb, k b o hb.2.2.2 hb.1 q⟩
        exact ⟨J.stab kk', a1, a2, a3, k _ _ a6 hIL a4, k _ _ a7 hIL' a5, a6, a7, (rL rS).stab b1 kk', (rL (rL rS)).stab b2 kk', (rL (rL (rL rS))).stab b3 kk'⟩
      case fin3 =>
        rintro I'' src h' tk' m' F' ⟨J, a1, a2, a3, a4, a5, a6, a7, b1, b2, b3⟩
        refine wpAny_execs_nil (hQ₂ .next _ ⟨m', ⟨h', tk', rfl⟩, F', ⟨J.stab fun b o hb q => ⟨⟨hb.1, hb.2.1, hb.2.2.1⟩, q⟩, a3, a4, h3⟩, fun b hb o q => ?_⟩)
        rcases hb with rfl | hb
        · have q : H2.get? b = some o := q
          rw [hoI'] at q; cases q; exact a5
        · simp at hb
      case hit3 =>
        intro E
        refine wpAny_List (Calls.spliced_cons (ldl F₄.ns hvX (Calls.spliced_cons (ldl F₄.ns hvR (Calls.spliced_cons (ldl F₄.ns hvD (Calls.spliced_nil ⟨by rw [sizeLine_eq]; simp, ?_⟩)))))))
        dsimp only
        have hLi : (h₄.push { cls := .type "list", data := .seq [vX, vR, vD].toArray }).IsList h₄.objs.size [vX, vR, vD].toArray := ⟨_, Heap.get?_push_size _ rfl, rfl, _, rfl⟩
        have S3 : ∀ tk, SrcF prog w B (.ref h₄.objs.size) { s with heap := h₄.push { cls := .type "list", data := .seq [vX, vR, vD].toArray }, toks := tk } 3 (fun i v => [vX, vR, vD].toArray[i]? = some v) [h₄.objs.size] := fun tk => SrcF.ofList (s := { s with heap := h₄.push { cls := .type "list", data := .seq [vX, vR, vD].toArray }, toks := tk }) hh hLi
        refine ⟨kOf (push_ext _ _), [h₄.objs.size], SrcF.imp (S3 _) fun j u hj hu => ?_, fun b hb => ?_⟩
        · match j, hj, hu with
          | 0, _, hu => exact .inl ⟨rfl, by simpa using hu.symm⟩
          | 1, _, hu => exact .inr (.inl ⟨rfl, by simpa using hu.symm⟩)
          | 2, _, hu => exact .inr (.inr ⟨rfl, by simpa using hu.symm⟩)
          | j + 3, hj, _ => exact absurd hj (by simp)
        · rw [List.mem_singleton.mp hb]; exact get_none_size _
      case step3 =>
        rintro I'' src j v m₅ s₅ hj hv hIL'' hI0'' hIo'' ⟨J, a1, a2, a3, a4, a5, a6, a7, b1, b2, b3⟩ F₅ ⟨H5, tk5, rfl⟩
        refine genQ fun Q₃ hQ₃ => ?_
        have F₅ : Fr h₀ L H5 (fun y => if y = Str.ofString "floor" then some v else m₅ y) := F₅
        have G₅ := G0.keeps F₅.keep
        obtain ⟨β, R, c, nn, f, fl, zf⟩ : ∃ (β : Type) (R : Rel β) (c : β → β → Ordering) (nn : Nat) (f : List (List (List Nat)) → β), Fl R c nn f ∧ (rL R).r Any H5 v (Ts.map f) := by
          rcases hv with ⟨_, rfl⟩ | ⟨_, rfl⟩ | ⟨_, rfl⟩
          · exact ⟨_, _, _, _, _, flX, (rL rS).any b1⟩
          · exact ⟨_, _, _, _, _, flR, (rL (rL rS)).any b2⟩
          · exact ⟨_, _, _, _, _, flD, (rL (rL (rL rS))).any b3⟩
        obtain ⟨lf, itf, rfl, _, pf, qf⟩ := zf
        have sf : itf.size = Ts.length := by have := qf.length; simpa using this
        have atf : ∀ x (hx : x < Ts.length), R.r Any H5 (itf[x]'(by omega)) (f Ts[x]) := fun x hx => by
          have := pget qf x (by simp; omega) (by simpa using hx)
          rw [Array.getElem_toList, List.getElem_map] at this
          exact this
        have sgi := okB_sg (hok _ (List.getElem_mem hi))
        have sgk := okB_sg (hok _ (List.getElem_mem hkk.2))
        have hz : c (f Ts[i]) (f Ts[kk]) = c2 Ts[i] Ts[kk] := fl.o _ _ sgi sgk
        have hz' : c (f Ts[kk]) (f Ts[i]) = (c2 Ts[i] Ts[kk]).swap := (fl.o _ _ sgk sgi).trans (c2_lin.sw _ _)
        refine wpAny_execs_cons (wpAny_If (isTrue_or (wpAny_isTrue_Compare1 (callN2 (s := { s with heap := H5, toks := tk5 }) (k := 2) G₅ (by omega) fun g hF => Subscript_Name (ldl F₅.ns rfl (ldl F₅.ns a3 (itemL pf.isList (by omega) (by omega) (Subscript_Name (ldl F₅.ns rfl (ldl F₅.ns a2 (itemL pf.isList (by omega) (by omega) ⟨Ext.refl _, ?_⟩)))))))))))
        refine (con_cmp (s := { s with heap := H5, toks := tk5 }) fl.O fl.n3 (r.mono (by omega)) hF G₅.nolimit (atf i hi) (atf kk hkk.2)).use fun z₆ s₆ hK₆ hz₆ => ?_
        obtain ⟨t6, rfl⟩ := hz₆
        obtain ⟨h₆, tk₆, rfl, e₆⟩ := hK₆
        have e₆ : Ext H5 h₆ := e₆
        have F₆ := F₅.keeps e₆
        have G₆ := G0.keeps F₆.keep
        have pf6 := pf.isList.at fun o q => e₆ _ _ q
        refine ldl F₆.ns a1 (PyProof.Rows.ne_int (wpAny_truthy_bool ?_))
        rw [hz, bne_self_eq_false]
        simp only [Bool.false_eq_true, if_false]
        refine isTrue_or (wpAny_isTrue_Compare1 (callN2 (s := { s with heap := h₆, toks := tk₆ }) (k := 2) G₆ (by omega) fun g hF => Subscript_Name (ldl F₆.ns rfl (ldl F₆.ns a2 (itemL pf6 (by omega) (by omega) (Subscript_Name (ldl F₆.ns rfl (ldl F₆.ns a3 (itemL pf6 (by omega) (by omega) ⟨Ext.refl _, ?_⟩)))))))))
        refine (con_cmp (s := { s with heap := h₆, toks := tk₆ }) fl.O fl.n3 (r.mono (by omega)) hF G₆.nolimit (R.ext (atf kk hkk.2) e₆) (R.ext (atf i hi) e₆)).use fun z₇ s₇ hK₇ hz₇ => ?_
        obtain ⟨t7, rfl⟩ := hz₇
        obtain ⟨h₇, tk₇, rfl, e₇⟩ := hK₇
        have e₇ : Ext h₆ h₇ := e₇
        have F₇ := F₆.keeps e₇
        refine wpAny_UnaryOp (ldl F₇.ns a1 (PyProof.Rows.neg_int (PyProof.Rows.ne_int (wpAny_truthy_bool ?_))))
        rw [hz', oI_swap, bne_self_eq_false]
        simp only [Bool.false_eq_true, if_false]
        refine isTrue_or_nil ?_
        simp only [Bool.false_eq_true, if_false]
        have e57 : Ext H5 h₇ := fun b o q => e₇ _ _ (e₆ _ _ q)
        refine wpAny_execs_nil (wpAny_execs_nil (hQ₃ .next _ ⟨_, ⟨h₇, _, rfl⟩, F₇, ?_, fun b _ o q => e57 _ _ q⟩))
        have kk' : ∀ b o, (b ≠ L ∧ b ≠ I ∧ b ≠ I' ∧ b ≠ I'') → H5.get? b = some o → (b ≠ L ∧ b ≠ I ∧ b ≠ I' ∧ b ≠ I'') ∧ h₇.get? b = some o := fun b o hb q => ⟨hb, e57 b o q⟩
        exact ⟨(LSt.mk J.T J.X J.R J.D : LSt (fun b => b ≠ L ∧ b ≠ I ∧ b ≠ I' ∧ b ≠ I'') Ts (fun y => if y = Str.ofString "floor" then some (.ref lf) else m₅ y) H5).stab kk', a1, a2, a3, e57 _ _ a4, e57 _ _ a5, a6, a7, (rL rS).stab b1 kk', (rL (rL rS)).stab b2 kk', (rL (rL (rL rS))).stab b3 kk'⟩
end
end Mine
end

/-! text M1 -/
section
open PySem PySem.W PyProof.Rows
set_option Elab.async false
set_option maxRecDepth 100000
namespace Mine

/-- the sorted list, told plainly -/
def srtOf {β : Type} (c : β → β → Ordering) (xs : List β) : List β := xs.mergeSort fun a b => c a b != .gt
theorem srtOf_perm {β : Type} {c : β → β → Ordering} (xs : List β) : (srtOf c xs).Perm xs := List.mergeSort_perm _ _
theorem srtOf_srt {β : Type} {c : β → β → Ordering} (Lc : LinO c) (xs : List β) : Srt c (srtOf c xs) := by
  have h := List.pairwise_mergeSort (le := fun a b => c a b != .gt) (fun a b d h1 h2 => by
    have h1 : c a b ≠ .gt := by simpa using h1
    have h2 : c b d ≠ .gt := by simpa using h2
    simpa using Lc.tr a b d h1 h2) (fun a b => by
    rw [Lc.sw a b]
    cases c a b <;> rfl) xs
  exact h.imp fun h => by simpa using h

/-- a value of this kind holds no namespace -/
def Apart {β : Type} (R : Rel β) : Prop := ∀ {X : Addr → Prop} {h : Heap} {v : Value} {y : β} {L : Addr} {m : Str → Option Value}, h.Ns L m → R.r X h v y → R.r (· ≠ L) h v y
theorem apartS : Apart rS := fun _ x => x
theorem apartL {β : Type} {R : Rel β} (hR : Apart R) : Apart (rL R) := by
  rintro X h v y L m hn ⟨a, items, rfl, hX, hl, hp⟩
  refine ⟨a, items, rfl, ?_, hl, Paired.mono (fun _ _ z => hR hn z) hp⟩
  rintro rfl
  obtain ⟨o, n, q, _, _, hd⟩ := hl
  obtain ⟨o', es, ep, q', hd', _⟩ := hn
  rw [q] at q'; cases q'; rw [hd] at hd'; cases hd'

section
variable {prog : Program} {w : World} {A : Around} {E : Value → Shared → Prop} {s : Shared} {env : Env}

/-- sorted(e) -/
theorem sortN {e : Expr} {np pos : Pos} {mg mb : Str → Option Value} {Q : Value → Shared → Prop} (G : Gl mg mb s.heap)
    (h : wpAny (model prog w) A (eval e env) (fun v s₁ => wpAny (model prog w) A (call (.builtin "sorted") [v]) Q E s₁) E s)
    (hk : env.scope.kind = .function := by rfl) (hg : env.globals = mainGlobals := by rfl) (hb : env.builtins = builtinsNs := by rfl) (hl : env.kindOf "sorted" = some .globalImplicit := by rfl) (he : starEach [e] env = [(false, eval e env)] := by rfl) :
    wpAny (model prog w) A (eval (.Call (.Name "sorted" np) [e] [] pos) env) Q E s := by
  refine wpAny_Call_NameR (nameB (x := "sorted") (v := .builtin "sorted") G (by simp) (by kernel_rfl) ?_ (by decide) hk hg hb hl)
  rw [he]
  exact Calls.callWith_builtin rfl (Calls.evalArgs_plain (Calls.spliced_cons (wpAny_mono h (fun v s₁ h₁ => Calls.spliced_nil h₁) fun _ _ x => x)))

/-- f(e, e'): the heap may change where the function is not -/
theorem callN2L {k : Nat} {mg mb : Str → Option Value} {np pos : Pos} {e e' : Expr} {f : Str} {Q : Value → Shared → Prop} (G : Gl mg mb s.heap)
    (hK : k = 1 ∨ k = 2 ∨ k = 4 ∨ k = 6 ∨ k = 7 ∨ k = 8 ∨ k = 9 ∨ k = 10)
    (h : ∀ a, mg (fR k).name = some (.ref a) → isFun s.heap k a → wpAny (model prog w) A (eval e env) (fun v s₁ => wpAny (model prog w) A (eval e' env) (fun v' s₂ => (∀ o, s.heap.get? a = some o → s₂.heap.get? a = some o) ∧ wpAny (model prog w) A (call (.ref a) [v, v']) Q E s₂) E s₁) E s)
    (hf : f = (fR k).name := by rfl) (hk : env.scope.kind = .function := by rfl) (hx : env.kindOf f = some .globalImplicit := by rfl) (hg : env.globals = mainGlobals := by rfl)
    (hd : (f == ("__debug__" : Str)) = false := by decide) (he : starEach [e, e'] env = (false, eval e env) :: starEach [e'] env := by rfl) (he' : starEach [e'] env = [(false, eval e' env)] := by rfl) :
    wpAny (model prog w) A (eval (.Call (.Name f np) [e, e'] [] pos) env) Q E s := by
  obtain ⟨a, ha, hF⟩ := G.fn k hK
  refine wpAny_Call_NameR (Calls.Name_function_global hk hx (Calls.loadGlobal_global (mg := mg) (by rw [hg]; exact G.g) (by rw [hf]; exact ha) ?_) hd)
  obtain ⟨o, pm, code, doc, ho, hdat, hcd⟩ := id hF
  refine callWith_def_at (o := o) (fd := _) ho hdat ?_ he
  rw [he, he']
  exact Calls.spliced_cons (wpAny_mono (h a ha hF) (fun v s₁ hv => Calls.spliced_cons (wpAny_mono hv (fun v' s₂ hv' => Calls.spliced_nil ⟨hv'.1 _ ho, hv'.2⟩) fun _ _ x => x)) fun _ _ x => x)

theorem isFun_ne {h : Heap} {k : Nat} {a L : Addr} {m : Str → Option Value} (hF : isFun h k a) (hn : h.Ns L m) : a ≠ L := by
  rintro rfl
  obtain ⟨o, pm, code, doc, ho, hdat, hcd⟩ := hF
  obtain ⟨o', es, ep, q', hd', _⟩ := hn
  rw [ho] at q'; cases q'; rw [hdat] at hd'; cases hd'

/-- x[:i] of a list, both names of the frame -/
theorem uptoN {x i : Str} {p1 p2 p3 p4 : Pos} {l : Addr} {items : Array Value} {j : Nat} {t : Tok} {m : Str → Option Value} {Q : Value → Shared → Prop}
    (hn : s.heap.Ns env.locals m) (hx : m x = some (.ref l)) (hi : m i = some (.int (j : Int) t)) (hl : s.heap.IsList l items) (hsz : items.size ≤ 1000000)
    (h : ∀ b h', Ext s.heap h' → s.heap.get? b = none → PlainL h' b (items.toList.take j).toArray → Q (.ref b) { s with heap := h' })
    (hk : env.scope.kind = .function := by rfl) (hlx : env.kindOf x = some .local := by rfl) (hli : env.kindOf i = some .local := by rfl) (hdx : (x == ("__debug__" : Str)) = false := by decide) (hdi : (i == ("__debug__" : Str)) = false := by decide) :
    wpAny (model prog w) A (eval (.Subscript (.Name x p1) (.Slice none (some (.Name i p2)) none p3) p4) env) Q E s := by
  refine wpAny_Subscript_list_slice (ldl hn hx (evalPart_none_step (evalPart_some_step (ldl hn hi ⟨l, items, none, some (j : Int), rfl, hl, by rw [sizeLine_eq]; omega, .none, .int _ _, ?_⟩ hk hli hdi))) hk hlx hdx)
  rw [slicePick_upto']
  have hg : ((s.heap.push { cls := .type "slice", data := .fields #[.none, .int (j : Int) t, .none] }).push { cls := .type "list", data := .seq (items.toList.take j).toArray }).get? (s.heap.objs.size + 1) = some { cls := .type "list", data := .seq (items.toList.take j).toArray } := by
    rw [show s.heap.objs.size + 1 = (s.heap.push { cls := .type "slice", data := .fields #[.none, .int (j : Int) t, .none] }).objs.size by rw [Heap.size_push]]
    exact Heap.get?_push_size _ rfl
  exact h _ _ (fun b o e => push_ext _ _ _ _ (push_ext _ _ _ _ e)) (Heap.get?_none_of_le (by simp)) ⟨_, _, hg, rfl, rfl, rfl⟩

theorem sliceUp {β : Type} {R : Rel β} {X : Addr → Prop} {xs : List β} {v : Value} {x i : Str} {p1 p2 p3 p4 : Pos} {j : Nat} {t : Tok} {m : Str → Option Value} {Q : Value → Shared → Prop}
    (hn : s.heap.Ns env.locals m) (hx : m x = some v) (hi : m i = some (.int (j : Int) t)) (hv : (rL R).r X s.heap v xs) (hX : ∀ b, s.heap.get? b = none → X b) (hsz : xs.length ≤ 1000000)
    (h : ∀ z h', Ext s.heap h' → (rL R).r X h' z (xs.take j) → Q z { s with heap := h' })
    (hk : env.scope.kind = .function := by rfl) (hlx : env.kindOf x = some .local := by rfl) (hli : env.kindOf i = some .local := by rfl) (hdx : (x == ("__debug__" : Str)) = false := by decide) (hdi : (i == ("__debug__" : Str)) = false := by decide) :
    wpAny (model prog w) A (eval (.Subscript (.Name x p1) (.Slice none (some (.Name i p2)) none p3) p4) env) Q E s := by
  obtain ⟨l, items, rfl, _, hl, hp⟩ := hv
  have hlen : items.size = xs.length := by have := hp.length; simpa using this
  refine uptoN hn hx hi hl.isList (by omega) (fun b h' e hb hl' => h _ _ e ⟨b, _, rfl, hX _ hb, hl', ?_⟩) hk hlx hli hdx hdi
  exact Paired.mono (fun _ _ z => R.ext z e) (by simpa using ptake hp j)
theorem sliceFrom {β : Type} {R : Rel β} {X : Addr → Prop} {xs : List β} {v : Value} {x i : Str} {p1 p2 p3 p4 : Pos} {j : Nat} {t : Tok} {m : Str → Option Value} {Q : Value → Shared → Prop}
    (hn : s.heap.Ns env.locals m) (hx : m x = some v) (hi : m i = some (.int (j : Int) t)) (hv : (rL R).r X s.heap v xs) (hX : ∀ b, s.heap.get? b = none → X b) (hsz : xs.length ≤ 1000000)
    (h : ∀ z h', Ext s.heap h' → (rL R).r X h' z (xs.drop j) → Q z { s with heap := h' })
    (hk : env.scope.kind = .function := by rfl) (hlx : env.kindOf x = some .local := by rfl) (hli : env.kindOf i = some .local := by rfl) (hdx : (x == ("__debug__" : Str)) = false := by decide) (hdi : (i == ("__debug__" : Str)) = false := by decide) :
    wpAny (model prog w) A (eval (.Subscript (.Name x p1) (.Slice (some (.Name i p2)) none none p3) p4) env) Q E s := by
  obtain ⟨l, items, rfl, _, hl, hp⟩ := hv
  have hlen : items.size = xs.length := by have := hp.length; simpa using this
  refine fromN hn hx hi hl.isList (by omega) (fun b h' e hb hl' => h _ _ e ⟨b, _, rfl, hX _ hb, hl', ?_⟩) hk hlx hli hdx hdi
  exact Paired.mono (fun _ _ z => R.ext z e) (by simpa using pdrop hp j)

/-- two pairs of lists that stand for the same -/
theorem pair_cmp {β : Type} {R : Rel β} {c : β → β → Ordering} {n : Nat} (O : Ordd R c n) (hu : A.units + n + 2 < cLine) {p : List β × List β} {z y : Value} (hz : PairR R s.heap z p) (hy : PairR R s.heap y p) {Q : Value → Shared → Prop} :
    (Q (.bool true) s → wpAny (model prog w) A (compareOp .Eq z y) Q E s) ∧ (Q (.bool false) s → wpAny (model prog w) A (compareOp .NotEq z y) Q E s) := by
  obtain ⟨t, l1, l2, rfl, q, r1, r2⟩ := hz
  obtain ⟨t', l1', l2', rfl, q', r1', r2'⟩ := hy
  have h1 : s.heap.IsTuple t #[l1, l2] := ⟨_, q, rfl, _, rfl⟩
  have h2 : s.heap.IsTuple t' #[l1', l2'] := ⟨_, q', rfl, _, rfl⟩
  have he : ∀ j (h1 : j < (#[l1, l2] : Array Value).size) (h2 : j < (#[l1', l2'] : Array Value).size), SeqAt.EqAt A.in1 s (#[l1, l2] : Array Value)[j] (#[l1', l2'] : Array Value)[j] ((fun _ => true) j) := by
    have e : ∀ {v u : Value} {xs : List β}, (rL R).r Any s.heap v xs → (rL R).r Any s.heap u xs → SeqAt.EqAt A.in1 s v u true := fun {v u xs} a b => by
      have := ((ordL O).oa a b A.in1 (by rw [Around.in1_units]; omega)).1
      rwa [show (cmpL c xs xs == .eq) = true by rw [cmpL_refl O.refl]; rfl] at this
    intro j hj _
    match j, hj with
    | 0, _ => exact e r1 r1'
    | 1, _ => exact e r2 r2'
    | j + 2, hj => exact absurd hj (by simp)
  exact ⟨fun h => SeqAt.eq_tupleAt h1 h2 (by omega) he h, fun h => SeqAt.RcNeAt.tuples h1 h2 (by omega) he prog w E Q h⟩
end
end Mine
end

/-! text L3 -/
section
open PySem PySem.W PyProof.Rows
set_option Elab.async false
set_option maxRecDepth 100000
namespace Mine
section
variable {prog : Program} {w : World} {B : Around} {s : Shared} {h₀ : Heap} {L a : Addr} {cd : Value} {E : Value → Shared → Prop} {Q : Flow → Shared → Prop}

theorem alone_mem {xs ys : List (List Nat)} {x : List Nat} (h : x ∈ alone xs ys) : x ∈ xs := by
  unfold alone at h
  obtain ⟨k, hk, rfl⟩ := List.mem_map.mp h
  have hk : k < xs.length := List.mem_range.mp (List.mem_filter.mp hk).1
  rw [List.getD_eq_getElem?_getD, List.getElem?_eq_getElem hk]
  exact List.getElem_mem hk

theorem Lnew {h₀ h : Heap} {L b : Addr} {m : Str → Option Value} (F : Fr h₀ L h m) (hb : h.get? b = none) : b ≠ L := by
  rintro rfl
  obtain ⟨o, _, _, q, _⟩ := F.ns
  rw [hb] at q; cases q

set_option maxHeartbeats 4000000 in
theorem law_tail1 {mg mb : Str → Option Value} (G0 : Gl mg mb h₀) (r : Rm 6 B) {Ts : List (List (List (List Nat)))} (hok : ∀ tr ∈ Ts, okB 12 tr) (hTl : Ts.length ≤ 13) {m : Str → Option Value} (F : Fr h₀ L s.heap m) (S : LSt (· ≠ L) Ts m s.heap)
    (k : ∀ h tk, Fr h₀ L h m → LSt (· ≠ L) Ts m h → wpAny (model prog w) B (execs ((fR 11).body.drop 8) (lawEnv L a cd)) Q E { s with heap := h, toks := tk }) :
    wpAny (model prog w) B (execs ((fR 11).body.drop 7) (lawEnv L a cd)) Q E s := by
  have hh := r.hh
  have hU : B.units + 100 < cLine := by have := r.units; omega
  have G := G0.keeps F.keep
  obtain ⟨vX, hvX, zX⟩ := id S.X
  obtain ⟨vD, hvD, zD⟩ := id S.D
  have hsg : ∀ t ∈ Ts, SgR t := fun t ht => okB_sg (hok t ht)
  refine wpAny_execs_cons (wpAny_If (wpAny_isTrue_Compare1 ?_))
  refine (comp_val (RI := rS) (R := rL (rL rS)) (xs := srtOf c0 (Ts.map txt)) (p := fun _ => true) (f := readT) (closureFor_none (by decide)) (by decide) rfl (by decide) rfl ?hit ⟨fun _ _ _ _ _ _ _ _ _ _ => tests0 rfl, ?elt⟩ (by rw [sizeLine_eq, (srtOf_perm _).length_eq, List.length_map]; omega)).use fun z₁ s₁ hK₁ hz₁ => ?_
  case hit =>
    intro E
    refine sortN G (ldl F.ns hvX ((con_sortS zX (by rw [List.length_map]; omega)).use fun z s' hK hz => ⟨hK, ?_⟩))
    obtain ⟨zs, p1, p2, rz⟩ := hz
    have e : zs = srtOf c0 (Ts.map txt) := srt_unique c0_lin (p1.trans (srtOf_perm _).symm) p2 (srtOf_srt c0_lin _)
    rw [e] at rz
    exact Src.ofL hh rz
  case elt =>
    intro x hx _ C v s₁ m₁ e₁ hv₁ hn₁ hm₁ E
    obtain ⟨tr, htr, rfl⟩ := List.mem_map.mp ((srtOf_perm _).mem_iff.mp hx)
    obtain ⟨tx, rfl⟩ := hv₁
    have G₁ := G.keeps e₁
    exact callN1 (k := 10) G₁ (by omega) fun f hF => ldl hn₁ hm₁ ⟨Ext.refl _, (con_read G₁ (r.mono (by omega)) hF rfl (by have := (tree_wt (hok tr htr)).2; omega)).use fun z s' hK hz => ⟨hK, hz⟩⟩
  obtain ⟨h₁, tk₁, rfl, e₁⟩ := hK₁
  have e₁ : Ext s.heap h₁ := e₁
  rw [filt_map] at hz₁
  have F₁ := F.keeps e₁
  have G₁ := G0.keeps F₁.keep
  have z₁' : (rL (rL (rL rS))).r (· ≠ L) h₁ z₁ ((srtOf c0 (Ts.map txt)).map readT) := (rL (rL (rL rS))).stab hz₁ fun b o hb q => ⟨Lnew F hb, q⟩
  refine sortN (s := { s with heap := h₁, toks := tk₁ }) G₁ (ldl F₁.ns hvD (con_sortL (s := { s with heap := h₁, toks := tk₁ }) (R := rL rS) (c := c1) (n := 1) (ordL ordS) c2_lin (by omega) F₁ ((rL (rL (rL rS))).ext zD e₁) (by rw [List.length_map]; omega) fun D h₂ zs F₂ k₂ p1 p2 rz => ?_))
  have e := read_sorted hsg (srtOf_perm _) (srtOf_srt c0_lin _) p1 p2
  rw [e] at z₁'
  refine (cmp_op (ordL (ordL (ordL ordS))) (by omega) (s := { s with heap := h₂, toks := tk₁ }) ((rL (rL (rL rS))).stab z₁' (Y := (· ≠ L)) fun b o hb q => ⟨hb, k₂ b o hb q⟩) rz).2.2.2 (wpAny_truthy_bool ?_)
  rw [show (cmpL (cmpL (cmpL c0)) zs zs != .eq) = false by rw [(cmpL_lin c2_lin).rf]; rfl]
  simp only [Bool.false_eq_true, if_false]
  refine wpAny_execs_nil ?_
  exact k h₂ tk₁ F₂ (S.stab fun b o hb q => ⟨hb, k₂ b o hb (e₁ _ _ q)⟩)

set_option maxHeartbeats 4000000 in
theorem law_tail2 {mg mb : Str → Option Value} (G0 : Gl mg mb h₀) (r : Rm 6 B) (hfr : B.frames = some [lawEnv L a cd]) {Ts : List (List (List (List Nat)))} (hok : ∀ tr ∈ Ts, okB 12 tr) (hTl : Ts.length ≤ 13) (hT2 : 2 ≤ Ts.length) {m : Str → Option Value} (F : Fr h₀ L s.heap m) (S : LSt (· ≠ L) Ts m s.heap)
    (k : ∀ h tk m', Fr h₀ L h m' → Q (.ret (.bool true)) { s with heap := h, toks := tk }) :
    wpAny (model prog w) B (execs ((fR 11).body.drop 8) (lawEnv L a cd)) Q E s := by
  have hh := r.hh
  have hU : B.units + 100 < cLine := by have := r.units; omega
  have G := G0.keeps F.keep
  obtain ⟨vT, hvT, zT⟩ := id S.T
  obtain ⟨vX, hvX, zX⟩ := id S.X
  obtain ⟨vD, hvD, zD⟩ := id S.D
  have hsg : ∀ t ∈ Ts, SgR t := fun t ht => okB_sg (hok t ht)
  -- half = len(trees) // 2
  obtain ⟨lT, iT, rfl, hPT, pT, qT⟩ := id zT
  have sT : iT.size = Ts.length := by have := qT.length; simpa using this
  refine wpAny_execs_cons (wpAny_Assign_Name (wpAny_BinOp (lenN G (ldl F.ns hvT (Calls.call_len_list pT.isList (by omega) (wpAny_Constant_int (k := 0) (pos := ⟨0, 0, 0, 0⟩) (PyProof.Rows.floordiv_int (by decide) ?_ (Or.inl (PyProof.noPylong_of_log2 ?hp)))))))))
  case hp => decide +kernel
  obtain ⟨hf, hhf, hf1, hf2⟩ : ∃ hf : Nat, ((iT.size : Nat) : Int).fdiv 2 = (hf : Int) ∧ 1 ≤ hf ∧ hf < Ts.length := ⟨Ts.length / 2, by rw [sT, Int.fdiv_eq_ediv_of_nonneg _ (by decide)]; omega, by omega, by omega⟩
  rw [hhf]
  refine stK (s := { s with toks := _ }) F fun h₁ F₁ sb₁ => ?_
  have F₁ : Fr h₀ L h₁ _ := F₁
  have zX₁ := (rL rS).stab zX (Y := (· ≠ L)) (h' := h₁) fun b o hb q => ⟨hb, sb₁.extBut b o hb q⟩
  have zD₁ := (rL (rL (rL rS))).stab zD (Y := (· ≠ L)) (h' := h₁) fun b o hb q => ⟨hb, sb₁.extBut b o hb q⟩
  have G₁ := G0.keeps F₁.keep
  -- here = sorted(texts[:half])
  refine wpAny_execs_cons (wpAny_Assign_Name (sortN (s := { s with heap := h₁, toks := _ }) G₁ (sliceUp F₁.ns hvX rfl zX₁ (fun b hb => Lnew F₁ hb) (by rw [List.length_map]; omega) fun z₂ h₂ e₂ rz₂ => ?_)))
  have e₂ : Ext h₁ h₂ := e₂
  rw [← List.map_take] at rz₂
  refine (con_sortS (s := { s with heap := h₂, toks := _ }) rz₂ (by rw [List.length_map, List.length_take]; omega)).use fun vh s₃ hK₃ hz₃ => ?_
  obtain ⟨zs, pz, sz, rz₃⟩ := hz₃
  obtain ⟨h₃, tk₃, rfl, e₃⟩ := hK₃
  have e₃ : Ext h₂ h₃ := e₃
  have F₂ := F₁.keeps e₂
  have F₃ := F₂.keeps e₃
  have rz₃ : (rL rS).r (· ≠ L) h₃ vh zs := (rL rS).stab rz₃ fun b o hb q => ⟨Lnew F₂ hb, q⟩
  refine stK (s := { s with heap := h₃, toks := tk₃ }) F₃ fun h₄ F₄ sb₄ => ?_
  have F₄ : Fr h₀ L h₄ _ := F₄
  have up₄ : ∀ b o, b ≠ L → h₁.get? b = some o → h₄.get? b = some o := fun b o hb q => sb₄.extBut b o hb (e₃ _ _ (e₂ _ _ q))
  have zX₄ := (rL rS).stab zX₁ (Y := (· ≠ L)) (h' := h₄) fun b o hb q => ⟨hb, up₄ b o hb q⟩
  have zD₄ := (rL (rL (rL rS))).stab zD₁ (Y := (· ≠ L)) (h' := h₄) fun b o hb q => ⟨hb, up₄ b o hb q⟩
  have zh₄ := (rL rS).stab rz₃ (Y := (· ≠ L)) (h' := h₄) fun b o hb q => ⟨hb, sb₄.extBut b o hb q⟩
  have G₄ := G0.keeps F₄.keep
  -- there = sorted(texts[half:])
  refine wpAny_execs_cons (wpAny_Assign_Name (sortN (s := { s with heap := h₄, toks := _ }) G₄ (sliceFrom F₄.ns hvX rfl zX₄ (fun b hb => Lnew F₄ hb) (by rw [List.length_map]; omega) fun z₅ h₅ e₅ rz₅ => ?_)))
  have e₅ : Ext h₄ h₅ := e₅
  rw [← List.map_drop] at rz₅
  refine (con_sortS (s := { s with heap := h₅, toks := _ }) rz₅ (by rw [List.length_map, List.length_drop]; omega)).use fun vt s₆ hK₆ hz₆ => ?_
  obtain ⟨us, pu, su, rz₆⟩ := hz₆
  obtain ⟨h₆, tk₆, rfl, e₆⟩ := hK₆
  have e₆ : Ext h₅ h₆ := e₆
  have F₅ := F₄.keeps e₅
  have F₆ := F₅.keeps e₆
  have rz₆ : (rL rS).r (· ≠ L) h₆ vt us := (rL rS).stab rz₆ fun b o hb q => ⟨Lnew F₅ hb, q⟩
  refine stK (s := { s with heap := h₆, toks := tk₆ }) F₆ fun h₇ F₇ sb₇ => ?_
  have F₇ : Fr h₀ L h₇ _ := F₇
  have up₇ : ∀ b o, b ≠ L → h₄.get? b = some o → h₇.get? b = some o := fun b o hb q => sb₇.extBut b o hb (e₆ _ _ (e₅ _ _ q))
  have zD₇ := (rL (rL (rL rS))).stab zD₄ (Y := (· ≠ L)) (h' := h₇) fun b o hb q => ⟨hb, up₇ b o hb q⟩
  have zh₇ := (rL rS).stab zh₄ (Y := (· ≠ L)) (h' := h₇) fun b o hb q => ⟨hb, up₇ b o hb q⟩
  have zt₇ := (rL rS).stab rz₆ (Y := (· ≠ L)) (h' := h₇) fun b o hb q => ⟨hb, sb₇.extBut b o hb q⟩
  have G₇ := G0.keeps F₇.keep
  have lz : zs.length = hf := by rw [pz.length_eq, List.length_map, List.length_take]; omega
  have lu : us.length = Ts.length - hf := by rw [pu.length_eq, List.length_map, List.length_drop]
  have nz : zs ≠ [] := fun e => by rw [e] at lz; simp at lz; omega
  have nu : us ≠ [] := fun e => by rw [e] at lu; simp at lu; omega
  have hal := sld_alone sz su nz nu
  have hL0 : h₀.get? L = none := Heap.get?_none_of_le F.above
  -- told = sorted_list_difference(here, there)
  refine wpAny_execs_cons (wpAny_Assign_Name (callN2 (s := { s with heap := h₇, toks := _ }) (k := 1) G₇ (by omega) fun g hF => ldl F₇.ns rfl (ldl F₇.ns rfl ⟨Ext.refl _, con_sld (s := { s with heap := h₇, toks := _ }) (base := h₀) G₇ (r.mono (by omega)) hF hfr (.cons (show (fR 11).scope.kind ≠ .module by decide) rfl F₇.ns hL0 trivial) F₇.keep ordS (by omega) zh₇ zt₇ (by omega) (by omega) fun zp h₈ tk₈ st₈ us₈ pr => ?_⟩)))
  have us₈ : h₇.UpToSlots h₈ := us₈
  rw [hal] at pr
  obtain ⟨tp, l1, l2, rfl, q₈, r1, r2⟩ := pr
  have F₈ : Fr h₀ L h₈ _ := ⟨us₈.ns F₇.ns, st₈, F₇.above⟩
  have r1 := apartL apartS F₈.ns r1
  have r2 := apartL apartS F₈.ns r2
  have tL : tp ≠ L := by
    rintro rfl
    obtain ⟨o', es, ep, q', hd', _⟩ := F₈.ns
    rw [q₈] at q'; cases q'; cases hd'
  have zD₈ := (rL (rL (rL rS))).up zD₇ us₈
  have zh₈ := (rL rS).up zh₇ us₈
  have zt₈ := (rL rS).up zt₇ us₈
  refine stK (s := { s with heap := h₈, toks := tk₈ }) F₈ fun h₉ F₉ sb₉ => ?_
  have F₉ : Fr h₀ L h₉ _ := F₉
  have zD₉ := (rL (rL (rL rS))).stab zD₈ (Y := (· ≠ L)) (h' := h₉) fun b o hb q => ⟨hb, sb₉.extBut b o hb q⟩
  have zh₉ := (rL rS).stab zh₈ (Y := (· ≠ L)) (h' := h₉) fun b o hb q => ⟨hb, sb₉.extBut b o hb q⟩
  have zt₉ := (rL rS).stab zt₈ (Y := (· ≠ L)) (h' := h₉) fun b o hb q => ⟨hb, sb₉.extBut b o hb q⟩
  have r1 := (rL rS).stab r1 (Y := (· ≠ L)) (h' := h₉) fun b o hb q => ⟨hb, sb₉.extBut b o hb q⟩
  have r2 := (rL rS).stab r2 (Y := (· ≠ L)) (h' := h₉) fun b o hb q => ⟨hb, sb₉.extBut b o hb q⟩
  have q₉ := sb₉.extBut _ _ tL q₈
  have G₉ := G0.keeps F₉.keep
  -- if told != (..): return False
  refine wpAny_execs_cons (wpAny_If (wpAny_isTrue_Compare1 (ldl F₉.ns rfl (wpAny_Tuple (Calls.spliced_cons (callN2 (s := { s with heap := h₉, toks := _ }) (k := 9) G₉ (by omega) fun g hF => ldl F₉.ns rfl (ldl F₉.ns rfl ⟨Ext.refl _, (con_alone (s := { s with heap := h₉, toks := _ }) G₉ (r.mono (by omega)) hF zh₉ zt₉ (by omega) (by omega) nu).use fun y1 s₁₀ hK₁₀ hy1 => ?_⟩)))))))
  obtain ⟨h₁₀, tk₁₀, rfl, e₁₀⟩ := hK₁₀
  have e₁₀ : Ext h₉ h₁₀ := e₁₀
  have F₁₀ := F₉.keeps e₁₀
  have G₁₀ := G0.keeps F₁₀.keep
  refine Calls.spliced_cons (callN2 (s := { s with heap := h₁₀, toks := tk₁₀ }) (k := 9) G₁₀ (by omega) fun g hF => ldl F₁₀.ns rfl (ldl F₁₀.ns rfl ⟨Ext.refl _, (con_alone (s := { s with heap := h₁₀, toks := tk₁₀ }) G₁₀ (r.mono (by omega)) hF ((rL rS).ext zt₉ e₁₀) ((rL rS).ext zh₉ e₁₀) (by omega) (by omega) nz).use fun y2 s₁₁ hK₁₁ hy2 => Calls.spliced_nil ⟨by rw [sizeLine_eq]; simp, ?_⟩⟩))
  obtain ⟨h₁₁, tk₁₁, rfl, e₁₁⟩ := hK₁₁
  have e₁₁ : Ext h₁₀ h₁₁ := e₁₁
  dsimp only
  have eP : Ext h₁₁ (h₁₁.push { cls := .type "tuple", data := .seq [y1, y2].toArray }) := push_ext _ _
  have pz₁ : PairR rS (h₁₁.push { cls := .type "tuple", data := .seq [y1, y2].toArray }) (.ref h₁₁.objs.size) (alone zs us, alone us zs) :=
    ⟨_, y1, y2, rfl, Heap.get?_push_size _ rfl, (rL rS).any ((rL rS).ext ((rL rS).ext hy1 e₁₁) eP), (rL rS).any ((rL rS).ext hy2 eP)⟩
  have e₁₂ : Ext h₉ (h₁₁.push { cls := .type "tuple", data := .seq [y1, y2].toArray }) := fun b o q => eP _ _ (e₁₁ _ _ (e₁₀ _ _ q))
  generalize h₁₁.push { cls := .type "tuple", data := .seq [y1, y2].toArray } = h₁₂ at pz₁ e₁₂ ⊢
  have F₁₂ := F₉.keeps e₁₂
  have r1 := (rL rS).ext r1 e₁₂
  have r2 := (rL rS).ext r2 e₁₂
  have q₁₂ := e₁₂ _ _ q₉
  have pT₁ : PairR rS h₁₂ (.ref tp) (alone zs us, alone us zs) := ⟨tp, l1, l2, rfl, q₁₂, (rL rS).any r1, (rL rS).any r2⟩
  refine (pair_cmp (s := { s with heap := h₁₂, toks := tk₁₁ }) ordS (by omega) pT₁ pz₁).2 (wpAny_truthy_bool ?_)
  simp only [Bool.false_eq_true, if_false]
  refine wpAny_execs_nil ?_
  have zD₁₂ := (rL (rL (rL rS))).ext zD₉ e₁₂
  have G₁₂ := G0.keeps F₁₂.keep
  -- below = sorted_list_difference(sorted(deep[:half]), sorted(deep[half:]))
  refine wpAny_execs_cons (wpAny_Assign_Name (callN2L (s := { s with heap := h₁₂, toks := tk₁₁ }) (k := 1) G₁₂ (by omega) fun g hg hF => sortN (s := { s with heap := h₁₂, toks := tk₁₁ }) G₁₂ (sliceUp F₁₂.ns hvD rfl zD₁₂ (fun b hb => Lnew F₁₂ hb) (by rw [List.length_map]; omega) fun z₁₃ h₁₃ e₁₃ rz₁₃ => ?_)))
  have e₁₃ : Ext h₁₂ h₁₃ := e₁₃
  have F₁₃ := F₁₂.keeps e₁₃
  rw [← List.map_take] at rz₁₃
  refine con_sortL (s := { s with heap := h₁₃, toks := tk₁₁ }) (R := rL rS) (c := c1) (n := 1) (ordL ordS) c2_lin (by omega) F₁₃ rz₁₃ (by rw [List.length_map, List.length_take]; omega) fun D₁ h₁₄ ws F₁₄ k₁₄ pw sw rw₁₄ => ?_
  have k₁₄ : ∀ b o, b ≠ L → h₁₃.get? b = some o → h₁₄.get? b = some o := k₁₄
  have G₁₄ := G0.keeps F₁₄.keep
  have up₁₄ : ∀ b o, b ≠ L → h₁₂.get? b = some o → h₁₄.get? b = some o := fun b o hb q => k₁₄ b o hb (e₁₃ _ _ q)
  have zD₁₄ := (rL (rL (rL rS))).stab zD₁₂ (Y := (· ≠ L)) (h' := h₁₄) fun b o hb q => ⟨hb, up₁₄ b o hb q⟩
  refine sortN (s := { s with heap := h₁₄, toks := tk₁₁ }) G₁₄ (sliceFrom F₁₄.ns hvD rfl zD₁₄ (fun b hb => Lnew F₁₄ hb) (by rw [List.length_map]; omega) fun z₁₅ h₁₅ e₁₅ rz₁₅ => ?_)
  have e₁₅ : Ext h₁₄ h₁₅ := e₁₅
  have F₁₅ := F₁₄.keeps e₁₅
  rw [← List.map_drop] at rz₁₅
  refine con_sortL (s := { s with heap := h₁₅, toks := tk₁₁ }) (R := rL rS) (c := c1) (n := 1) (ordL ordS) c2_lin (by omega) F₁₅ rz₁₅ (by rw [List.length_map, List.length_drop]; omega) fun D₂ h₁₆ xs F₁₆ k₁₆ px sx rx₁₆ => ?_
  have k₁₆ : ∀ b o, b ≠ L → h₁₅.get? b = some o → h₁₆.get? b = some o := k₁₆
  have up₁₆ : ∀ b o, b ≠ L → h₁₄.get? b = some o → h₁₆.get? b = some o := fun b o hb q => k₁₆ b o hb (e₁₅ _ _ q)
  have G₁₆ := G0.keeps F₁₆.keep
  have rw₁₆ := (rL (rL (rL rS))).stab rw₁₄ (Y := (· ≠ L)) (h' := h₁₆) fun b o hb q => ⟨hb, up₁₆ b o hb q⟩
  have up₂ : ∀ b o, b ≠ L → h₁₂.get? b = some o → h₁₆.get? b = some o := fun b o hb q => up₁₆ b o hb (up₁₄ b o hb q)
  have gL := isFun_ne hF F₁₂.ns
  have lw : ws.length = hf := by rw [pw.length_eq, List.length_map, List.length_take]; omega
  have lx : xs.length = Ts.length - hf := by rw [px.length_eq, List.length_map, List.length_drop]
  have hF16 : isFun h₁₆ 1 g := by
    obtain ⟨g', hg', hF'⟩ := G₁₆.fn 1 (by omega)
    rw [hg] at hg'; cases hg'; exact hF'
  refine ⟨fun o q => up₂ _ _ gL q, con_sld (s := { s with heap := h₁₆, toks := tk₁₁ }) (base := h₀) G₁₆ (r.mono (by omega)) hF16 hfr (.cons (show (fR 11).scope.kind ≠ .module by decide) rfl F₁₆.ns hL0 trivial) F₁₆.keep (ordL (ordL ordS)) (by omega) rw₁₆ rx₁₆ (by omega) (by omega) fun zp h₁₇ tk₁₇ st₁₇ us₁₇ pr => ?_⟩
  have us₁₇ : h₁₆.UpToSlots h₁₇ := us₁₇
  have F₁₇ : Fr h₀ L h₁₇ _ := ⟨us₁₇.ns F₁₆.ns, st₁₇, F₁₆.above⟩
  have hsl := read_sld (fun t ht => hsg t (List.mem_of_mem_take ht)) (fun t ht => hsg t (List.mem_of_mem_drop ht)) pz sz pw sw pu su px sx
  rw [hal] at hsl
  dsimp only at hsl
  have pr : PairR (rL (rL rS)) h₁₇ zp (sld c2 ws xs) := pr
  rw [hsl] at pr
  obtain ⟨tb, b1, b2, rfl, q₁₇, rb1, rb2⟩ := pr
  have rb1 := apartL (apartL (apartL apartS)) F₁₇.ns rb1
  have rb2 := apartL (apartL (apartL apartS)) F₁₇.ns rb2
  have tbL : tb ≠ L := by
    rintro rfl
    obtain ⟨o', es, ep, q', hd', _⟩ := F₁₇.ns
    rw [q₁₇] at q'; cases q'; cases hd'
  have r1 := (rL rS).up ((rL rS).stab r1 (Y := (· ≠ L)) (h' := h₁₆) fun b o hb q => ⟨hb, up₂ b o hb q⟩) us₁₇
  have r2 := (rL rS).up ((rL rS).stab r2 (Y := (· ≠ L)) (h' := h₁₆) fun b o hb q => ⟨hb, up₂ b o hb q⟩) us₁₇
  obtain ⟨slt, qt₁₇⟩ := us₁₇ _ _ (up₂ _ _ tL q₁₂) fun vs q => by cases q
  refine stK (s := { s with heap := h₁₇, toks := tk₁₇ }) F₁₇ fun h₁₈ F₁₈ sb₁₈ => ?_
  have F₁₈ : Fr h₀ L h₁₈ _ := F₁₈
  have r1 := (rL rS).stab r1 (Y := (· ≠ L)) (h' := h₁₈) fun b o hb q => ⟨hb, sb₁₈.extBut b o hb q⟩
  have r2 := (rL rS).stab r2 (Y := (· ≠ L)) (h' := h₁₈) fun b o hb q => ⟨hb, sb₁₈.extBut b o hb q⟩
  have rb1 := (rL (rL (rL rS))).stab rb1 (Y := (· ≠ L)) (h' := h₁₈) fun b o hb q => ⟨hb, sb₁₈.extBut b o hb q⟩
  have rb2 := (rL (rL (rL rS))).stab rb2 (Y := (· ≠ L)) (h' := h₁₈) fun b o hb q => ⟨hb, sb₁₈.extBut b o hb q⟩
  have qb₁₈ := sb₁₈.extBut _ _ tbL q₁₇
  have qt₁₈ : IsTup h₁₈ tp #[l1, l2] := ⟨_, sb₁₈.extBut _ _ tL qt₁₇, rfl, _, rfl⟩
  have G₁₈ := G0.keeps F₁₈.keep
  have memz : ∀ x, x ∈ alone zs us → x.length ≤ 10000 := fun x hx => by
    obtain ⟨tr, htr, rfl⟩ := List.mem_map.mp (pz.mem_iff.mp (alone_mem hx))
    exact (tree_wt (hok tr (List.mem_of_mem_take htr))).2
  have memu : ∀ x, x ∈ alone us zs → x.length ≤ 10000 := fun x hx => by
    obtain ⟨tr, htr, rfl⟩ := List.mem_map.mp (pu.mem_iff.mp (alone_mem hx))
    exact (tree_wt (hok tr (List.mem_of_mem_drop htr))).2
  have lenz : (alone zs us).length ≤ zs.length := by
    unfold alone; rw [List.length_map]
    exact Nat.le_trans (List.length_filter_le _ _) (by simp)
  have lenu : (alone us zs).length ≤ us.length := by
    unfold alone; rw [List.length_map]
    exact Nat.le_trans (List.length_filter_le _ _) (by simp)
  -- return below == ([..], [..])
  refine wpAny_execs_cons (wpAny_Return_some (wpAny_Compare1 (ldl F₁₈.ns rfl (wpAny_Tuple (Calls.spliced_cons ?_)))))
  refine (comp_val (s := { s with heap := h₁₈, toks := _ }) (RI := rS) (R := rL (rL rS)) (xs := alone zs us) (p := fun _ => true) (f := readT) (closureFor_none (by decide)) (by decide) rfl (by decide) rfl ?hit1 ⟨fun _ _ _ _ _ _ _ _ _ _ => tests0 rfl, ?elt1⟩ (by rw [sizeLine_eq]; omega)).use fun y₁ s₁₉ hK₁₉ hy₁ => ?_
  case hit1 =>
    intro E
    exact Subscript_Constant (ldl F₁₈.ns rfl (wpAny_Constant_int (k := 0) (pos := ⟨0, 0, 0, 0⟩) ⟨"tuple", _, PyProof.Rows.slot_tuple_getitem.lookup, qt₁₈.typeIs, PyProof.Rows.getItem_tuple (j := 0) qt₁₈ (by decide) (by decide) rfl rfl ⟨kOf (Ext.refl _), Src.ofL hh r1⟩⟩))
  case elt1 =>
    intro x hx _ C v s₁ m₁ e₁ hv₁ hn₁ hm₁ E
    obtain ⟨tx, rfl⟩ := hv₁
    have G₁ := G₁₈.keeps e₁
    exact callN1 (k := 10) G₁ (by omega) fun f hF => ldl hn₁ hm₁ ⟨Ext.refl _, (con_read G₁ (r.mono (by omega)) hF rfl (by have := memz x hx; omega)).use fun z s' hK hz => ⟨hK, hz⟩⟩
  obtain ⟨h₁₉, tk₁₉, rfl, e₁₉⟩ := hK₁₉
  have e₁₉ : Ext h₁₈ h₁₉ := e₁₉
  have F₁₉ := F₁₈.keeps e₁₉
  have G₁₉ := G0.keeps F₁₉.keep
  have qt₁₉ := qt₁₈.keeps e₁₉
  have r2 := (rL rS).ext r2 e₁₉
  refine Calls.spliced_cons ((comp_val (s := { s with heap := h₁₉, toks := tk₁₉ }) (RI := rS) (R := rL (rL rS)) (xs := alone us zs) (p := fun _ => true) (f := readT) (closureFor_none (by decide)) (by decide) rfl (by decide) rfl ?hit2 ⟨fun _ _ _ _ _ _ _ _ _ _ => tests0 rfl, ?elt2⟩ (by rw [sizeLine_eq]; omega)).use fun y₂ s₂₀ hK₂₀ hy₂ => Calls.spliced_nil ⟨by rw [sizeLine_eq]; simp, ?_⟩)
  case hit2 =>
    intro E
    exact Subscript_Constant (ldl F₁₉.ns rfl (wpAny_Constant_int (k := 0) (pos := ⟨0, 0, 0, 0⟩) ⟨"tuple", _, PyProof.Rows.slot_tuple_getitem.lookup, qt₁₉.typeIs, PyProof.Rows.getItem_tuple (j := 1) qt₁₉ (by decide) (by decide) rfl rfl ⟨kOf (Ext.refl _), Src.ofL hh r2⟩⟩))
  case elt2 =>
    intro x hx _ C v s₁ m₁ e₁ hv₁ hn₁ hm₁ E
    obtain ⟨tx, rfl⟩ := hv₁
    have G₁ := G₁₉.keeps e₁
    exact callN1 (k := 10) G₁ (by omega) fun f hF => ldl hn₁ hm₁ ⟨Ext.refl _, (con_read G₁ (r.mono (by omega)) hF rfl (by have := memu x hx; omega)).use fun z s' hK hz => ⟨hK, hz⟩⟩
  obtain ⟨h₂₀, tk₂₀, rfl, e₂₀⟩ := hK₂₀
  have e₂₀ : Ext h₁₉ h₂₀ := e₂₀
  rw [filt_map] at hy₁ hy₂
  dsimp only
  have eP : Ext h₂₀ (h₂₀.push { cls := .type "tuple", data := .seq [y₁, y₂].toArray }) := push_ext _ _
  have pz₂ : PairR (rL (rL rS)) (h₂₀.push { cls := .type "tuple", data := .seq [y₁, y₂].toArray }) (.ref h₂₀.objs.size) ((alone zs us).map readT, (alone us zs).map readT) :=
    ⟨_, y₁, y₂, rfl, Heap.get?_push_size _ rfl, (rL (rL (rL rS))).any ((rL (rL (rL rS))).ext ((rL (rL (rL rS))).ext hy₁ e₂₀) eP), (rL (rL (rL rS))).any ((rL (rL (rL rS))).ext hy₂ eP)⟩
  have e₂₁ : Ext h₁₈ (h₂₀.push { cls := .type "tuple", data := .seq [y₁, y₂].toArray }) := fun b o q => eP _ _ (e₂₀ _ _ (e₁₉ _ _ q))
  generalize h₂₀.push { cls := .type "tuple", data := .seq [y₁, y₂].toArray } = h₂₁ at pz₂ e₂₁ ⊢
  have pb : PairR (rL (rL rS)) h₂₁ (.ref tb) ((alone zs us).map readT, (alone us zs).map readT) := ⟨tb, b1, b2, rfl, e₂₁ _ _ qb₁₈, (rL (rL (rL rS))).any ((rL (rL (rL rS))).ext rb1 e₂₁), (rL (rL (rL rS))).any ((rL (rL (rL rS))).ext rb2 e₂₁)⟩
  exact (pair_cmp (s := { s with heap := h₂₁, toks := tk₂₀ }) (ordL (ordL ordS)) (by omega) pb pz₂).1 (k _ _ _ (F₁₈.keeps e₂₁))
end
end Mine
end

/-! text L1 -/
section
open PySem PySem.W PyProof.Rows
set_option Elab.async false
set_option maxRecDepth 100000
namespace Mine
section
variable {prog : Program} {w : World} {B : Around} {s : Shared} {h₀ : Heap} {L a : Addr} {cd : Value}

set_option maxHeartbeats 4000000 in
theorem law_body {mg mb : Str → Option Value} (G0 : Gl mg mb h₀) (r : Rm 6 B) (hfr : B.frames = some [lawEnv L a cd]) {l : Addr} {vs : List Value} {ns : List Int} (hl : h₀.IsList l vs.toArray) (hi : IntsAre vs ns) (hn : ns.length ≤ 63)
    {m : Str → Option Value} (F : Fr h₀ L s.heap m) (hm : m "script" = some (.ref l)) {E : Value → Shared → Prop} :
    wpAny (model prog w) B (execs (fR 11).body (lawEnv L a cd)) (fun f s' => f = .ret (.bool true) ∧ ∃ h tk m', Fr h₀ L h m' ∧ s' = { s with heap := h, toks := tk }) E s := by
  have hh := r.hh
  have G := G0.keeps F.keep
  generalize hks : (([5, 1, 4] ++ ns.take 9).map fun n : Int => (n.fmod 8).toNat) = ks
  -- trees = _law_trees(script)
  refine wpAny_execs_cons (wpAny_Assign_Name (callN1 (k := 6) G (by omega) fun f hF => ldl F.ns hm ⟨Ext.refl _, (con_trees G (r.mono (by omega)) hF (hl.at fun o e => F.keep _ _ e) hi hn).use fun z s₁ hK₁ hz => ?_⟩))
  obtain ⟨h₁, tk₁, rfl, e₁⟩ := hK₁
  have e₁ : Ext s.heap h₁ := e₁
  rw [hks] at hz
  obtain ⟨hT1, hT2⟩ := trees_ok ks
  generalize hTs : treesOf ks = Ts at hz hT1 hT2
  have F₁ := F.keeps e₁
  have hks12 : ks.length ≤ 12 := by rw [← hks]; simp; omega
  have hok : ∀ tr ∈ Ts, okB 12 tr := fun tr h => okB_le hks12 (hT2 tr h)
  have hTl : Ts.length ≤ 13 := by omega
  refine stK (s := { s with heap := h₁, toks := tk₁ }) F₁ fun h₂ F₂ sb₂ => ?_
  have Lnew : ∀ {h : Heap} {m : Str → Option Value} {b : Addr}, Fr h₀ L h m → h.get? b = none → b ≠ L := fun {h m b} F hb e => by
    obtain ⟨o, _, _, q, _⟩ := F.ns
    rw [← e, hb] at q; cases q
  have zT : (rL (rL (rL rS))).r (· ≠ L) h₂ z Ts := (rL (rL (rL rS))).stab hz fun b o hb q => ⟨Lnew F hb, sb₂.extBut b o (Lnew F hb) q⟩
  have G₂ := G0.keeps F₂.keep
  -- texts
  refine wpAny_execs_cons (comp_assign (RI := rL (rL rS)) (R := rS) (xs := Ts) (p := fun _ => true) (f := txt) (by rfl) (closureFor_none (by decide)) (by decide) rfl (by decide) rfl rfl rfl F₂.ns (fun E => ldl F₂.ns rfl ⟨kRefl _, Src.ofL hh zT⟩) ⟨fun _ _ _ _ _ _ _ _ _ _ => tests0 rfl, ?elt1⟩ (by rw [sizeLine_eq]; omega) fun D₁ h₃ tk₃ n₃ r₃ k₃ => ?_)
  case elt1 =>
    intro tr htr _ C v s₃ m₃ e₃ hv₃ hn₃ hm₃ E
    have G₃ := G₂.keeps e₃
    have htr' := hok tr htr
    refine callN1 (k := 7) G₃ (by omega) fun f hF => (comp_val (RI := rL rS) (R := rS) (xs := tr) (p := fun _ => true) (f := written) (closureFor_none (by decide)) (by decide) rfl (by decide) rfl (fun E => ldl hn₃ hm₃ ⟨kRefl _, Src.ofL hh hv₃⟩) ⟨fun _ _ _ _ _ _ _ _ _ _ => tests0 rfl, ?elt2⟩ (by have := htr'.1; rw [sizeLine_eq]; omega)).use fun z₄ s₄ hK₄ hz₄ => ⟨kExt hK₄, ?_⟩
    case elt2 =>
      intro x hx _ C' v' s₄ m₄ e₄ hv₄ hn₄ hm₄ E
      have G₄ := G₃.keeps e₄
      exact callN1 (k := 7) G₄ (by omega) fun f hF => ldl hn₄ hm₄ ⟨Ext.refl _, (con_written (r.mono (by omega)) hF G₄.nolimit hv₄ (by have := (inn_wt (htr'.2 x hx)).1; omega)).use fun z s' hK hz => ⟨hK, hz⟩⟩
    rw [filt_map] at hz₄
    have e₄ := kExt hK₄
    exact (con_written (r.mono (by omega)) (isFunK hF e₄) (G₃.keeps e₄).nolimit hz₄ (by have := (tree_wt htr').1; omega)).use fun z s' hK hz => ⟨kTrans hK₄ hK, hz⟩
  rw [filt_map] at r₃
  have r₃ : (rL rS).r (New h₂) h₃ (.ref D₁) (Ts.map txt) := r₃
  have k₃ : ∀ b o, b ≠ L → h₂.get? b = some o → h₃.get? b = some o := k₃
  have F₃ : Fr h₀ L h₃ _ := ⟨n₃, fun b o q => k₃ b o (fun e => by have := Heap.lt_size q; rw [e] at this; exact absurd this (Nat.not_lt.mpr F.above)) (F₂.keep b o q), F.above⟩
  have zX : (rL rS).r (· ≠ L) h₃ (.ref D₁) (Ts.map txt) := (rL rS).stab r₃ fun b o hb q => ⟨Lnew F₂ hb, q⟩
  have zT := (rL (rL (rL rS))).stab zT (Y := (· ≠ L)) (h' := h₃) fun b o hb q => ⟨hb, k₃ b o hb q⟩
  have G₃ := G0.keeps F₃.keep
  -- rows
  refine wpAny_execs_cons (comp_assign (RI := rS) (R := rL rS) (xs := Ts.map txt) (p := fun _ => true) (f := parse) (by rfl) (closureFor_none (by decide)) (by decide) rfl (by decide) rfl rfl rfl F₃.ns (fun E => ldl F₃.ns rfl ⟨kRefl _, Src.ofL hh zX⟩) ⟨fun _ _ _ _ _ _ _ _ _ _ => tests0 rfl, ?elt3⟩ (by rw [sizeLine_eq, List.length_map]; omega) fun D₂ h₄ tk₄ n₄ r₄ k₄ => ?_)
  case elt3 =>
    intro x hx _ C v s₄ m₄ e₄ hv₄ hn₄ hm₄ E
    obtain ⟨tr, htr, rfl⟩ := List.mem_map.mp hx
    obtain ⟨tx, rfl⟩ := hv₄
    have G₄ := G₃.keeps e₄
    exact callN1 (k := 4) G₄ (by omega) fun f hF => ldl hn₄ hm₄ ⟨Ext.refl _, (con_parse (r.mono (by omega)) hF G₄.nolimit rfl (by have := (tree_wt (hok tr htr)).2; omega)).use fun z s' hK hz => ⟨hK, hz⟩⟩
  rw [filt_map, List.map_map, show parse ∘ txt = row from funext parse_txt] at r₄
  have r₄ : (rL (rL rS)).r (New h₃) h₄ (.ref D₂) (Ts.map row) := r₄
  have k₄ : ∀ b o, b ≠ L → h₃.get? b = some o → h₄.get? b = some o := k₄
  have F₄ : Fr h₀ L h₄ _ := ⟨n₄, fun b o q => k₄ b o (fun e => by have := Heap.lt_size q; rw [e] at this; exact absurd this (Nat.not_lt.mpr F.above)) (F₃.keep b o q), F.above⟩
  have zR : (rL (rL rS)).r (· ≠ L) h₄ (.ref D₂) (Ts.map row) := (rL (rL rS)).stab r₄ fun b o hb q => ⟨Lnew F₃ hb, q⟩
  have zT := (rL (rL (rL rS))).stab zT (Y := (· ≠ L)) (h' := h₄) fun b o hb q => ⟨hb, k₄ b o hb q⟩
  have zX := (rL rS).stab zX (Y := (· ≠ L)) (h' := h₄) fun b o hb q => ⟨hb, k₄ b o hb q⟩
  have G₄ := G0.keeps F₄.keep
  -- if rows != [..]: return False
  refine wpAny_execs_cons (wpAny_If (wpAny_isTrue_Compare1 (ldl F₄.ns rfl ?_)))
  refine (comp_val (s := { s with heap := h₄, toks := tk₄ }) (RI := rL (rL rS)) (R := rL rS) (xs := Ts) (p := fun _ => true) (f := row) (closureFor_none (by decide)) (by decide) rfl (by decide) rfl (fun E => ldl F₄.ns rfl ⟨kRefl _, Src.ofL hh zT⟩) ⟨fun _ _ _ _ _ _ _ _ _ _ => tests0 rfl, ?elt4⟩ (by rw [sizeLine_eq]; omega)).use fun z₅ s₅ hK₅ hz₅ => ?_
  case elt4 =>
    intro tr htr _ C v s₅ m₅ e₅ hv₅ hn₅ hm₅
    have htr' := hok tr htr
    have G₅ := G₄.keeps e₅
    refine (comp_val (RI := rL rS) (R := rS) (xs := tr) (p := fun _ => true) (f := fun x => qt (written x)) (closureFor_none (by decide)) (by decide) rfl (by decide) rfl (fun E => ldl hn₅ hm₅ ⟨kRefl _, Src.ofL hh hv₅⟩) ⟨fun _ _ _ _ _ _ _ _ _ _ => tests0 rfl, ?elt5⟩ (by have := htr'.1; rw [sizeLine_eq]; omega)).mono fun z s' _ hz => by rw [filt_map] at hz; exact hz
    case elt5 =>
      intro x hx _ C' v' s₆ m₆ e₆ hv₆ hn₆ hm₆ E
      have G₆ := G₅.keeps e₆
      have hw := inn_wt (htr'.2 x hx)
      refine wpAny_BinOp (wpAny_BinOp (cstr (l := [34]) fun t₁ => callN1 (s := { s₆ with toks := s₆.toks + 1 }) (k := 7) G₆ (by omega) fun f hF => ldl hn₆ hm₆ ⟨Ext.refl _, (con_written (s := { s₆ with toks := s₆.toks + 1 }) (r.mono (by omega)) hF G₆.nolimit hv₆ (by omega)).use fun z s' hK hz => ?_⟩))
      obtain ⟨t₂, rfl⟩ := hz
      obtain ⟨h', tk', rfl, e'⟩ := hK
      refine addS (by simp only [List.length_singleton]; omega) fun t₃ tk₃ => cstr (l := [34]) fun t₄ => addS (by simp only [List.length_append, List.length_singleton]; omega) fun t₅ tk₅ => ⟨kOf e', t₅, ?_⟩
      simp [qt]
  obtain ⟨h₅, tk₅, rfl, e₅⟩ := hK₅
  have e₅ : Ext h₄ h₅ := e₅
  rw [filt_map] at hz₅
  have hU : B.units + 100 < cLine := by have := r.units; omega
  refine (cmp_op (ordL (ordL ordS)) (by omega) (s := { s with heap := h₅, toks := tk₅ }) ((rL (rL rS)).ext zR e₅) hz₅).2.2.2 (wpAny_truthy_bool ?_)
  rw [show (c2 (Ts.map row) (Ts.map row) != .eq) = false by rw [c2_lin.rf]; rfl]
  simp only [Bool.false_eq_true, if_false]
  refine wpAny_execs_nil ?_
  have F₅ := F₄.keeps e₅
  have zT := (rL (rL (rL rS))).ext zT e₅
  have zX := (rL rS).ext zX e₅
  have zR := (rL (rL rS)).ext zR e₅
  have G₅ := G0.keeps F₅.keep
  -- deep
  refine wpAny_execs_cons (comp_assign (s := { s with heap := h₅, toks := tk₅ }) (RI := rL rS) (R := rL (rL rS)) (xs := Ts.map row) (p := fun _ => true) (f := fun rw => rw.map fun it => parse (cut it)) (by rfl) (closureFor_none (by decide)) (by decide) rfl (by decide) rfl rfl rfl F₅.ns (fun E => ldl F₅.ns rfl ⟨kRefl _, Src.ofL hh zR⟩) ⟨fun _ _ _ _ _ _ _ _ _ _ => tests0 rfl, ?elt6⟩ (by rw [sizeLine_eq, List.length_map]; omega) fun D₃ h₆ tk₆ n₆ r₆ k₆ => ?_)
  case elt6 =>
    intro rw' hrw _ C v s₆ m₆ e₆ hv₆ hn₆ hm₆
    obtain ⟨tr, htr, rfl⟩ := List.mem_map.mp hrw
    have htr' := hok tr htr
    have G₆ := G₅.keeps e₆
    refine (comp_val (RI := rS) (R := rL rS) (xs := row tr) (p := fun _ => true) (f := fun it => parse (cut it)) (closureFor_none (by decide)) (by decide) rfl (by decide) rfl (fun E => ldl hn₆ hm₆ ⟨kRefl _, Src.ofL hh hv₆⟩) ⟨fun _ _ _ _ _ _ _ _ _ _ => tests0 rfl, ?elt7⟩ (by have := htr'.1; rw [sizeLine_eq]; unfold row; rw [List.length_map]; omega)).mono fun z s' _ hz => by rw [filt_map] at hz; exact hz
    case elt7 =>
      intro t ht _ C' v' s₇ m₇ e₇ hv₇ hn₇ hm₇ E
      obtain ⟨tt, rfl⟩ := hv₇
      obtain ⟨x, hx, rfl⟩ := List.mem_map.mp ht
      have hw := inn_wt (htr'.2 x hx)
      have hlen : (qt (written x)).length ≤ 402 := by simp [qt]; omega
      have hc := cut_len (qt (written x))
      have G₇ := G₆.keeps e₇
      refine callN1 (k := 4) G₇ (by omega) fun f hF => cutE hn₇ hm₇ (by omega) fun t' h' tk e' => ⟨e', ?_⟩
      exact (con_parse (s := { s₇ with heap := h', toks := tk }) (r.mono (by omega)) (isFunK hF e') (G₇.keeps e').nolimit rfl (by omega)).use fun z s' hK hz => ⟨kTrans (kOf e') hK, (rL rS).older hz e'⟩
  rw [filt_map, List.map_map, show ((fun rw : List (List Nat) => rw.map fun it => parse (cut it)) ∘ row) = dp from funext read_row] at r₆
  have r₆ : (rL (rL (rL rS))).r (New h₅) h₆ (.ref D₃) (Ts.map dp) := r₆
  have k₆ : ∀ b o, b ≠ L → h₅.get? b = some o → h₆.get? b = some o := k₆
  have F₆ : Fr h₀ L h₆ _ := ⟨n₆, fun b o q => k₆ b o (fun e => by have := Heap.lt_size q; rw [e] at this; exact absurd this (Nat.not_lt.mpr F.above)) (F₅.keep b o q), F.above⟩
  have zD : (rL (rL (rL rS))).r (· ≠ L) h₆ (.ref D₃) (Ts.map dp) := (rL (rL (rL rS))).stab r₆ fun b o hb q => ⟨Lnew F₅ hb, q⟩
  have zT := (rL (rL (rL rS))).stab zT (Y := (· ≠ L)) (h' := h₆) fun b o hb q => ⟨hb, k₆ b o hb q⟩
  have zX := (rL rS).stab zX (Y := (· ≠ L)) (h' := h₆) fun b o hb q => ⟨hb, k₆ b o hb q⟩
  have zR := (rL (rL rS)).stab zR (Y := (· ≠ L)) (h' := h₆) fun b o hb q => ⟨hb, k₆ b o hb q⟩
  have G₆ := G0.keeps F₆.keep
  -- if deep != [..]: return False
  refine wpAny_execs_cons (wpAny_If (wpAny_isTrue_Compare1 (ldl F₆.ns rfl ?_)))
  refine (comp_val (s := { s with heap := h₆, toks := tk₆ }) (RI := rL (rL rS)) (R := rL (rL rS)) (xs := Ts) (p := fun _ => true) (f := dp) (closureFor_none (by decide)) (by decide) rfl (by decide) rfl (fun E => ldl F₆.ns rfl ⟨kRefl _, Src.ofL hh zT⟩) ⟨fun _ _ _ _ _ _ _ _ _ _ => tests0 rfl, ?elt8⟩ (by rw [sizeLine_eq]; omega)).use fun z₇ s₇ hK₇ hz₇ => ?_
  case elt8 =>
    intro tr htr _ C v s₇ m₇ e₇ hv₇ hn₇ hm₇
    have htr' := hok tr htr
    have G₇ := G₆.keeps e₇
    refine (comp_val (RI := rL rS) (R := rL rS) (xs := tr) (p := fun _ => true) (f := fun x => x.map qt) (closureFor_none (by decide)) (by decide) rfl (by decide) rfl (fun E => ldl hn₇ hm₇ ⟨kRefl _, Src.ofL hh hv₇⟩) ⟨fun _ _ _ _ _ _ _ _ _ _ => tests0 rfl, ?elt9⟩ (by have := htr'.1; rw [sizeLine_eq]; omega)).mono fun z s' _ hz => by rw [filt_map] at hz; exact hz
    case elt9 =>
      intro x hx _ C' v' s₈ m₈ e₈ hv₈ hn₈ hm₈
      have hx' := htr'.2 x hx
      refine (comp_val (RI := rS) (R := rS) (xs := x) (p := fun _ => true) (f := qt) (closureFor_none (by decide)) (by decide) rfl (by decide) rfl (fun E => ldl hn₈ hm₈ ⟨kRefl _, Src.ofL hh hv₈⟩) ⟨fun _ _ _ _ _ _ _ _ _ _ => tests0 rfl, ?elt10⟩ (by have := hx'.1; rw [sizeLine_eq]; omega)).mono fun z s' _ hz => by rw [filt_map] at hz; exact hz
      case elt10 =>
        intro u hu _ C'' v'' s₉ m₉ e₉ hv₉ hn₉ hm₉ E
        obtain ⟨tu, rfl⟩ := hv₉
        have hul := (hx'.2 u hu).1
        refine wpAny_BinOp (wpAny_BinOp (cstr (l := [34]) fun t₁ => ldl hn₉ hm₉ (addS (by simp only [List.length_singleton]; omega) fun t₃ tk₃ => cstr (l := [34]) fun t₄ => addS (by simp only [List.length_append, List.length_singleton]; omega) fun t₅ tk₅ => ⟨kOf (Ext.refl _), t₅, ?_⟩)))
        simp [qt]
  obtain ⟨h₇, tk₇, rfl, e₇⟩ := hK₇
  have e₇ : Ext h₆ h₇ := e₇
  rw [filt_map] at hz₇
  refine (cmp_op (ordL (ordL (ordL ordS))) (by omega) (s := { s with heap := h₇, toks := tk₇ }) ((rL (rL (rL rS))).ext zD e₇) hz₇).2.2.2 (wpAny_truthy_bool ?_)
  rw [show (cmpL c2 (Ts.map dp) (Ts.map dp) != .eq) = false by rw [(cmpL_lin c2_lin).rf]; rfl]
  simp only [Bool.false_eq_true, if_false]
  refine wpAny_execs_nil ?_
  have F₇ := F₆.keeps e₇
  have zT := (rL (rL (rL rS))).ext zT e₇
  have zX := (rL rS).ext zX e₇
  have zR := (rL (rL rS)).ext zR e₇
  have zD := (rL (rL (rL rS))).ext zD e₇
  have hT2' : 2 ≤ Ts.length := by
    rw [← hTs, ← hks, List.map_append]
    exact trees_two _
  refine law_loops (s := { s with heap := h₇, toks := tk₇ }) G0 r hok hTl F₇ ⟨⟨_, rfl, zT⟩, ⟨_, rfl, zX⟩, ⟨_, rfl, zR⟩, ⟨_, rfl, zD⟩⟩ fun h₈ m₈ tk₈ F₈ S₈ => ?_
  refine law_tail1 (s := { s with heap := h₈, toks := tk₈ }) G0 r hok hTl F₈ S₈ fun h₉ tk₉ F₉ S₉ => ?_
  exact law_tail2 (s := { s with heap := h₉, toks := tk₉ }) G0 r hfr hok hTl hT2' F₉ S₉ fun h tk m' F' => ⟨rfl, h, tk, m', F', rfl⟩
end
end Mine
end

/-! the theorem -/
open PySem PySem.W PyProof.Rows
set_option Elab.async false
set_option maxRecDepth 100000
namespace Mine
theorem gl_of_top {p : Program} {loose : List Str} {mean : ExcName → Option Value} {mg mb : Str → Option Value} {h : Heap} (T : Top p loose mean mg mb h)
    (hp : ∀ k, k = 1 ∨ k = 2 ∨ k = 4 ∨ k = 6 ∨ k = 7 ∨ k = 8 ∨ k = 9 ∨ k = 10 → fR k ∈ recsOf p)
    (hf : ∀ x : Str, x = "list" ∨ x = "zip" ∨ x = "len" ∨ x = "range" ∨ x = "sorted" ∨ x = "IndexError" → mg x = none) : Gl mg mb h :=
  ⟨T.g, T.b, T.nolimit, fun k hk => let ⟨a, o, pm, code, doc, h1, h2, h3, h4⟩ := T.fn _ (hp k hk); ⟨a, h1, o, pm, code, doc, h2, h3, h4⟩, T.builtins, hf⟩
theorem rm_caller (env : Env) : Rm 6 (callerA.deeper env) := by
  have r : Rm 7 callerA := ⟨rfl, by decide +kernel, by rw [show cLine = _ from rfl]; decide +kernel⟩
  exact r.deeper env
end Mine
set_option maxHeartbeats 8000000 in
theorem PySem.Challenge.cw_mq0149_01_holds : PySem.Challenge.rw_mq0149_01.Holds := by
  open_k0
  rename_i _ hL _ _ _ hI _ hcond _ _ _ _ F _
  have T := ‹Top _ _ _ _ _ _›
  have GL := ‹Glob _ _ _ _ _ _ _ _›
  have hg := ‹Shared.gens _ = #[]›
  have G := Mine.gl_of_top T (by
    rintro k (rfl | rfl | rfl | rfl | rfl | rfl | rfl | rfl)
    · exact List.mem_of_getElem? (i := 0) rfl
    · exact List.mem_of_getElem? (i := 1) rfl
    · exact List.mem_of_getElem? (i := 2) rfl
    · exact List.mem_of_getElem? (i := 3) rfl
    · exact List.mem_of_getElem? (i := 4) rfl
    · exact List.mem_of_getElem? (i := 5) rfl
    · exact List.mem_of_getElem? (i := 6) rfl
    · exact List.mem_of_getElem? (i := 7) rfl) (by
    rintro x (rfl | rfl | rfl | rfl | rfl | rfl) <;> exact GL.free _ (by decide +kernel) (by decide +kernel))
  show wpAny _ (callerA.deeper (Mine.lawEnv _ _ _)) (execs (Mine.fR 11).body (Mine.lawEnv _ _ _)) _ _ _
  refine wpAny_mono (E := fun _ _ => False) (Mine.law_body G (Mine.rm_caller _) rfl hL hI (by omega) F rfl) ?_ (fun _ _ x => x.elim)
  rintro f s' ⟨rfl, h, tk, m', F', rfl⟩
  exact goodW_bool F' hg (fun _ => rfl) (by wrow_post)
