import PyProof.Rows.All
import Wide.All
import OpenK.AllK
import Wide.FinOn
import PySem.Challenge.RW_ew5018_01
set_option Elab.async false
section
open PySem PySem.W PyProof.Rows
set_option Elab.async false
set_option maxRecDepth 100000
set_option maxHeartbeats 8000000
namespace Mine
open_top hd for PySem.Challenge.rw_ew5018_01
end Mine
end
section
open PySem PySem.W PyProof.Rows
set_option Elab.async false
set_option maxRecDepth 100000
set_option linter.unusedVariables false
namespace Mine

/-! values without their tokens -/
def er : Value → Value
  | .int i _ => .int i 0
  | .float b _ => .float b 0
  | .str s _ => .str s 0
  | .bytes b _ => .bytes b 0
  | v => v
abbrev vi (i : Int) : Value := .int i 0
abbrev vs (x : Str) : Value := .str x 0
theorem er_vi {v : Value} {a : Int} (h : er v = vi a) : ∃ t, v = .int a t := by
  cases v <;> simp_all [er]
theorem er_vs {v : Value} {a : Str} (h : er v = vs a) : ∃ t, v = .str a t := by
  cases v <;> simp_all [er]
theorem er_bool {v : Value} {b : Bool} (h : er v = .bool b) : v = .bool b := by
  cases v <;> simp_all [er]
theorem er_ref {v : Value} {a : Addr} (h : er v = .ref a) : v = .ref a := by
  cases v <;> simp_all [er]
theorem er_none {v : Value} (h : er v = .none) : v = .none := by
  cases v <;> simp_all [er]
theorem er_builtin {v : Value} {i} (h : er v = .builtin i) : v = .builtin i := by
  cases v <;> simp_all [er]
theorem er_type {v : Value} {i} (h : er v = .type i) : v = .type i := by
  cases v <;> simp_all [er]
theorem er_er (v : Value) : er (er v) = er v := by cases v <;> rfl

abbrev Gr (h h' : Heap) : Prop := ∀ b o, h.get? b = some o → h'.get? b = some o
theorem Gr.refl (h : Heap) : Gr h h := fun _ _ e => e
theorem Gr.trans {a b c : Heap} (x : Gr a b) (y : Gr b c) : Gr a c := fun i o e => y i o (x i o e)

def GR (a b : Array GenState) : Prop := (∀ (i : Nat) (x : GenState), a[i]? = some x → b[i]? = some x) ∧ (AllBare a → AllBare b)
theorem GR.refl (a) : GR a a := ⟨fun _ _ e => e, id⟩
theorem GR.trans {a b c} (x : GR a b) (y : GR b c) : GR a c := ⟨fun i z e => y.1 i z (x.1 i z e), fun h => y.2 (x.2 h)⟩

/-- what may have changed: the objects D, new ones; generators are only added -/
structure SX (D : List Addr) (s s' : Shared) : Prop where
  hp : ∀ b o, b ∉ D → s.heap.get? b = some o → s'.heap.get? b = some o
  gn : GR s.gens s'.gens
  os : s'.os = s.os
theorem SX.gr {s s' : Shared} (x : SX [] s s') : Gr s.heap s'.heap := fun b o e => x.hp b o (by simp) e
theorem SX.refl (D) (s : Shared) : SX D s s := ⟨fun _ _ _ e => e, .refl _, rfl⟩
theorem SX.trans {D s s' s''} (x : SX D s s') (y : SX D s' s'') : SX D s s'' :=
  ⟨fun b o n e => y.hp b o n (x.hp b o n e), x.gn.trans y.gn, y.os.trans x.os⟩
theorem SX.transL {D s s' s''} (x : SX [] s s') (y : SX D s' s'') : SX D s s'' :=
  ⟨fun b o n e => y.hp b o n (x.gr b o e), x.gn.trans y.gn, y.os.trans x.os⟩
theorem SX.transR {D s s' s''} (x : SX D s s') (y : SX [] s' s'') : SX D s s'' :=
  ⟨fun b o n e => y.gr b o (x.hp b o n e), x.gn.trans y.gn, y.os.trans x.os⟩
theorem SX.step {D D' s s' s''} (x : SX D s s') (y : SX D' s' s'') (h : ∀ b ∈ D', b ∈ D ∨ s.heap.get? b = none) : SX D s s'' :=
  ⟨fun b o n e => y.hp b o (fun m => (h b m).elim n fun q => by rw [q] at e; cases e) (x.hp b o n e), x.gn.trans y.gn, y.os.trans x.os⟩
theorem SX.mono {D D' s s'} (x : SX D s s') (h : ∀ b ∈ D, b ∈ D') : SX D' s s' := ⟨fun b o n e => x.hp b o (fun m => n (h b m)) e, x.gn, x.os⟩
theorem SX.heap {s : Shared} {h' : Heap} {tk : Nat} {D} (k : ∀ b o, b ∉ D → s.heap.get? b = some o → h'.get? b = some o) : SX D s { s with heap := h', toks := tk } := ⟨k, .refl _, rfl⟩
theorem SX.tok {s : Shared} {tk : Nat} {D} : SX D s { s with toks := tk } := ⟨fun _ _ _ e => e, .refl _, rfl⟩

/-- room for n more calls -/
structure Rm (n : Nat) (A : Around) : Prop where
  hd : A.handled = none
  dp : A.depth + n < recursionLimit
  un : A.units + 4 * n + 60 < cLine
theorem Rm.deeper {n A env} (h : Rm (n + 1) A) : Rm n (A.deeper env) := ⟨h.hd, by have := h.dp; simp [Around.deeper]; omega, by have := h.un; simp [Around.deeper]; omega⟩
theorem Rm.in1 {n A} (h : Rm (n + 1) A) : Rm n A.in1 := ⟨h.hd, by have := h.dp; simp; omega, by have := h.un; simp; omega⟩
theorem Rm.mono {n m A} (h : Rm n A) (l : m ≤ n) : Rm m A := ⟨h.hd, by have := h.dp; omega, by have := h.un; omega⟩
theorem Rm.room {n A} (h : Rm n A) : A.depth < recursionLimit := by have := h.dp; omega
theorem Rm.unit {n A} (h : Rm n A) : A.units < cLine := by have := h.un; omega

section
variable {prog : Program} {w : World} {α β : Type} {n : Nat} {h : Heap} {env : Env}

def EvaP (prog : Program) (w : World) (n : Nat) (h : Heap) (t : Sem α) (P : α → Heap → Prop) : Prop :=
  ∀ (A : Around) (Q : α → Shared → Prop) (E : Value → Shared → Prop) (s : Shared), Rm n A → Gr h s.heap →
    (∀ a s', P a s'.heap → SX [] s s' → Q a s') → wpAny (model prog w) A t Q E s
abbrev Eva (prog : Program) (w : World) (n : Nat) (h : Heap) (t : Sem Value) (v : Value) : Prop := EvaP prog w n h t fun a _ => er a = v
abbrev EvB (prog : Program) (w : World) (n : Nat) (h : Heap) (t : Sem Bool) (b : Bool) : Prop := EvaP prog w n h t fun a _ => a = b

theorem EvaP.gr {t : Sem α} {P} {h'} (x : EvaP prog w n h t P) (g : Gr h h') : EvaP prog w n h' t P :=
  fun A Q E s r k q => x A Q E s r (g.trans k) q
theorem EvaP.le {t : Sem α} {P} {m} (x : EvaP prog w n h t P) (g : n ≤ m) : EvaP prog w m h t P :=
  fun A Q E s r k q => x A Q E s (r.mono g) k q
theorem EvaP.imp {t : Sem α} {P P' : α → Heap → Prop} (x : EvaP prog w n h t P) (g : ∀ a h', P a h' → P' a h') : EvaP prog w n h t P' :=
  fun A Q E s r k q => x A Q E s r k fun a s' p => q a s' (g _ _ p)
theorem EvaP.pure {a : α} {P : α → Heap → Prop} (p : ∀ h', Gr h h' → P a h') : EvaP prog w n h (Pure.pure a) P :=
  fun _ _ _ s _ k q => wpAny_pure (q a s (p _ k) (.refl _ _))
theorem EvaP.bind {m : Sem α} {f : α → Sem β} {P : α → Heap → Prop} {R : β → Heap → Prop} (x : EvaP prog w n h m P) (y : ∀ a h', P a h' → Gr h h' → EvaP prog w n h' (f a) R) : EvaP prog w n h (m >>= f) R :=
  fun A Q E s r k q => wpAny_bind (x A _ E s r k fun a s1 p x1 => y a _ p (k.trans x1.gr) A Q E s1 r (Gr.refl _) fun b s2 p2 x2 => q b s2 p2 (x1.trans x2))
theorem EvaP.of_looks {t : Sem α} {a : α} {P : α → Heap → Prop} (x : Looks (model prog w) h t a) (p : ∀ h', Gr h h' → P a h') : EvaP prog w n h t P :=
  fun A Q E s _ k q => x A Q E s k (q a s (p _ k) (.refl _ _))
theorem Eva.cast {t : Sem Value} {v v' : Value} (x : Eva prog w n h t v) (e : v = v') : Eva prog w n h t v' := e ▸ x
theorem EvB.cast {t : Sem Bool} {v v' : Bool} (x : EvB prog w n h t v) (e : v = v') : EvB prog w n h t v' := e ▸ x

/-! names -/
inductive At {α : Type} : List α → α → Nat → Prop
  | head {x r} : At (x :: r) x 0
  | tail {x y r i} : At r x i → At (y :: r) x (i + 1)
theorem At.get {α : Type} {l : List α} {x i} (a : At l x i) : l[i]? = some x := by induction a with | head => rfl | tail _ ih => simpa using ih
theorem At.mem {α : Type} {l : List α} {x i} (a : At l x i) : x ∈ l := List.mem_of_getElem? a.get
theorem nodup_inj {α : Type} {l : List α} (nd : l.Nodup) {i j : Nat} (hi : i < l.length) (hj : j < l.length) (e : l[i] = l[j]) : i = j := by
  have := List.pairwise_iff_getElem.mp nd
  rcases Nat.lt_trichotomy i j with q | q | q
  · exact absurd e (this i j hi hj q)
  · exact q
  · exact absurd e.symm (this j i hj hi q)
structure FE (env : Env) (nm : List Str) : Prop where
  kind : env.scope.kind = .function
  loc : ∀ x ∈ nm, env.kindOf x = some .local ∧ (x == ("__debug__" : Str)) = false
  nd : nm.Nodup
  gl : env.globals = mainGlobals
  bu : env.builtins = builtinsNs
theorem FE.of {env : Env} {nm : List Str} (k : env.scope.kind = .function) (a : (nm.all fun x => env.scope.names.lookup x == some .local && !(x == ("__debug__" : Str))) = true) (d : (decide nm.Nodup) = true)
    (g : env.globals = mainGlobals) (b : env.builtins = builtinsNs) : FE env nm :=
  ⟨k, fun x hx => by
    have := List.all_eq_true.mp a x hx
    simp only [Bool.and_eq_true, beq_iff_eq, Bool.not_eq_true'] at this
    exact this, of_decide_eq_true d, g, b⟩
def Locs (h : Heap) (L : Addr) (nm : List Str) (vals : List (Option Value)) : Prop :=
  ∃ m, h.Ns L m ∧ ∀ (i : Nat) (x : Str) (v : Value), nm[i]? = some x → vals[i]? = some (some v) → ∃ v', m x = some v' ∧ er v' = v
theorem Locs.at {h h' : Heap} {L nm vals} (x : Locs h L nm vals) (k : ∀ o, h.get? L = some o → h'.get? L = some o) : Locs h' L nm vals := let ⟨m, a, b⟩ := x; ⟨m, a.at' k, b⟩
theorem Locs.gr {h h' : Heap} {L nm vals} (x : Locs h L nm vals) (k : Gr h h') : Locs h' L nm vals := x.at fun o e => k _ _ e
theorem Locs.there {h : Heap} {L nm vals} (x : Locs h L nm vals) : ∃ o, h.get? L = some o := let ⟨_, ⟨o, _, _, e, _⟩, _⟩ := x; ⟨o, e⟩
/-- forget values -/
theorem Locs.sub {h : Heap} {L nm vals vals'} (x : Locs h L nm vals) (k : ∀ (i : Nat) v, vals'[i]? = some (some v) → vals[i]? = some (some v)) : Locs h L nm vals' :=
  let ⟨m, a, b⟩ := x; ⟨m, a, fun i y v e f => b i y v e (k i v f)⟩
theorem Locs.set {h' : Heap} {L nm} {vals : List (Option Value)} {x v v' i} {m : Str → Option Value} (nd : nm.Nodup) (hm : ∀ (i : Nat) (x : Str) (v : Value), nm[i]? = some x → vals[i]? = some (some v) → ∃ v', m x = some v' ∧ er v' = v)
    (hi : At nm x i) (hn : h'.Ns L (fun y => if y = x then some v' else m y)) (he : er v' = v) : Locs h' L nm (vals.set i (some v)) :=
  ⟨_, hn, fun j y u e f => by
    by_cases q : j = i
    · subst q
      rw [hi.get] at e; cases e
      simp only [if_true]
      rw [List.getElem?_set_self'] at f
      cases hv : vals[j]? with
      | none => rw [hv] at f; cases f
      | some _ => rw [hv] at f; cases f; exact ⟨v', rfl, he⟩
    · have hy : y ≠ x := fun z => q (by
        subst z
        have h1 := List.getElem?_eq_some_iff.mp e
        have h2 := List.getElem?_eq_some_iff.mp hi.get
        obtain ⟨l1, e1⟩ := h1; obtain ⟨l2, e2⟩ := h2
        exact nodup_inj nd l1 l2 (e1.trans e2.symm))
      simp only [if_neg hy]
      rw [List.getElem?_set_ne (Ne.symm q)] at f
      exact hm j y u e f⟩

theorem ev_name {nm vals x v i pos} (F : FE env nm) (Lo : Locs h env.locals nm vals) (hx : At nm x i) (hv : vals[i]? = some (some v)) : Eva prog w n h (eval (.Name x pos) env) v := by
  intro A Q E s r k q
  obtain ⟨m, hn, hm⟩ := Lo
  obtain ⟨v', hv', e⟩ := hm i x v hx.get hv
  exact wpAny_Name (wpAny_loadName_local F.kind (F.loc x hx.mem).1 (hn.keeps k) hv' (q v' s e (.refl _ _))) (F.loc x hx.mem).2

theorem ev_int {i k pos} : Eva prog w n h (eval (.Constant (.int i) k pos) env) (vi i) := fun A Q E s r k q => wpAny_Constant_int (q _ _ rfl .tok)
theorem ev_str {x k pos} : Eva prog w n h (eval (.Constant (.str x) k pos) env) (vs x) := fun A Q E s r k q => wpAny_Constant_str (q _ _ rfl .tok)
theorem ev_true {b k pos} : Eva prog w n h (eval (.Constant (.bool b) k pos) env) (.bool b) := fun A Q E s r k q => wpAny_Constant_bool (q _ _ rfl (.refl _ _))
theorem ev_none {k pos} : Eva prog w n h (eval (.Constant .none k pos) env) .none := fun A Q E s r k q => wpAny_Constant_none (q _ _ rfl (.refl _ _))

/-! operators -/
theorem ev_bin {l r op pos a b} {P : Value → Heap → Prop} (h1 : Eva prog w n h (eval l env) a) (h2 : Eva prog w n h (eval r env) b)
    (hop : ∀ a' b', er a' = a → er b' = b → EvaP prog w n h (binaryOp op a' b') P) : EvaP prog w n h (eval (.BinOp l op r pos) env) P := by
  intro A Q E s hA hg k
  refine wpAny_BinOp (h1 A _ E s hA hg fun a' s1 ha x1 => h2 A _ E s1 hA (hg.trans x1.gr) fun b' s2 hb x2 => ?_)
  exact hop a' b' ha hb A Q E s2 hA ((hg.trans x1.gr).trans x2.gr) fun v s3 p x3 => k v s3 p (x1.trans (x2.trans x3))
theorem ev_un {x op pos a} {P : Value → Heap → Prop} (h1 : Eva prog w n h (eval x env) a)
    (hop : ∀ a', er a' = a → EvaP prog w n h (unaryOp op a') P) : EvaP prog w n h (eval (.UnaryOp op x pos) env) P := by
  intro A Q E s hA hg k
  refine wpAny_UnaryOp (h1 A _ E s hA hg fun a' s1 ha x1 => ?_)
  exact hop a' ha A Q E s1 hA (hg.trans x1.gr) fun v s3 p x3 => k v s3 p (x1.trans x3)

variable {a b : Int} {a' b' : Value}
theorem bo_add (ha : er a' = vi a) (hb : er b' = vi b) : Eva prog w n h (binaryOp .Add a' b') (vi (a + b)) := by
  obtain ⟨t, rfl⟩ := er_vi ha; obtain ⟨u, rfl⟩ := er_vi hb
  exact fun A Q E s r k q => wpAny_add_int (q _ _ rfl .tok)
theorem bo_sub (ha : er a' = vi a) (hb : er b' = vi b) : Eva prog w n h (binaryOp .Sub a' b') (vi (a - b)) := by
  obtain ⟨t, rfl⟩ := er_vi ha; obtain ⟨u, rfl⟩ := er_vi hb
  exact fun A Q E s r k q => PyProof.Rows.sub_int (q _ _ rfl .tok)
theorem bo_mul (hm : IntMulOk a b) (ha : er a' = vi a) (hb : er b' = vi b) : Eva prog w n h (binaryOp .Mult a' b') (vi (a * b)) := by
  obtain ⟨t, rfl⟩ := er_vi ha; obtain ⟨u, rfl⟩ := er_vi hb
  exact fun A Q E s r k q => PyProof.Rows.mul_int (q _ _ rfl .tok) hm
theorem bo_div (h0 : b ≠ 0) (hs : b.natAbs < 1073741824) (ha : er a' = vi a) (hb : er b' = vi b) : Eva prog w n h (binaryOp .FloorDiv a' b') (vi (a.fdiv b)) := by
  obtain ⟨t, rfl⟩ := er_vi ha; obtain ⟨u, rfl⟩ := er_vi hb
  exact fun A Q E s r k q => PyProof.Rows.floordiv_int h0 (q _ _ rfl .tok) (.inl (PyProof.noPylong_small hs))
theorem bo_mod (h0 : b ≠ 0) (ha : er a' = vi a) (hb : er b' = vi b) : Eva prog w n h (binaryOp .Mod a' b') (vi (a.fmod b)) := by
  obtain ⟨t, rfl⟩ := er_vi ha; obtain ⟨u, rfl⟩ := er_vi hb
  exact fun A Q E s r k q => PyProof.Rows.mod_int' h0 (q _ _ rfl .tok)
theorem bo_and (ha : er a' = vi a) (hb : er b' = vi b) : Eva prog w n h (binaryOp .BitAnd a' b') (vi (Builtin.bitAnd a b)) := by
  obtain ⟨t, rfl⟩ := er_vi ha; obtain ⟨u, rfl⟩ := er_vi hb
  exact fun A Q E s r k q => PyProof.Rows.and_int (q _ _ rfl .tok)
theorem bo_or (ha : er a' = vi a) (hb : er b' = vi b) : Eva prog w n h (binaryOp .BitOr a' b') (vi (Builtin.bitOr a b)) := by
  obtain ⟨t, rfl⟩ := er_vi ha; obtain ⟨u, rfl⟩ := er_vi hb
  exact fun A Q E s r k q => PyProof.Rows.or_int (q _ _ rfl .tok)
theorem bo_shr (hn : 0 ≤ b) (ha : er a' = vi a) (hb : er b' = vi b) : Eva prog w n h (binaryOp .RShift a' b') (vi (a.fdiv (2 ^ b.toNat))) := by
  obtain ⟨t, rfl⟩ := er_vi ha; obtain ⟨u, rfl⟩ := er_vi hb
  exact fun A Q E s r k q => PyProof.Rows.rshift_int hn (q _ _ rfl .tok)
theorem bo_shl (hn : 0 ≤ b) (hn2 : b ≤ 1000000) (hb2 : a.natAbs < 2 ^ 64) (ha : er a' = vi a) (hb : er b' = vi b) : Eva prog w n h (binaryOp .LShift a' b') (vi (a * 2 ^ b.toNat)) := by
  obtain ⟨t, rfl⟩ := er_vi ha; obtain ⟨u, rfl⟩ := er_vi hb
  exact fun A Q E s r k q => PyProof.Rows.lshift_int_small hn hn2 hb2 (q _ _ rfl .tok)
theorem bo_pow (hn : 0 ≤ b) (hn2 : b ≤ 1000000) (hb2 : a.natAbs < 2 ^ 64) (ha : er a' = vi a) (hb : er b' = vi b) : Eva prog w n h (binaryOp .Pow a' b') (vi (a ^ b.toNat)) := by
  obtain ⟨t, rfl⟩ := er_vi ha; obtain ⟨u, rfl⟩ := er_vi hb
  exact fun A Q E s r k q => PyProof.Rows.pow_int_small hn hn2 hb2 (q _ _ rfl .tok)
theorem uo_neg (ha : er a' = vi a) : Eva prog w n h (unaryOp .USub a') (vi (-a)) := by
  obtain ⟨t, rfl⟩ := er_vi ha
  exact fun A Q E s r k q => PyProof.Rows.neg_int (q _ _ rfl .tok)
theorem uo_inv (ha : er a' = vi a) : Eva prog w n h (unaryOp .Invert a') (vi (Builtin.bitNot a)) := by
  obtain ⟨t, rfl⟩ := er_vi ha
  exact fun A Q E s r k q => PyProof.Rows.invert_int (q _ _ rfl .tok)

/-! comparisons, truth -/
theorem ev_cmp {l r op pos x y} {c : Bool} (h1 : Eva prog w n h (eval l env) x) (h2 : Eva prog w n h (eval r env) y)
    (hop : ∀ x' y', er x' = x → er y' = y → EvaP prog w n h (compareOp op x' y') fun v _ => v = .bool c) (hb : behindInMarks op r = false := by rfl) : Eva prog w n h (eval (.Compare l [op] [r] pos) env) (.bool c) := by
  intro A Q E s hA hg k
  refine wpAny_Compare1 (h1 A _ E s hA hg fun a' s1 ha x1 => h2 A _ E s1 hA (hg.trans x1.gr) fun b' s2 hb x2 => ?_) hb
  exact hop a' b' ha hb A Q E s2 hA ((hg.trans x1.gr).trans x2.gr) fun v s3 p x3 => k v s3 (by subst p; rfl) (x1.trans (x2.trans x3))
theorem eb_cmp {l r op pos x y} {c : Bool} {whole} (h1 : Eva prog w n h (eval l env) x) (h2 : Eva prog w n h (eval r env) y)
    (hop : ∀ x' y', er x' = x → er y' = y → EvaP prog w n h (compareOp op x' y') fun v _ => v = .bool c) (hb : behindInMarks op r = false := by rfl) : EvB prog w n h (PySem.isTrue (.Compare l [op] [r] pos) env whole) c := by
  intro A Q E s hA hg k
  refine wpAny_isTrue_Compare1 (h1 A _ E s hA hg fun a' s1 ha x1 => h2 A _ E s1 hA (hg.trans x1.gr) fun b' s2 hb x2 => ?_) hb
  exact hop a' b' ha hb A _ E s2 hA ((hg.trans x1.gr).trans x2.gr) fun v s3 p x3 => by subst p; exact wpAny_truthy_bool (k c s3 rfl (x1.trans (x2.trans x3)))
theorem co_lt (ha : er a' = vi a) (hb : er b' = vi b) : EvaP prog w n h (compareOp .Lt a' b') fun v _ => v = .bool (decide (a < b)) := by
  obtain ⟨t, rfl⟩ := er_vi ha; obtain ⟨u, rfl⟩ := er_vi hb
  exact fun A Q E s r k q => PyProof.Rows.lt_int (q _ _ rfl (.refl _ _))
theorem co_le (ha : er a' = vi a) (hb : er b' = vi b) : EvaP prog w n h (compareOp .LtE a' b') fun v _ => v = .bool (decide (a ≤ b)) := by
  obtain ⟨t, rfl⟩ := er_vi ha; obtain ⟨u, rfl⟩ := er_vi hb
  exact fun A Q E s r k q => PyProof.Rows.le_int (q _ _ rfl (.refl _ _))
theorem co_gt (ha : er a' = vi a) (hb : er b' = vi b) : EvaP prog w n h (compareOp .Gt a' b') fun v _ => v = .bool (decide (b < a)) := by
  obtain ⟨t, rfl⟩ := er_vi ha; obtain ⟨u, rfl⟩ := er_vi hb
  exact fun A Q E s r k q => PyProof.Rows.gt_int (q _ _ rfl (.refl _ _))
theorem co_ge (ha : er a' = vi a) (hb : er b' = vi b) : EvaP prog w n h (compareOp .GtE a' b') fun v _ => v = .bool (decide (b ≤ a)) := by
  obtain ⟨t, rfl⟩ := er_vi ha; obtain ⟨u, rfl⟩ := er_vi hb
  exact fun A Q E s r k q => PyProof.Rows.ge_int (q _ _ rfl (.refl _ _))
theorem co_eq (ha : er a' = vi a) (hb : er b' = vi b) : EvaP prog w n h (compareOp .Eq a' b') fun v _ => v = .bool (a == b) := by
  obtain ⟨t, rfl⟩ := er_vi ha; obtain ⟨u, rfl⟩ := er_vi hb
  exact fun A Q E s r k q => PyProof.Rows.eq_int (q _ _ rfl (.refl _ _))
theorem co_ne (ha : er a' = vi a) (hb : er b' = vi b) : EvaP prog w n h (compareOp .NotEq a' b') fun v _ => v = .bool (a != b) := by
  obtain ⟨t, rfl⟩ := er_vi ha; obtain ⟨u, rfl⟩ := er_vi hb
  exact fun A Q E s r k q => PyProof.Rows.ne_int (q _ _ rfl (.refl _ _))
theorem co_is {x y x' y' : Value} (hp : plainIs x' y' = true) (he : (x' == y') = c) : EvaP prog w n h (compareOp .Is x' y') fun v _ => v = .bool c :=
  fun A Q E s r k q => wpAny_is_plain hp (q _ _ (by rw [he]) (.refl _ _))
theorem co_isnot {x y x' y' : Value} (hp : plainIs x' y' = true) (he : (x' == y') = c) : EvaP prog w n h (compareOp .IsNot x' y') fun v _ => v = .bool (!c) :=
  fun A Q E s r k q => wpAny_isNot_plain hp (q _ _ (by rw [he]) (.refl _ _))

theorem eb_val {e : Expr} {whole : Sem Value} {b : Bool} (h1 : Eva prog w n h whole (.bool b))
    (he : PySem.isTrue e env whole = (do let v ← whole; standAt e.pos; holding [v] (truthy v)) := by rfl) : EvB prog w n h (PySem.isTrue e env whole) b := by
  intro A Q E s hA hg k
  refine wpAny_isTrue_value (h1 A _ E s hA hg fun v s1 p x1 => ?_) he
  obtain rfl := er_bool p
  exact wpAny_truthy_bool (k b s1 rfl x1)
theorem eb_not {x pos whole} {b : Bool} (h1 : EvB prog w n h (PySem.isTrue x env (eval x env)) b) : EvB prog w n h (PySem.isTrue (.UnaryOp .Not x pos) env whole) (!b) := by
  intro A Q E s hA hg k
  exact wpAny_isTrue_Not (h1 A _ E s hA hg fun v s1 p x1 => by subst p; exact k _ s1 rfl x1)
theorem eb_bool {op xs pos whole} {b : Bool} (h1 : EvB prog w n h (allTrue op xs env) b) : EvB prog w n h (PySem.isTrue (.BoolOp op xs pos) env whole) b := by
  intro A Q E s hA hg k
  exact wpAny_isTrue_BoolOp (h1 A _ E s hA hg k)
theorem eb_and_cons {x rest} {p q : Bool} (h1 : EvB prog w n h (PySem.isTrue x env (eval x env)) p) (h2 : p = true → EvB prog w n h (allTrue .And rest env) q) : EvB prog w n h (allTrue .And (x :: rest) env) (p && q) := by
  intro A Q E s hA hg k
  refine wpAny_allTrue_And_cons (h1 A _ E s hA hg fun v s1 e x1 => ?_)
  subst e
  cases v with
  | false => simp only [Bool.false_eq_true, if_false]; exact k _ _ rfl x1
  | true => simp only [if_true]; exact h2 rfl A _ E s1 hA (hg.trans x1.gr) fun v s2 e x2 => k v s2 (by simpa using e) (x1.trans x2)
theorem eb_and {x rest} {p q : Bool} (h1 : EvB prog w n h (PySem.isTrue x env (eval x env)) p) (h2 : EvB prog w n h (allTrue .And rest env) q) : EvB prog w n h (allTrue .And (x :: rest) env) (p && q) := eb_and_cons h1 fun _ => h2
theorem eb_and_nil : EvB prog w n h (allTrue .And [] env) true := fun A Q E s hA hg k => wpAny_allTrue_And_nil (k _ _ rfl (.refl _ _))
theorem eb_or_cons {x rest} {p q : Bool} (h1 : EvB prog w n h (PySem.isTrue x env (eval x env)) p) (h2 : p = false → EvB prog w n h (allTrue .Or rest env) q) : EvB prog w n h (allTrue .Or (x :: rest) env) (p || q) := by
  intro A Q E s hA hg k
  refine wpAny_allTrue_Or_cons (h1 A _ E s hA hg fun v s1 e x1 => ?_)
  subst e
  cases v with
  | true => simp only [if_true]; exact k _ _ rfl x1
  | false => simp only [Bool.false_eq_true, if_false]; exact h2 rfl A _ E s1 hA (hg.trans x1.gr) fun v s2 e x2 => k v s2 (by simpa using e) (x1.trans x2)
theorem eb_or {x rest} {p q : Bool} (h1 : EvB prog w n h (PySem.isTrue x env (eval x env)) p) (h2 : EvB prog w n h (allTrue .Or rest env) q) : EvB prog w n h (allTrue .Or (x :: rest) env) (p || q) := eb_or_cons h1 fun _ => h2
theorem eb_or_nil : EvB prog w n h (allTrue .Or [] env) false := fun A Q E s hA hg k => wpAny_allTrue_Or_nil (k _ _ rfl (.refl _ _))
theorem ev_and2 {x y pos} {p q : Bool} (h1 : Eva prog w n h (eval x env) (.bool p)) (h2 : p = true → Eva prog w n h (eval y env) (.bool q)) : Eva prog w n h (eval (.BoolOp .And [x, y] pos) env) (.bool (p && q)) := by
  intro A Q E s hA hg k
  refine wpAny_And2 (h1 A _ E s hA hg fun v s1 e x1 => ?_)
  obtain rfl := er_bool e
  refine wpAny_truthy_bool ?_
  cases p with
  | false => simp only [Bool.false_eq_true, if_false]; exact k _ _ rfl x1
  | true => simp only [if_true]; exact h2 rfl A _ E s1 hA (hg.trans x1.gr) fun v s2 e x2 => k v s2 (by simpa using e) (x1.trans x2)
theorem ev_or2 {x y pos} {p q : Bool} (h1 : Eva prog w n h (eval x env) (.bool p)) (h2 : p = false → Eva prog w n h (eval y env) (.bool q)) : Eva prog w n h (eval (.BoolOp .Or [x, y] pos) env) (.bool (p || q)) := by
  intro A Q E s hA hg k
  refine wpAny_Or2 (h1 A _ E s hA hg fun v s1 e x1 => ?_)
  obtain rfl := er_bool e
  refine wpAny_truthy_bool ?_
  cases p with
  | true => simp only [if_true]; exact k _ _ rfl x1
  | false => simp only [Bool.false_eq_true, if_false]; exact h2 rfl A _ E s1 hA (hg.trans x1.gr) fun v s2 e x2 => k v s2 (by simpa using e) (x1.trans x2)
theorem ev_ifexp {t x y pos} {c : Bool} {P : Value → Heap → Prop} (h1 : EvB prog w n h (PySem.isTrue t env (eval t env)) c) (h2 : c = true → EvaP prog w n h (eval x env) P) (h3 : c = false → EvaP prog w n h (eval y env) P) :
    EvaP prog w n h (eval (.IfExp t x y pos) env) P := by
  intro A Q E s hA hg k
  refine wpAny_IfExp (h1 A _ E s hA hg fun v s1 e x1 => ?_)
  subst e
  cases v with
  | false => simp only [Bool.false_eq_true, if_false]; exact h3 rfl A _ E s1 hA (hg.trans x1.gr) fun v s2 e x2 => k v s2 e (x1.trans x2)
  | true => simp only [if_true]; exact h2 rfl A _ E s1 hA (hg.trans x1.gr) fun v s2 e x2 => k v s2 e (x1.trans x2)
theorem ev_if {t x y pos u v} {c : Bool} (h1 : EvB prog w n h (PySem.isTrue t env (eval t env)) c) (h2 : Eva prog w n h (eval x env) u) (h3 : Eva prog w n h (eval y env) v) :
    Eva prog w n h (eval (.IfExp t x y pos) env) (if c = true then u else v) :=
  ev_ifexp h1 (fun e => by rw [if_pos e]; exact h2) (fun e => by rw [if_neg (by rw [e]; decide)]; exact h3)
theorem ev_not {x pos} {b : Bool} (h1 : Eva prog w n h (eval x env) (.bool b)) : Eva prog w n h (eval (.UnaryOp .Not x pos) env) (.bool (!b)) :=
  ev_un h1 fun a' e => by
    obtain rfl := er_bool e
    exact fun A Q E s r k q => not_of (wpAny_truthy_bool (q _ _ rfl (.refl _ _)))

/-! one row for all operators on ints -/
def cmpI : CmpOp → Int → Int → Bool
  | .Lt, a, b => decide (a < b)
  | .LtE, a, b => decide (a ≤ b)
  | .Gt, a, b => decide (b < a)
  | .GtE, a, b => decide (b ≤ a)
  | .Eq, a, b => a == b
  | .NotEq, a, b => a != b
  | _, _, _ => false
def okC : CmpOp → Bool
  | .Lt | .LtE | .Gt | .GtE | .Eq | .NotEq => true
  | _ => false
theorem co_any {op} (hop : okC op = true) (ha : er a' = vi a) (hb : er b' = vi b) : EvaP prog w n h (compareOp op a' b') fun v _ => v = .bool (cmpI op a b) := by
  match op, hop with
  | .Lt, _ => exact co_lt ha hb
  | .LtE, _ => exact co_le ha hb
  | .Gt, _ => exact co_gt ha hb
  | .GtE, _ => exact co_ge ha hb
  | .Eq, _ => exact co_eq ha hb
  | .NotEq, _ => exact co_ne ha hb
def arI : Operator → Int → Int → Int
  | .Add, a, b => a + b
  | .Sub, a, b => a - b
  | .Mult, a, b => a * b
  | .FloorDiv, a, b => a.fdiv b
  | .Mod, a, b => a.fmod b
  | .BitAnd, a, b => Builtin.bitAnd a b
  | .BitOr, a, b => Builtin.bitOr a b
  | .RShift, a, b => a.fdiv (2 ^ b.toNat)
  | .LShift, a, b => a * 2 ^ b.toNat
  | .Pow, a, b => a ^ b.toNat
  | _, _, _ => 0
def okI : Operator → Int → Int → Prop
  | .Add, _, _ | .Sub, _, _ | .BitAnd, _, _ | .BitOr, _, _ => True
  | .Mult, a, b => IntMulOk a b
  | .FloorDiv, _, b => b ≠ 0 ∧ b.natAbs < 1073741824
  | .Mod, _, b => b ≠ 0
  | .RShift, _, b => 0 ≤ b
  | .LShift, a, b | .Pow, a, b => 0 ≤ b ∧ b ≤ 1000000 ∧ a.natAbs < 2 ^ 64
  | _, _, _ => False
theorem bo_any {op} (ok : okI op a b) (ha : er a' = vi a) (hb : er b' = vi b) : Eva prog w n h (binaryOp op a' b') (vi (arI op a b)) := by
  match op, ok with
  | .Add, _ => exact bo_add ha hb
  | .Sub, _ => exact bo_sub ha hb
  | .BitAnd, _ => exact bo_and ha hb
  | .BitOr, _ => exact bo_or ha hb
  | .Mult, ok => exact bo_mul ok ha hb
  | .FloorDiv, ok => exact bo_div ok.1 ok.2 ha hb
  | .Mod, ok => exact bo_mod ok ha hb
  | .RShift, ok => exact bo_shr ok ha hb
  | .LShift, ok => exact bo_shl ok.1 ok.2.1 ok.2.2 ha hb
  | .Pow, ok => exact bo_pow ok.1 ok.2.1 ok.2.2 ha hb
def unI : UnaryOp → Int → Int
  | .Invert, a => Builtin.bitNot a
  | .USub, a => -a
  | _, _ => 0
def okU : UnaryOp → Bool
  | .Invert | .USub => true
  | _ => false
theorem uo_any {op} (hop : okU op = true) (ha : er a' = vi a) : Eva prog w n h (unaryOp op a') (vi (unI op a)) := by
  match op, hop with
  | .Invert, _ => exact uo_inv ha
  | .USub, _ => exact uo_neg ha
end
end Mine
end
section
open PySem PySem.W PyProof.Rows PySem.Calls
set_option Elab.async false
set_option maxRecDepth 100000
set_option linter.unusedVariables false
namespace Mine

/-! the dicts of objects -/
def Ents : List DictEntry → List Str → List Value → Prop
  | [], [], [] => True
  | e :: es, x :: nm, v :: vs => (∃ t, e.key = .str x t) ∧ er e.val = v ∧ Ents es nm vs
  | _, _, _ => False
theorem isStr_str (x y : Str) (t : Tok) : (Value.str x t).isStr y = decide (x = y) := by
  show (x == y) = _
  by_cases h : x = y
  · subst h; simp
  · rw [beq_false_of_ne h, decide_eq_false h]
theorem Ents.noref : ∀ {es nm vs}, Ents es nm vs → es.any (·.refKey) = false
  | [], [], [], _ => rfl
  | e :: es, x :: nm, v :: vs, ⟨⟨t, h⟩, _, r⟩ => by
    rw [List.any_cons, Ents.noref r]
    simp [DictEntry.refKey, h]
theorem Ents.miss {x : Str} : ∀ {es nm vs}, Ents es nm vs → x ∉ nm → es.find? (·.key.isStr x) = none
  | [], [], [], _, _ => rfl
  | e :: es, y :: nm, v :: vs, ⟨⟨t, h⟩, _, r⟩, hx => by
    rw [List.find?_cons]
    have : e.key.isStr x = false := by rw [h, isStr_str]; exact decide_eq_false fun q => hx (q ▸ .head _)
    rw [this]
    exact Ents.miss r fun q => hx (.tail _ q)
theorem Ents.none {x : Str} {es nm vs} (E : Ents es nm vs) (hx : x ∉ nm) : getL x es = some none := by
  unfold getL
  rw [E.miss hx, E.noref]; rfl
theorem Ents.get {x : Str} {v : Value} : ∀ {i : Nat} {es nm vs}, nm.Nodup → Ents es nm vs → At nm x i → vs[i]? = some v → ∃ v', getL x es = some (some v') ∧ er v' = v := by
  have go : ∀ {i : Nat} {es nm vs}, nm.Nodup → Ents es nm vs → At nm x i → vs[i]? = some v → ∃ e, es.find? (·.key.isStr x) = some e ∧ er e.val = v := by
    intro i es nm vs nd E a hv
    induction a generalizing es vs with
    | head =>
      match es, vs, E with
      | e :: es, u :: vs, ⟨⟨t, h⟩, h2, r⟩ =>
        refine ⟨e, ?_, ?_⟩
        · rw [List.find?_cons, h, isStr_str, decide_eq_true rfl]
        · simpa [h2] using hv
    | @tail x y r i a ih =>
      match es, vs, E with
      | e :: es, u :: vs, ⟨⟨t, h⟩, h2, r'⟩ =>
        have nd' := List.nodup_cons.mp nd
        obtain ⟨e', h3, h4⟩ := ih nd'.2 r' (by simpa using hv)
        refine ⟨e', ?_, h4⟩
        have : e.key.isStr x = false := by rw [h, isStr_str]; exact decide_eq_false fun q => nd'.1 (q ▸ a.mem)
        rw [List.find?_cons, this]; exact h3
  intro i es nm vs nd E a hv
  obtain ⟨e, h1, h2⟩ := go nd E a hv
  exact ⟨e.val, by unfold getL; rw [h1], h2⟩
theorem Ents.put {x : Str} {v : Value} {hsh key} : ∀ {i : Nat} {es nm vs}, nm.Nodup → Ents es nm vs → At nm x i → Ents (putL x hsh key v es) nm (vs.set i (er v)) := by
  intro i es nm vs nd E a
  induction a generalizing es vs with
  | head =>
    match es, vs, E with
    | e :: es, u :: vs, ⟨⟨t, h⟩, h2, r⟩ =>
      unfold putL
      rw [h, isStr_str, decide_eq_true rfl]
      exact ⟨⟨t, rfl⟩, rfl, r⟩
  | @tail x y r i a ih =>
    match es, vs, E with
    | e :: es, u :: vs, ⟨⟨t, h⟩, h2, r'⟩ =>
      have nd' := List.nodup_cons.mp nd
      unfold putL
      have : e.key.isStr x = false := by rw [h, isStr_str]; exact decide_eq_false fun q => nd'.1 (q ▸ a.mem)
      rw [this]
      exact ⟨⟨t, h⟩, h2, ih nd'.2 r'⟩
theorem Ents.add {x : Str} {t : Tok} {v : Value} {hsh} : ∀ {es nm vs}, Ents es nm vs → x ∉ nm → Ents (putL x hsh (.str x t) v es) (nm ++ [x]) (vs ++ [er v])
  | [], [], [], _, _ => ⟨⟨t, rfl⟩, rfl, trivial⟩
  | e :: es, y :: nm, u :: vs, ⟨⟨t', h⟩, h2, r⟩, hx => by
    unfold putL
    have : e.key.isStr x = false := by rw [h, isStr_str]; exact decide_eq_false fun q => hx (q ▸ .head _)
    rw [this]
    exact ⟨⟨t', h⟩, h2, Ents.add r fun q => hx (.tail _ q)⟩
theorem Ents.len : ∀ {es nm vs}, Ents es nm vs → es.length = nm.length
  | [], [], [], _ => rfl
  | e :: es, x :: nm, v :: vs, ⟨_, _, r⟩ => by simp [Ents.len r]

structure ObjAt (h : Heap) (a C d : Addr) (nm : List Str) (vals : List Value) : Prop where
  ho : h.get? a = some (instObj C d)
  hd : ∃ es k, h.get? d = some (dictOf es k) ∧ Ents es nm vals
theorem ObjAt.inst {h : Heap} {a C d nm vals} (O : ObjAt h a C d nm vals) : ∃ es k, InstAt h a (instObj C d) C (some (dictOf es k)) ∧ Ents es nm vals :=
  let ⟨es, k, h1, h2⟩ := O.hd; ⟨es, k, ⟨O.ho, rfl, rfl, h1⟩, h2⟩
theorem ObjAt.at {h h' : Heap} {a C d nm vals} (O : ObjAt h a C d nm vals) (k1 : ∀ o, h.get? a = some o → h'.get? a = some o) (k2 : ∀ o, h.get? d = some o → h'.get? d = some o) : ObjAt h' a C d nm vals :=
  ⟨k1 _ O.ho, let ⟨es, k, h1, h2⟩ := O.hd; ⟨es, k, k2 _ h1, h2⟩⟩
theorem ObjAt.gr {h h' : Heap} {a C d nm vals} (O : ObjAt h a C d nm vals) (g : Gr h h') : ObjAt h' a C d nm vals := O.at (g _) (g _)
theorem ObjAt.ne {h : Heap} {a C d nm vals} (O : ObjAt h a C d nm vals) : a ≠ d := fun q => by
  obtain ⟨es, k, h1, _⟩ := O.hd
  rw [← q, O.ho] at h1; cases h1

/-- what is used of a class of the text -/
structure Cls (K : Frag) (C : Addr) (nm : List Str) : Prop where
  ga : findIn K (.ref C) "__getattribute__" = some (some (.builtin "object.__getattribute__"))
  gt : findIn K (.ref C) "__getattr__" = some none
  hd : hasDictIn K C = true
  fld : ∀ x ∈ nm, findIn K (.ref C) x = some none
  sa : findIn K (.ref C) "__setattr__" = some (some (.builtin "object.__setattr__"))
  po : plainOver K C = true
  nd : nm.Nodup
structure Mth (K : Frag) (C : Addr) (nm : List Str) (name : Str) (f : Addr) : Prop where
  fi : findIn K (.ref C) name = some (some (.ref f))
  ty : typeIn K (.ref f) = some (.type "function")
  kp : keepIn K (.ref f) = true
  no : name ∉ nm
theorem Mth.of {K : Frag} {C : Addr} {nm : List Str} {name : Str} {f : Addr} (fi : findIn K (.ref C) name = some (some (.ref f))) (ty : typeIn K (.ref f) = some (.type "function")) (kp : keepIn K (.ref f) = true) (no : decide (name ∉ nm) = true) : Mth K C nm name f :=
  ⟨fi, ty, kp, of_decide_eq_true no⟩
structure Prp (K : Frag) (C : Addr) (name : Str) (f : Addr) : Prop where
  ex : ∃ p rest, findIn K (.ref C) name = some (some (.ref p)) ∧ specialIn K (.ref p) "__get__" = some (some (.builtin "property.__get__")) ∧ takesIn K (.ref p) = some true ∧ recIn K p "property" = some (.ref f :: rest)

structure Bas (K : Frag) (h₀ : Heap) : Prop where
  inK : K.In h₀
  nl : h₀.NoLimit
  g : ∃ mg, h₀.Ns mainGlobals mg
  b : ∃ mb, h₀.Ns builtinsNs mb ∧ ∀ x : Str, x ≠ "__name__" → mb x = bootBuiltins x
  last : ∃ a o, h₀.get? a = some o ∧ h₀.objs.size ≤ a + 1
theorem Bas.ab {K h₀ h} (B : Bas K h₀) (g : Gr h₀ h) : h₀.objs.size ≤ h.objs.size := by
  obtain ⟨a, o, h1, h2⟩ := B.last
  have h3 : a < h.objs.size := Heap.lt_size (g _ _ h1)
  exact Nat.le_trans h2 h3

structure Cx (K : Frag) (h₀ : Heap) (env : Env) (nm : List Str) (vals : List (Option Value)) (h : Heap) : Prop where
  F : FE env nm
  lo : Locs h env.locals nm vals
  bs : Bas K h₀
  gb : Gr h₀ h
  ab : h₀.objs.size ≤ env.locals
theorem Cx.gr {K h₀ env nm vals h h'} (C : Cx K h₀ env nm vals h) (g : Gr h h') : Cx K h₀ env nm vals h' := ⟨C.F, C.lo.gr g, C.bs, C.gb.trans g, C.ab⟩
theorem Cx.inK {K h₀ env nm vals h} (C : Cx K h₀ env nm vals h) : K.In h := C.bs.inK.keeps C.gb
theorem Cx.fr {K h₀ env nm vals h} (C : Cx K h₀ env nm vals h) : ∃ m, Fr h₀ env.locals h m := let ⟨m, a, _⟩ := C.lo; ⟨m, a, C.gb, C.ab⟩

section
variable {prog : Program} {w : World} {n : Nat} {h h₀ : Heap} {env : Env} {K : Frag} {nm : List Str} {vals : List (Option Value)}

theorem ev_loc {x v i pos} (C : Cx K h₀ env nm vals h) (hx : At nm x i) (hv : vals[i]? = some (some v)) : Eva prog w n h (eval (.Name x pos) env) v := ev_name C.F C.lo hx hv
theorem ev_glob {x v pos} (C : Cx K h₀ env nm vals h) (e : nsIn K mainGlobals x = some (some v)) (hx : env.kindOf x = some .globalImplicit := by rfl) (hd : (x == ("__debug__" : Str)) = false := by decide) :
    Eva prog w n h (eval (.Name x pos) env) (er v) := by
  intro A Q E s r k q
  obtain ⟨mg, hg⟩ := C.bs.g
  refine Name_function_global C.F.kind hx (loadGlobal_global (mg := mg) (by rw [C.F.gl]; exact (hg.keeps C.gb).keeps k) (mg_of C.bs.inK hg e) (q v s rfl (.refl _ _))) hd
theorem ev_built {x v pos} (C : Cx K h₀ env nm vals h) (e : nsIn K mainGlobals x = some none) (hv : bootBuiltins x = some v) (hx : env.kindOf x = some .globalImplicit := by rfl) (hn : x ≠ "__name__" := by decide) (hd : (x == ("__debug__" : Str)) = false := by decide) :
    EvaP prog w n h (eval (.Name x pos) env) (fun v' _ => v' = v) := by
  intro A Q E s r k q
  obtain ⟨mg, hg⟩ := C.bs.g
  obtain ⟨mb, hb, hbb⟩ := C.bs.b
  refine Name_function_global C.F.kind hx (loadGlobal_builtin (mg := mg) (mb := mb) (by rw [C.F.gl]; exact (hg.keeps C.gb).keeps k) (mg_none_of C.bs.inK hg e) (by rw [C.F.bu]; exact (hb.keeps C.gb).keeps k) ((hbb x hn).trans hv) (q v s rfl (.refl _ _))) hd

theorem handed_er {v v' : Value} (h : er v' = v) (hh : handedIn v = true) : handedIn v' = true := by
  subst h; cases v' <;> first | rfl | exact hh

/-! attributes -/
theorem at_get {a C d} {fn : List Str} {fv : List Value} {x i v} {expr : Bool} (X : K.In h) (Cl : Cls K C fn) (O : ObjAt h a C d fn fv) (hx : At fn x i) (hv : fv[i]? = some v) (hh : handedIn v = true := by rfl) :
    Eva prog w n h (getAttr (.ref a) x expr) v := by
  intro A Q E s r k q
  obtain ⟨es, kk, I, En⟩ := (O.gr k).inst
  obtain ⟨v', h1, h2⟩ := En.get Cl.nd hx hv
  refine get_value (X.keeps k) I Cl.ga (findObj_own Cl.hd (Cl.fld x hx.mem) rfl (by rw [lookIn_dict]; exact h1)) (handed_er h2 hh) ?_
  exact q v' _ h2 .tok
theorem ev_attr {a C d} {fn : List Str} {fv : List Value} {x i v o pos} (X : K.In h) (Cl : Cls K C fn) (O : ObjAt h a C d fn fv) (h1 : Eva prog w n h (eval o env) (.ref a)) (hx : At fn x i) (hv : fv[i]? = some v) (hh : handedIn v = true := by rfl)
    (he : eval (.Attribute o x pos) env = (do let o' ← eval o env; standAt pos.atName; let r ← holding [o'] (getAttr o' x true); letTemporaryGo o o' r; pure r) := by rfl) :
    Eva prog w n h (eval (.Attribute o x pos) env) v := by
  intro A Q E s r k q
  refine Attribute_any_ (h1 A _ E s r k fun v' s1 p x1 => ?_) he
  obtain rfl := er_ref p
  exact at_get X Cl O hx hv hh A Q E s1 r (k.trans x1.gr) fun v2 s2 p2 x2 => q v2 s2 p2 (x1.trans x2)
/-- a def's contract: called, it ends with a value of which P is told -/
def FunP (prog : Program) (w : World) (n : Nat) (h : Heap) (f : Addr) (args : List Value) (P : Value → Heap → Prop) : Prop :=
  ∀ (A : Around) (R : Result → Shared → Prop) (s : Shared), Rm n A → Gr h s.heap →
    (∀ v s', P v s'.heap → SX [] s s' → R (.ok (.ret v)) s') → codeAny (model prog w) A (.call (.ref f) ⟨args, []⟩) R s
theorem FunP.call {f : Addr} {args : List Value} {P : Value → Heap → Prop} (x : FunP prog w n h f args P) : EvaP prog w n h (call (.ref f) args) P :=
  fun A Q E s r k q => wpAny_call (x A _ s r k fun v s' p x1 => q v s' p x1)
theorem FunP.gr {f args P} {h'} (x : FunP prog w n h f args P) (g : Gr h h') : FunP prog w n h' f args P := fun A R s r k q => x A R s r (g.trans k) q
theorem FunP.le {f args P} {m} (x : FunP prog w n h f args P) (g : n ≤ m) : FunP prog w m h f args P := fun A R s r k q => x A R s (r.mono g) k q
abbrev Fun (prog : Program) (w : World) (n : Nat) (h : Heap) (f : Addr) (args : List Value) (v : Value) : Prop :=
  ∀ args', args'.map er = args → FunP prog w n h f args' fun a _ => er a = v
theorem at_prop {a C d f} {fn : List Str} {fv : List Value} {x} {expr : Bool} {P : Value → Heap → Prop} (X : K.In h) (Cl : Cls K C fn) (O : ObjAt h a C d fn fv) (Pr : Prp K C x f)
    (hc : FunP prog w n h f [.ref a] P) (hh : ∀ v h', P v h' → handedIn v = true) : EvaP prog w (n + 1) h (getAttr (.ref a) x expr) P := by
  intro A Q E s r k q
  obtain ⟨es, kk, I, En⟩ := (O.gr k).inst
  obtain ⟨p, rest, h1, h2, h3, h4⟩ := Pr.ex
  refine get_bind (X.keeps k) I Cl.ga (findObj_data (by have := Cl.hd; unfold hasDictIn at this; obtain ⟨cd, hc, _⟩ := any_some this; rw [hc]; rfl) h1 h2 h3) Cl.gt ?_
  refine wpAny_call (prop_get (s := { s with toks := s.toks + 1 }) (X.keeps k) h4 ?_)
  exact hc A.in1 _ { s with toks := s.toks + 1 } r.in1 k fun v s' pv x1 => by
    show wpAny (model prog w) A (handedOut v) Q E s'
    rw [handedOut_of (hh _ _ pv)]; exact wpAny_pure (q v s' pv (SX.tok.trans x1))
theorem ev_prop {a C d f} {fn : List Str} {fv : List Value} {x o pos} {P : Value → Heap → Prop} (X : K.In h) (Cl : Cls K C fn) (O : ObjAt h a C d fn fv) (Pr : Prp K C x f) (h1 : Eva prog w (n + 1) h (eval o env) (.ref a))
    (hc : FunP prog w n h f [.ref a] P) (hh : ∀ v h', P v h' → handedIn v = true)
    (he : eval (.Attribute o x pos) env = (do let o' ← eval o env; standAt pos.atName; let r ← holding [o'] (getAttr o' x true); letTemporaryGo o o' r; pure r) := by rfl) :
    EvaP prog w (n + 1) h (eval (.Attribute o x pos) env) P := by
  intro A Q E s r k q
  refine Attribute_any_ (h1 A _ E s r k fun v' s1 p x1 => ?_) he
  obtain rfl := er_ref p
  exact at_prop X Cl O Pr hc hh A Q E s1 r (k.trans x1.gr) fun v2 s2 p2 x2 => q v2 s2 p2 (x1.trans x2)

/-! calls -/
def EvL (prog : Program) (w : World) (n : Nat) (h : Heap) (pos : Pos) (env : Env) (args : List Expr) (vals : List Value) : Prop :=
  EvaP prog w n h (spliced (backTo pos (starEach args env))) fun vs _ => vs.map er = vals
theorem el_nil {pos} : EvL prog w n h pos env [] [] := fun A Q E s r k q => args_nil (q _ _ rfl (.refl _ _))
theorem el_cons {pos e rest v vals} (h1 : Eva prog w n h (eval e env) v) (h2 : EvL prog w n h pos env rest vals)
    (he : starEach (e :: rest) env = (false, eval e env) :: starEach rest env := by rfl) : EvL prog w n h pos env (e :: rest) (v :: vals) :=
  fun A Q E s r k q => args_cons (h1 A _ E s r k fun v' s1 p x1 => h2 A _ E s1 r (k.trans x1.gr) fun vs s2 p2 x2 => q (v' :: vs) s2 (by show List.map er (v' :: vs) = _; rw [List.map_cons, p, p2]) (x1.trans x2)) he

theorem cw_args {M : Model} {A : Around} {E : Value → Shared → Prop} {s : Shared} {pos : Pos} {args : List Expr} {f : Value} {Q : Args → Shared → Prop} (hplain : (backTo pos (starEach args env)).any (·.1) = false)
    (h : wpAny M A (spliced (backTo pos (starEach args env))) (fun vs s' => Q ⟨vs, []⟩ s') E s) (h0 : args = [] → Q ⟨[], []⟩ s) : wpAny M A (evalArgs f true (backTo pos (starEach args env)) []) Q E s := by
  cases args with
  | nil => exact evalArgs_nil3 (h0 rfl)
  | cons e rest =>
    generalize hb : backTo pos (starEach (e :: rest) env) = l at *
    match l with
    | [] => unfold starEach backTo at hb; cases e <;> simp at hb
    | (false, x) :: rest => exact evalArgs_plain h
    | (true, x) :: rest => simp at hplain
/-- a call of a def or class of the text, whatever it does -/
theorem wp_callWith {A : Around} {E : Value → Shared → Prop} {s : Shared} {pos : Pos} {args : List Expr} {f : Value} {first : List Value} {avs : List Value} {Q : Value → Shared → Prop} (X : K.In h) (r : Rm n A) (k : Gr h s.heap)
    (kp : keepIn K f = true) (ha : EvL prog w n h pos env args avs)
    (hc : ∀ vs' s', vs'.map er = avs → SX [] s s' → wpAny (model prog w) A (call f (first ++ vs')) Q E s') (hplain : (backTo pos (starEach args env)).any (·.1) = false := by rfl) (h0 : args ≠ [] ∨ avs = [] := by first | exact .inr rfl | exact .inl (by nofun)) :
    wpAny (model prog w) A (callWith pos f first (backTo pos (starEach args env)) []) Q E s := by
  refine callWith_of (P := K.In) (by rw [hplain]; rfl) (keeps_K kp) (cw_args hplain ?_ fun e => ?_)
  · exact ha A _ E s r k fun vs s1 p x1 => ⟨X.keeps (k.trans x1.gr), hc vs s1 p x1⟩
  · exact ⟨X.keeps k, hc [] s (by rw [h0.resolve_left (fun q => q e)]; rfl) (.refl _ _)⟩
theorem wp_mcall {A : Around} {E : Value → Shared → Prop} {s : Shared} {o : Expr} {name : Str} {apos pos : Pos} {args : List Expr} {a C d f : Addr} {fn : List Str} {fv : List Value} {avs : List Value} {Q : Value → Shared → Prop} {pl : Sem Bool}
    (X : K.In h) (Cl : Cls K C fn) (O : ObjAt h a C d fn fv) (Me : Mth K C fn name f) (r : Rm n A) (k : Gr h s.heap)
    (h1 : Eva prog w n h (eval o env) (.ref a)) (ha : EvL prog w n h pos env args avs)
    (hc : ∀ vs' s', vs'.map er = avs → SX [] s s' → wpAny (model prog w) A (call (.ref f) (.ref a :: vs')) Q E s')
    (hplain : (backTo pos (starEach args env)).any (·.1) = false := by rfl) (h0 : args ≠ [] ∨ avs = [] := by first | exact .inr rfl | exact .inl (by nofun))
    (he : eval (.Call (.Attribute o name apos) args [] pos) env = (do
      let ov ← eval o env
      standAt apos.atName
      let (f, first) ← holding [ov] (getMethod ov name pl)
      callWith pos f first (backTo pos (starEach args env)) []) := by rfl) :
    wpAny (model prog w) A (eval (.Call (.Attribute o name apos) args [] pos) env) Q E s := by
  refine MethodCall_ (h1 A _ E s r k fun v' s1 p x1 => ?_) he
  obtain rfl := er_ref p
  have k1 := k.trans x1.gr
  obtain ⟨es, kk, I, En⟩ := (O.gr k1).inst
  refine method_fn (X.keeps k1) I Cl.ga Cl.gt Me.fi Me.ty (by show (lookIn name (dictOf es kk)).map _ = _; rw [lookIn_dict, En.none Me.no]; rfl) ?_
  exact wp_callWith X r k1 Me.kp ha (fun vs' s' e x => hc vs' s' e (x1.trans x)) hplain h0
theorem ev_mcall {o : Expr} {name : Str} {apos pos : Pos} {args : List Expr} {a C d f : Addr} {fn : List Str} {fv : List Value} {avs : List Value} {P : Value → Heap → Prop} {pl : Sem Bool}
    (X : K.In h) (Cl : Cls K C fn) (O : ObjAt h a C d fn fv) (Me : Mth K C fn name f)
    (h1 : Eva prog w n h (eval o env) (.ref a)) (ha : EvL prog w n h pos env args avs)
    (hc : ∀ vs', vs'.map er = avs → FunP prog w n h f (.ref a :: vs') P)
    (hplain : (backTo pos (starEach args env)).any (·.1) = false := by rfl) (h0 : args ≠ [] ∨ avs = [] := by first | exact .inr rfl | exact .inl (by nofun))
    (he : eval (.Call (.Attribute o name apos) args [] pos) env = (do
      let ov ← eval o env
      standAt apos.atName
      let (f, first) ← holding [ov] (getMethod ov name pl)
      callWith pos f first (backTo pos (starEach args env)) []) := by rfl) :
    EvaP prog w n h (eval (.Call (.Attribute o name apos) args [] pos) env) P :=
  fun A Q E s r k q => wp_mcall X Cl O Me r k h1 ha (fun vs' s' e x => (hc vs' e).call A Q E s' r (k.trans x.gr) fun v s2 p x2 => q v s2 p (x.trans x2)) hplain h0 he
end
end Mine
end
section
open PySem PySem.W PyProof.Rows PySem.Calls
set_option Elab.async false
set_option maxRecDepth 100000
set_option linter.unusedVariables false
namespace Mine

/-! lists -/
def Ls (h : Heap) (a : Addr) (vals : List Value) : Prop := ∃ its : Array Value, h.IsList a its ∧ its.toList.map er = vals
theorem Ls.at {h h' : Heap} {a vals} (x : Ls h a vals) (k : ∀ o, h.get? a = some o → h'.get? a = some o) : Ls h' a vals :=
  let ⟨its, ⟨o, e, r⟩, b⟩ := x; ⟨its, ⟨o, k _ e, r⟩, b⟩
theorem Ls.gr {h h' : Heap} {a vals} (x : Ls h a vals) (k : Gr h h') : Ls h' a vals := x.at (k _)
theorem Ls.there {h : Heap} {a vals} (x : Ls h a vals) : ∃ o, h.get? a = some o := let ⟨_, ⟨o, e, _⟩, _⟩ := x; ⟨o, e⟩
theorem m0 {args : List Value} (h : args.map er = []) : args = [] := by simpa using h
theorem m1 {args : List Value} {x} (h : args.map er = [x]) : ∃ a, args = [a] ∧ er a = x := by
  match args, h with
  | [a], h => exact ⟨a, rfl, by simpa using h⟩
theorem m2 {args : List Value} {x y} (h : args.map er = [x, y]) : ∃ a b, args = [a, b] ∧ er a = x ∧ er b = y := by
  match args, h with
  | [a, b], h => simp only [List.map_cons, List.map_nil, List.cons.injEq, and_true] at h; exact ⟨a, b, rfl, h⟩
theorem m3 {args : List Value} {x y z} (h : args.map er = [x, y, z]) : ∃ a b c, args = [a, b, c] ∧ er a = x ∧ er b = y ∧ er c = z := by
  match args, h with
  | [a, b, c], h => simp only [List.map_cons, List.map_nil, List.cons.injEq, and_true] at h; exact ⟨a, b, c, rfl, h⟩
theorem m4 {args : List Value} {x y z u} (h : args.map er = [x, y, z, u]) : ∃ a b c d, args = [a, b, c, d] ∧ er a = x ∧ er b = y ∧ er c = z ∧ er d = u := by
  match args, h with
  | [a, b, c, d], h => simp only [List.map_cons, List.map_nil, List.cons.injEq, and_true] at h; exact ⟨a, b, c, d, rfl, h⟩
theorem m5 {args : List Value} {x y z u v} (h : args.map er = [x, y, z, u, v]) : ∃ a b c d e, args = [a, b, c, d, e] ∧ er a = x ∧ er b = y ∧ er c = z ∧ er d = u ∧ er e = v := by
  match args, h with
  | [a, b, c, d, e], h => simp only [List.map_cons, List.map_nil, List.cons.injEq, and_true] at h; exact ⟨a, b, c, d, e, rfl, h⟩

section
variable {prog : Program} {w : World} {n : Nat} {h h₀ : Heap} {env : Env} {K : Frag} {nm : List Str} {vals : List (Option Value)}

theorem ev_item {l i : Expr} {pos : Pos} {a : Addr} {xs : List Value} {k : Int} {v : Value} (h1 : Eva prog w n h (eval l env) (.ref a)) (L : Ls h a xs) (h2 : Eva prog w n h (eval i env) (vi k)) (k0 : 0 ≤ k) (k1 : k < 2 ^ 63) (hv : xs[k.toNat]? = some v)
    (hs : ∀ o j, subscripted i false o j = operate [o, j] (getItem o j) := by intros; rfl) : Eva prog w n h (eval (.Subscript l i pos) env) v := by
  intro A Q E s r g q
  refine Subscript_ (h1 A _ E s r g fun o s1 p1 x1 => h2 A _ E s1 r (g.trans x1.gr) fun j s2 p2 x2 => ?_)
  obtain rfl := er_ref p1
  obtain ⟨t, rfl⟩ := er_vi p2
  obtain ⟨its, L1, L2⟩ := L.gr ((g.trans x1.gr).trans x2.gr)
  subst L2
  rw [List.getElem?_map] at hv
  obtain ⟨v', hv', e⟩ := Option.map_eq_some_iff.mp hv
  refine tail_any L1.typeIs slot_list_getitem.lookup (wpAny_getItem_list L1 k0 k1 (by rw [← Array.getElem?_toList]; exact hv') (q v' s2 e (x1.trans x2))) (hs _ _)

theorem lookup_of_mem {α β : Type} [BEq α] [LawfulBEq α] {x : α} {v : β} : ∀ {l : List (α × β)}, (l.map (·.1)).Nodup → (x, v) ∈ l → l.lookup x = some v
  | (y, u) :: r, nd, hm => by
    have nd' := List.nodup_cons.mp (by simpa using nd : (y :: r.map (·.1)).Nodup)
    rw [List.lookup_cons]
    rcases List.mem_cons.mp hm with q | q
    · cases q; simp
    · have : (x == y) = false := beq_false_of_ne fun z => nd'.1 (z ▸ List.mem_map.mpr ⟨_, q, rfl⟩)
      rw [this]; exact lookup_of_mem nd'.2 q
/-- entering a def: its frame -/
theorem locs_binds {h : Heap} {L : Addr} {nm : List Str} {args avs : List Value} {k : Nat} (nd : nm.Nodup) (ha : args.map er = avs)
    (hn : h.Ns L fun x => ((nm.take args.length).zip args).reverse.lookup x) : Locs h L nm (avs.map some ++ List.replicate k none) := by
  refine ⟨_, hn, fun i x v e f => ?_⟩
  subst ha
  by_cases hi : i < args.length
  · rw [List.getElem?_append_left (by simpa using hi), List.getElem?_map, List.getElem?_map, List.getElem?_eq_getElem hi] at f
    simp only [Option.map_some, Option.some.injEq] at f
    refine ⟨args[i], ?_, f⟩
    obtain ⟨hl, e⟩ := List.getElem?_eq_some_iff.mp e
    have hz : (x, args[i]) ∈ ((nm.take args.length).zip args).reverse := by
      rw [List.mem_reverse, List.mem_iff_getElem]
      refine ⟨i, by simp; omega, ?_⟩
      simp [e]
    have nd2 : (((nm.take args.length).zip args).reverse.map (·.1)).Nodup := by
      rw [List.map_reverse]
      refine List.pairwise_reverse.mpr (List.Pairwise.imp Ne.symm ?_)
      have : ((nm.take args.length).zip args).map (·.1) = nm.take args.length := List.map_fst_zip (by simp; omega)
      rw [this]
      exact nd.sublist (List.take_sublist _ _)
    exact lookup_of_mem nd2 hz
  · exfalso
    rw [List.getElem?_append_right (by simpa using hi)] at f
    obtain ⟨_, f⟩ := List.getElem?_eq_some_iff.mp f
    simp at f


/-- a thing owned: its places, what holds of them -/
structure Res where
  fp : Addr → Prop
  I : Heap → Prop
  st : ∀ h h' : Heap, (∀ b o, fp b → h.get? b = some o → h'.get? b = some o) → I h → I h'
  ex : ∀ h, I h → ∀ b, fp b → ∃ o, h.get? b = some o
def Res.emp : Res := ⟨fun _ => False, fun _ => True, fun _ _ _ _ => trivial, fun _ _ _ q => q.elim⟩
def Res.and (a b : Res) : Res := ⟨fun x => a.fp x ∨ b.fp x, fun h => a.I h ∧ b.I h, fun h h' k x => ⟨a.st h h' (fun y o q => k y o (.inl q)) x.1, b.st h h' (fun y o q => k y o (.inr q)) x.2⟩, fun h x y q => q.elim (a.ex h x.1 y) (b.ex h x.2 y)⟩
def Res.gr (h : Heap) : Res := ⟨fun b => ∃ o, h.get? b = some o, fun h' => Gr h h', fun h1 h2 k x b o e => k b o ⟨o, e⟩ (x b o e), fun h1 x b ⟨o, e⟩ => ⟨o, x b o e⟩⟩
theorem Res.I_gr {r : Res} {h h' : Heap} (x : r.I h) (g : Gr h h') : r.I h' := r.st h h' (fun b o _ e => g b o e) x
theorem Res.I_off {r : Res} {s s' : Shared} {D : List Addr} (x : r.I s.heap) (k : SX D s s') (hd : ∀ b ∈ D, ¬ r.fp b) : r.I s'.heap := r.st _ _ (fun b o f e => k.hp b o (fun m => hd b m f) e) x
/-- where a def's own run stands -/
structure Act (K : Frag) (h₀ : Heap) (env : Env) (nm : List Str) (vals : List (Option Value)) (D : List Addr) (r R : Res) (s₀ s : Shared) : Prop where
  cx : Cx K h₀ env nm vals s.heap
  sx : SX D s₀ s
  fr : s₀.heap.get? env.locals = none
  own : r.I s.heap
  rest : R.I s.heap
  dj : ∀ b, r.fp b → R.fp b → False
  lo : ¬ r.fp env.locals
  lr : ¬ R.fp env.locals
variable {D : List Addr} {ρ R : Res} {s₀ s : Shared} {A : Around} {E : Value → Shared → Prop}
theorem Act.pure {s'} (H : Act K h₀ env nm vals D ρ R s₀ s) (x : SX [] s s') : Act K h₀ env nm vals D ρ R s₀ s' :=
  ⟨H.cx.gr x.gr, H.sx.transR x, H.fr, Res.I_gr H.own x.gr, Res.I_gr H.rest x.gr, H.dj, H.lo, H.lr⟩
theorem Act.sub {vals'} (H : Act K h₀ env nm vals D ρ R s₀ s) (k : ∀ (i : Nat) v, vals'[i]? = some (some v) → vals[i]? = some (some v)) : Act K h₀ env nm vals' D ρ R s₀ s :=
  ⟨⟨H.cx.F, H.cx.lo.sub k, H.cx.bs, H.cx.gb, H.cx.ab⟩, H.sx, H.fr, H.own, H.rest, H.dj, H.lo, H.lr⟩
theorem Act.eqv {vals'} (H : Act K h₀ env nm vals D ρ R s₀ s) (e : vals = vals') : Act K h₀ env nm vals' D ρ R s₀ s := e ▸ H
theorem Act.newB (H : Act K h₀ env nm vals D ρ R s₀ s) : h₀.get? env.locals = none := by
  cases q : h₀.get? env.locals with
  | none => rfl
  | some o => exact absurd (Heap.lt_size q) (Nat.not_lt.mpr H.cx.ab)
theorem Act.there (H : Act K h₀ env nm vals D ρ R s₀ s) : ∃ o, s.heap.get? env.locals = some o := H.cx.lo.there
/-- a step that changes objects D' of the owned thing -/
theorem Act.mut {s' D'} {ρ' : Res} (H : Act K h₀ env nm vals D ρ R s₀ s) (x : SX D' s s') (hD : ∀ b ∈ D', ρ.fp b ∧ h₀.get? b = none ∧ (b ∈ D ∨ s₀.heap.get? b = none)) (hI : ρ'.I s'.heap) (hf : ∀ b, ρ'.fp b → ρ.fp b ∨ s.heap.get? b = none) : Act K h₀ env nm vals D ρ' R s₀ s' := by
  have hL : env.locals ∉ D' := fun m => H.lo (hD _ m).1
  refine ⟨⟨H.cx.F, H.cx.lo.at fun o e => x.hp _ o hL e, H.cx.bs, fun b o e => x.hp b o (fun m => by rw [(hD b m).2.1] at e; cases e) (H.cx.gb b o e), H.cx.ab⟩,
   H.sx.step x fun b m => (hD b m).2.2, H.fr, hI, Res.I_off H.rest x fun b m q => H.dj b (hD b m).1 q, fun b q1 q2 => ?_, fun q => ?_, H.lr⟩
  · rcases hf b q1 with q | q
    · exact H.dj b q q2
    · obtain ⟨o, e⟩ := R.ex _ H.rest b q2
      rw [q] at e; cases e
  · rcases hf _ q with q | q
    · exact H.lo q
    · obtain ⟨o, e⟩ := H.there
      rw [q] at e; cases e
/-- the same place, told otherwise -/
theorem Act.as {ρ' R' : Res} (H : Act K h₀ env nm vals D ρ R s₀ s) (a : ρ'.I s.heap) (b : R'.I s.heap) (dj : ∀ b, ρ'.fp b → R'.fp b → False) (lo : ¬ ρ'.fp env.locals) (lr : ¬ R'.fp env.locals) : Act K h₀ env nm vals D ρ' R' s₀ s :=
  ⟨H.cx, H.sx, H.fr, a, b, dj, lo, lr⟩
theorem Act.setLoc {x i v v' h' tk} (H : Act K h₀ env nm vals D ρ R s₀ s) {m : Str → Option Value} (hx : At nm x i) (he : er v' = v)
    (hm : ∀ (i : Nat) (x : Str) (v : Value), nm[i]? = some x → vals[i]? = some (some v) → ∃ v', m x = some v' ∧ er v' = v)
    (hn : h'.Ns env.locals (fun y => if y = x then some v' else m y)) (hs : Heap.SameBut env.locals s.heap h') : Act K h₀ env nm (vals.set i (some v)) D ρ R s₀ { s with heap := h', toks := tk } :=
  have hS : SX [env.locals] s { s with heap := h', toks := tk } := SX.heap fun b o nb e => hs.extBut b o (by simpa using nb) e
  ⟨⟨H.cx.F, Locs.set H.cx.F.nd hm hx hn he, H.cx.bs, fun b o e => hs.extBut b o (fun q => by rw [q, H.newB] at e; cases e) (H.cx.gb b o e), H.cx.ab⟩,
   H.sx.step hS (fun b m => by rw [List.mem_singleton.mp m]; exact .inr H.fr), H.fr, Res.I_off H.own hS (fun b m q => H.lo (List.mem_singleton.mp m ▸ q)), Res.I_off H.rest hS (fun b m q => H.lr (List.mem_singleton.mp m ▸ q)), H.dj, H.lo, H.lr⟩

theorem x_store {x i v v' Q} (H : Act K h₀ env nm vals D ρ R s₀ s) (hx : At nm x i) (he : er v' = v)
    (k : ∀ s', Act K h₀ env nm (vals.set i (some v)) D ρ R s₀ s' → SX [env.locals] s s' → Q () s') : wpAny (model prog w) A (storeName env x v') Q E s := by
  obtain ⟨m, hn, hm⟩ := H.cx.lo
  refine wpAny_storeName_local (H.cx.F.loc x hx.mem).1 hn (fun h' hn' hs => ?_) (by rw [H.cx.F.kind]; rfl)
  exact k _ (H.setLoc hx he hm hn' hs) (SX.heap fun b o nb e => hs.extBut b o (by simpa using nb) e)
theorem x_assignP {x i e pos p} {P : Value → Heap → Prop} {Q : Flow → Shared → Prop} (H : Act K h₀ env nm vals D ρ R s₀ s) (r : Rm n A) (he : EvaP prog w n s.heap (eval e env) P) (hx : At nm x i)
    (k : ∀ v s1 s', P v s1.heap → SX [] s s1 → SX [env.locals] s1 s' → Act K h₀ env nm (vals.set i (some (er v))) D ρ R s₀ s' → Q .next s') (hsw : swapsWith e (some (.Name x p)) pos.line env = Pure.pure false := by rfl) :
    wpAny (model prog w) A (exec (.Assign [.Name x p] e pos) env) Q E s :=
  wpAny_Assign_Name (he A _ E s r (Gr.refl _) fun v s1 pv x1 => x_store (H.pure x1) hx rfl fun s' H' x2 => k v s1 s' pv x1 x2 H') hsw
theorem x_assign {x i e v pos p} {Q : Flow → Shared → Prop} (H : Act K h₀ env nm vals D ρ R s₀ s) (r : Rm n A) (he : Eva prog w n s.heap (eval e env) v) (hx : At nm x i)
    (k : ∀ s', Act K h₀ env nm (vals.set i (some v)) D ρ R s₀ s' → SX [env.locals] s s' → Q .next s') (hsw : swapsWith e (some (.Name x p)) pos.line env = Pure.pure false := by rfl) :
    wpAny (model prog w) A (exec (.Assign [.Name x p] e pos) env) Q E s :=
  x_assignP H r he hx (fun v' s1 s' pv x1 x2 H' => k s' (pv ▸ H') (x1.transL x2)) hsw
theorem x_aug {x i e op pos p} {v y r' : Value} {Q : Flow → Shared → Prop} (H : Act K h₀ env nm vals D ρ R s₀ s) (r : Rm n A) (hx : At nm x i) (hv : vals[i]? = some (some v)) (he : Eva prog w n s.heap (eval e env) y)
    (hop : ∀ v' y', er v' = v → er y' = y → EvaP prog w n s.heap (inplaceOp op v' y') fun z _ => er z = r')
    (k : ∀ s', Act K h₀ env nm (vals.set i (some r')) D ρ R s₀ s' → SX [env.locals] s s' → Q .next s') :
    wpAny (model prog w) A (exec (.AugAssign (.Name x p) op e pos) env) Q E s := by
  obtain ⟨m, hn, hm⟩ := id H.cx.lo
  obtain ⟨v', hv', e'⟩ := hm i x v hx.get hv
  refine wpAny_AugAssign_Name (wpAny_loadName_local H.cx.F.kind (H.cx.F.loc x hx.mem).1 hn hv' (he A _ E s r (Gr.refl _) fun y' s1 py x1 => ?_))
  exact hop v' y' e' py A _ E s1 r x1.gr fun z s2 pz x2 => x_store ((H.pure x1).pure x2) hx pz fun s' H' x3 => k s' H' ((x1.trans x2).transL x3)
theorem io_add {a b : Int} {a' b' : Value} (ha : er a' = vi a) (hb : er b' = vi b) : Eva prog w n h (inplaceOp .Add a' b') (vi (a + b)) := by
  obtain ⟨t, rfl⟩ := er_vi ha; obtain ⟨u, rfl⟩ := er_vi hb
  exact fun A Q E s r k q => wpAny_iadd_int (q _ _ rfl .tok)
theorem io_sub {a b : Int} {a' b' : Value} (ha : er a' = vi a) (hb : er b' = vi b) : Eva prog w n h (inplaceOp .Sub a' b') (vi (a - b)) := by
  obtain ⟨t, rfl⟩ := er_vi ha; obtain ⟨u, rfl⟩ := er_vi hb
  exact fun A Q E s r k q => isub_int (q _ _ rfl .tok)
theorem x_ret {e pos} {Q : Flow → Shared → Prop} {P : Value → Heap → Prop} (H : Act K h₀ env nm vals D ρ R s₀ s) (r : Rm n A) (he : EvaP prog w n s.heap (eval e env) P)
    (k : ∀ v s', P v s'.heap → Act K h₀ env nm vals D ρ R s₀ s' → SX [] s s' → Q (.ret v) s') : wpAny (model prog w) A (exec (.Return (some e) pos) env) Q E s :=
  wpAny_Return_some (he A _ E s r (Gr.refl _) fun v s1 pv x1 => k v s1 pv (H.pure x1) x1)
theorem x_if {t body orelse pos} {c : Bool} {Q : Flow → Shared → Prop} (H : Act K h₀ env nm vals D ρ R s₀ s) (r : Rm n A) (ht : EvB prog w n s.heap (PySem.isTrue t env (eval t env)) c)
    (h1 : c = true → ∀ s', Act K h₀ env nm vals D ρ R s₀ s' → SX [] s s' → wpAny (model prog w) A (execs body env) Q E s')
    (h2 : c = false → ∀ s', Act K h₀ env nm vals D ρ R s₀ s' → SX [] s s' → wpAny (model prog w) A (execs orelse env) Q E s') : wpAny (model prog w) A (exec (.If t body orelse pos) env) Q E s :=
  wpAny_If (ht A _ E s r (Gr.refl _) fun b s1 pb x1 => by
    subst pb
    cases b with
    | true => simp only [if_true]; exact h1 rfl s1 (H.pure x1) x1
    | false => simp only [Bool.false_eq_true, if_false]; exact h2 rfl s1 (H.pure x1) x1)

/-- a def that changes D (an abstract of it: s to s'): its contract -/
def MutP (prog : Program) (w : World) (n : Nat) (f : Addr) (args : List Value) (s : Shared) (D : List Addr) (P : Value → Shared → Prop) : Prop :=
  ∀ (A : Around) (R : Result → Shared → Prop), Rm n A → (∀ v s', P v s' → SX D s s' → R (.ok (.ret v)) s') → codeAny (model prog w) A (.call (.ref f) ⟨args, []⟩) R s
theorem MutP.call {f args D P} (x : MutP prog w n f args s D P) {Q} (r : Rm n A) (q : ∀ v s', P v s' → SX D s s' → Q v s') : wpAny (model prog w) A (call (.ref f) args) Q E s :=
  wpAny_call (x A _ r fun v s' p x1 => q v s' p x1)
theorem kindOf_of {x : Str} {sc : Scope} {k : NameKind} (hs : env.scope = sc) (e : sc.names.lookup x = some k) : env.kindOf x = some k := by unfold Env.kindOf; rw [hs]; exact e
theorem mut_enter {f : Addr} {fd : FuncData} {body : List Stmt} {args args2 avs2 : List Value} {oc od sl} {k : Nat} {P : Value → Shared → Prop} {nm : List Str} (B : Bas K h₀) (gb : Gr h₀ s.heap)
    (hI : ρ.I s.heap)
    (hf : K.lookup f = some ⟨oc, od, .func fd, sl⟩) (hb : fd.body = .stmts body) (hc : codeIn K fd.code fd.qualname = true)
    (hbind : BindsTo s fd ⟨args, []⟩ ((nm.take args2.length).zip args2)) (ha : args2.map er = avs2)
    (hloc : (nm.all fun x => fd.scope.names.lookup x == some .local && !(x == ("__debug__" : Str))) = true) (hnd : decide nm.Nodup = true)
    (hcell : (fd.scope.names.all fun x => x.2 != .cell) = true)
    (body_ : ∀ env s', env.scope = fd.scope → Act K h₀ env nm (avs2.map some ++ List.replicate k none) D ρ .emp s s' →
      ∀ (A : Around) (Q : Flow → Shared → Prop), Rm n A → (∀ v s', P v s' → SX D s s' → Q (.ret v) s') → (∀ s', P .none s' → SX D s s' → Q .next s') →
      wpAny (model prog w) A (execs body env) Q (fun _ _ => False) s')
    (hg : fd.globals = mainGlobals := by rfl) (hbu : fd.builtins = builtinsNs := by rfl)
    (hco : fd.scope.isCoroutine = false := by rfl) (hgen : fd.scope.isGenerator = false := by rfl) (hk : fd.scope.kind = .function := by rfl) :
    MutP prog w (n + 1) f args s D P := by
  intro A R r q
  have hF : ∀ L, FE (callEnv fd L f) nm := fun L => FE.of hk hloc hnd hg hbu
  have hloc : ∀ x ∈ (nm.take args2.length).zip args2, fd.scope.names.lookup x.1 = some .local := fun x hx =>
    ((hF 0).loc x.1 (List.mem_of_mem_take (List.of_mem_zip (by exact hx)).1)).1
  refine codeAny_call_def (binds := (nm.take args2.length).zip args2) r.room ((B.inK.keeps gb) _ _ hf) rfl (B.nl.keeps gb) (codeRec_of (B.inK.keeps gb) hc) hb hbind
    (fun x hx => by have := List.all_eq_true.mp hcell x hx; simpa using this) hloc (fun h1 hn hk1 => ?_) hco hgen hk
  have hfresh : s.heap.get? s.heap.objs.size = none := by
    cases q : s.heap.get? s.heap.objs.size with
    | none => rfl
    | some o => exact absurd (Heap.lt_size q) (Nat.lt_irrefl _)
  refine wpAny_mono (body_ (callEnv fd s.heap.objs.size f) _ rfl ⟨⟨hF _, ?_, B, gb.trans hk1, B.ab gb⟩, SX.heap fun b o _ e => hk1 b o e, hfresh, Res.I_gr hI hk1, trivial, fun _ _ q => q, fun q => (by obtain ⟨o, e⟩ := ρ.ex _ hI _ q; exact absurd (hfresh.symm.trans e) (by nofun)), id⟩ _ _ r.deeper
    (fun v s' p x => q v s' p x) (fun s' p x => q .none s' p x)) (fun _ _ z => z) fun _ _ z => z.elim
  exact locs_binds (hF 0).nd ha hn
/-- a pure def -/
theorem fun_enter {f : Addr} {fd : FuncData} {body : List Stmt} {args args2 avs2 : List Value} {oc od sl} {k : Nat} {P : Value → Heap → Prop} {nm : List Str} (B : Bas K h₀) (gb : Gr h₀ h)
    (hf : K.lookup f = some ⟨oc, od, .func fd, sl⟩) (hb : fd.body = .stmts body) (hc : codeIn K fd.code fd.qualname = true)
    (hbind : ∀ s : Shared, Gr h s.heap → BindsTo s fd ⟨args, []⟩ ((nm.take args2.length).zip args2)) (ha : args2.map er = avs2)
    (hloc : (nm.all fun x => fd.scope.names.lookup x == some .local && !(x == ("__debug__" : Str))) = true) (hnd : decide nm.Nodup = true)
    (hcell : (fd.scope.names.all fun x => x.2 != .cell) = true)
    (body_ : ∀ env s s', Gr h s.heap → env.scope = fd.scope → Act K h₀ env nm (avs2.map some ++ List.replicate k none) [] (.gr h) .emp s s' →
      ∀ (A : Around) (Q : Flow → Shared → Prop), Rm n A → (∀ v s', P v s'.heap → SX [] s s' → Q (.ret v) s') → (∀ s', P .none s'.heap → SX [] s s' → Q .next s') →
      wpAny (model prog w) A (execs body env) Q (fun _ _ => False) s')
    (hg : fd.globals = mainGlobals := by rfl) (hbu : fd.builtins = builtinsNs := by rfl)
    (hco : fd.scope.isCoroutine = false := by rfl) (hgen : fd.scope.isGenerator = false := by rfl) (hk : fd.scope.kind = .function := by rfl) :
    FunP prog w (n + 1) h f args P := by
  intro A R s r g q
  exact mut_enter (ρ := .gr h) (P := fun v s' => P v s'.heap) (D := []) (k := k) B (gb.trans g) g hf hb hc (hbind s g) ha hloc hnd hcell
    (fun env s' hs H A Q r q1 q2 => body_ env s s' g hs H A Q r q1 q2) hg hbu hco hgen hk A R r q
theorem y_assign {x i e v pos p rest} {Q : Flow → Shared → Prop} (H : Act K h₀ env nm vals D ρ R s₀ s) (r : Rm n A) (he : Eva prog w n s.heap (eval e env) v) (hx : At nm x i)
    (k : ∀ s', Act K h₀ env nm (vals.set i (some v)) D ρ R s₀ s' → SX [env.locals] s s' → wpAny (model prog w) A (execs rest env) Q E s') (hsw : swapsWith e (some (.Name x p)) pos.line env = Pure.pure false := by rfl) :
    wpAny (model prog w) A (execs (.Assign [.Name x p] e pos :: rest) env) Q E s := wpAny_execs_cons (x_assign H r he hx k hsw)
theorem y_ret {e pos rest} {Q : Flow → Shared → Prop} {P : Value → Heap → Prop} (H : Act K h₀ env nm vals D ρ R s₀ s) (r : Rm n A) (he : EvaP prog w n s.heap (eval e env) P)
    (k : ∀ v s', P v s'.heap → Act K h₀ env nm vals D ρ R s₀ s' → SX [] s s' → Q (.ret v) s') : wpAny (model prog w) A (execs (.Return (some e) pos :: rest) env) Q E s := wpAny_execs_cons (x_ret H r he k)
theorem y_if {t body orelse pos rest} {c : Bool} {Q : Flow → Shared → Prop} (H : Act K h₀ env nm vals D ρ R s₀ s) (r : Rm n A) (ht : EvB prog w n s.heap (PySem.isTrue t env (eval t env)) c)
    (h1 : c = true → ∀ s', Act K h₀ env nm vals D ρ R s₀ s' → SX [] s s' → wpAny (model prog w) A (execs body env) (fun f s' => match f with | .next => wpAny (model prog w) A (execs rest env) Q E s' | f => Q f s') E s')
    (h2 : c = false → ∀ s', Act K h₀ env nm vals D ρ R s₀ s' → SX [] s s' → wpAny (model prog w) A (execs orelse env) (fun f s' => match f with | .next => wpAny (model prog w) A (execs rest env) Q E s' | f => Q f s') E s') : wpAny (model prog w) A (execs (.If t body orelse pos :: rest) env) Q E s :=
  wpAny_execs_cons (x_if H r ht h1 h2)

theorem ObjAt.ne_list {h : Heap} {a C d l fn fv xs} (O : ObjAt h a C d fn fv) (L : Ls h l xs) : a ≠ l ∧ d ≠ l := by
  obtain ⟨es, kk, e1, _⟩ := O.hd
  obtain ⟨its, ⟨o, e2, e3, _⟩, _⟩ := L
  refine ⟨fun q => ?_, fun q => ?_⟩ <;> subst q
  · rw [O.ho] at e2; cases e2; cases e3
  · rw [e1] at e2; cases e2; simp at e3
theorem ObjAt.off {a C d l fn fv xs} {s s' : Shared} (O : ObjAt s.heap a C d fn fv) (L : Ls s.heap l xs) (x : SX [l] s s') : ObjAt s'.heap a C d fn fv :=
  O.at (fun o e => x.hp _ o (by simpa using (O.ne_list L).1) e) (fun o e => x.hp _ o (by simpa using (O.ne_list L).2) e)
/-! items of an object with __getitem__, __setitem__ -/
structure Sub (K : Frag) (C f : Addr) : Prop where
  hs : findIn K (.ref C) "__getitem__" = some (some (.ref f))
  fn : fnIn K f = true
  isf : isFn K (.ref f) = true
structure Sto (K : Frag) (C f : Addr) : Prop where
  hs : findIn K (.ref C) "__setitem__" = some (some (.ref f))
  nq : noSeq K C = true
  isf : isFn K (.ref f) = true
theorem ev_sub {l i : Expr} {pos : Pos} {a C d f : Addr} {fn : List Str} {fv : List Value} {v : Value} {P : Value → Heap → Prop} (Cc : Cx K h₀ env nm vals h) (O : ObjAt h a C d fn fv) (Su : Sub K C f) (h1 : Eva prog w (n + 1) h (eval l env) (.ref a)) (h2 : Eva prog w (n + 1) h (eval i env) v)
    (hc : ∀ v', er v' = v → FunP prog w n h f [.ref a, v'] P)
    (hsl : ∀ j, subscripted i true (.ref a) j = runValue (.builtin "lifetime.subscript" ⟨[.ref a, j], []⟩) := by intros; rfl) : EvaP prog w (n + 1) h (eval (.Subscript l i pos) env) P := by
  intro A Q E s r g q
  refine Subscript_ (h1 A _ E s r g fun o s1 p1 x1 => h2 A _ E s1 r (g.trans x1.gr) fun j s2 p2 x2 => ?_)
  obtain rfl := er_ref p1
  have g2 := (g.trans x1.gr).trans x2.gr
  obtain ⟨m, Fm⟩ := (Cc.gr g2).fr
  obtain ⟨es, kk, I, En⟩ := (O.gr g2).inst
  exact sub_K Fm Cc.bs.inK I Su.hs Su.fn Su.isf ((hc j p2).call A.in1 _ E s2 r.in1 g2 fun v s3 p3 x3 => q v s3 p3 (x1.trans (x2.trans x3))) (hsl _)
theorem wp_setobj {a C d f : Addr} {fn : List Str} {fv : List Value} {i v : Value} {Q : Unit → Shared → Prop} (Cc : Cx K h₀ env nm vals s.heap) (O : ObjAt s.heap a C d fn fv) (St : Sto K C f)
    (hc : wpAny (model prog w) A (call (.ref f) [.ref a, i, v]) (fun _ => Q ()) E s) : wpAny (model prog w) A (setItem (.ref a) i v) Q E s := by
  obtain ⟨m, Fm⟩ := Cc.fr
  obtain ⟨es, kk, I, En⟩ := O.inst
  exact ksp_setItem Fm Cc.bs.inK I St.nq St.hs St.isf hc
theorem x_setobj {l i e : Expr} {pos p : Pos} {a C d f : Addr} {fn : List Str} {fv : List Value} {j v : Value} {D' : List Addr} {P : Value → Shared → Prop} {Q : Flow → Shared → Prop} (H : Act K h₀ env nm vals D ρ R s₀ s) (r : Rm n A)
    (he : Eva prog w n s.heap (eval e env) v) (hl : Eva prog w n s.heap (eval l env) (.ref a)) (hi : Eva prog w n s.heap (eval i env) j) (O : ObjAt s.heap a C d fn fv) (St : Sto K C f)
    (hc : ∀ j' v' s', er j' = j → er v' = v → SX [] s s' → MutP prog w n f [.ref a, j', v'] s' D' P)
    (k : ∀ u s1 s', SX [] s s1 → SX D' s1 s' → P u s' → Q .next s') (hsw : swapsWith e (some (.Subscript l i p)) pos.line env = Pure.pure false := by rfl) :
    wpAny (model prog w) A (exec (.Assign [.Subscript l i p] e pos) env) Q E s := by
  refine wpAny_Assign_Subscript (he A _ E s r (Gr.refl _) fun v' s1 p1 x1 => hl A _ E s1 r x1.gr fun o s2 p2 x2 => hi A _ E s2 r (x1.trans x2).gr fun j' s3 p3 x3 => ?_) hsw
  obtain rfl := er_ref p2
  have x := (x1.trans x2).trans x3
  exact wp_setobj (H.cx.gr x.gr) (O.gr x.gr) St ((hc j' v' s3 p3 p1 x).call r fun u s4 p4 x4 => k u s3 s4 x x4 p4)
theorem x_setlist {l i e : Expr} {pos p : Pos} {a : Addr} {xs : List Value} {kk : Int} {v : Value} {Q : Flow → Shared → Prop} (H : Act K h₀ env nm vals D ρ R s₀ s) (r : Rm n A)
    (he : Eva prog w n s.heap (eval e env) v) (hl : Eva prog w n s.heap (eval l env) (.ref a)) (hi : Eva prog w n s.heap (eval i env) (vi kk)) (L : Ls s.heap a xs) (k0 : 0 ≤ kk) (k1 : kk < 2 ^ 63) (k2 : kk < xs.length)
    (k : ∀ s', SX [a] s s' → Ls s'.heap a (xs.set kk.toNat v) → Q .next s') (hsw : swapsWith e (some (.Subscript l i p)) pos.line env = Pure.pure false := by rfl) :
    wpAny (model prog w) A (exec (.Assign [.Subscript l i p] e pos) env) Q E s := by
  refine wpAny_Assign_Subscript (he A _ E s r (Gr.refl _) fun v' s1 p1 x1 => hl A _ E s1 r x1.gr fun o s2 p2 x2 => hi A _ E s2 r (x1.trans x2).gr fun j' s3 p3 x3 => ?_) hsw
  obtain rfl := er_ref p2
  obtain ⟨t, rfl⟩ := er_vi p3
  have x := (x1.trans x2).trans x3
  obtain ⟨its, L1, L2⟩ := L.gr x.gr
  subst L2
  refine wpAny_setItem_list L1 k0 k1 (by simpa using k2) fun h' hl' hs' => ?_
  refine k _ (x.transL (SX.heap fun b o nb e => hs'.extBut b o (by simpa using nb) e)) ⟨_, hl', ?_⟩
  rw [Array.toList_setIfInBounds, List.map_set, p1]

/-! fields -/
theorem wp_setattr {a C d : Addr} {fn fn' fc : List Str} {fv fv' : List Value} {name : Str} {v' : Value} {Q : Unit → Shared → Prop} (X : K.In s.heap) (Cl : Cls K C fc) (O : ObjAt s.heap a C d fn fv) (hx : name ∈ fc)
    (hput : ∀ es hsh t, Ents es fn fv → Ents (putL name hsh (.str name t) v' es) fn' fv') (hl2 : fn'.length ≤ 1000)
    (k : ∀ s', SX [d] s s' → ObjAt s'.heap a C d fn' fv' → Q () s') : wpAny (model prog w) A (setAttr (.ref a) name v') Q E s := by
  obtain ⟨es, kk, I, En⟩ := O.inst
  have D0 : s.heap.get? d = some (dictOf es kk) := by
    obtain ⟨_, _, _, hd⟩ := I; exact hd
  refine set_plain X I Cl.sa (osa_open (s := { s with toks := s.toks + 1 }) (r := none) X I Cl.po (by unfold takerIn; rw [Cl.fld name hx]; rfl) fun b => ?_)
  obtain ⟨cd, hc, hd'⟩ := any_some (show (clsIn K C).any (·.hasDict) = true from Cl.hd)
  refine wpAny_bind (wpAny_pure (wpAny_bind (wpAny_bind (wpAny_loadPart O.ho (wpAny_bind ((looks_clsIn X hc).at ?_))))))
  rw [hd']
  refine wpAny_pure (a := some d) (wpAny_bind (wpAny_pure (wpAny_bind ?_)))
  unfold nsSet
  refine wpAny_bind (wpAny_bind (wpAny_askSetting (wpAny_pure (wpAny_bind (wpAny_mkText (wpAny_bind (wpAny_loadPart D0 ?_)))))))
  dsimp only
  have c : (!es.toArray.any (·.key.isStr name) && es.toArray.any (·.refKey)) = false := by
    rw [← Array.any_toList (p := fun e : DictEntry => e.refKey), List.toList_toArray, En.noref, Bool.and_false]
  rw [aRefKeyMayBeTheName_at, c]
  have e := putName_dict name (PyData.keyHash w.params name) (.str name (s.toks + 1)) v' es kk
  have En' := hput es (PyData.keyHash w.params name) (s.toks + 1) En
  have U : (s.heap.update d (Obj.putName name (PyData.keyHash w.params name) (.str name (s.toks + 1)) v')).get? d = some (dictOf (putL name (PyData.keyHash w.params name) (.str name (s.toks + 1)) v' es) (putN name es kk)) := by
    rw [Heap.get?_update_self _ D0 (by rw [e]; rfl), e]
  refine wpAny_updatePart D0 ?_
  refine wpAny_bind (wpAny_lookBehind U (pastItsLine_dict (by rw [List.size_toArray, En'.len, sizeLine_eq]; omega)) ?_)
  refine wpAny_pure (k _ (SX.heap fun b o nb e => ?_) ⟨?_, _, _, U, En'⟩)
  · exact (Heap.get?_update_ne _ _ _ _ (by simpa using nb)).trans e
  · exact (Heap.get?_update_ne _ _ _ _ O.ne).trans O.ho
theorem wp_setfield {a C d : Addr} {fn : List Str} {fv : List Value} {name : Str} {i : Nat} {v v' : Value} {Q : Unit → Shared → Prop} (X : K.In s.heap) (Cl : Cls K C fn) (O : ObjAt s.heap a C d fn fv) (hx : At fn name i) (hsz : fn.length ≤ 900) (hv : er v' = v)
    (k : ∀ s', SX [d] s s' → ObjAt s'.heap a C d fn (fv.set i v) → Q () s') : wpAny (model prog w) A (setAttr (.ref a) name v') Q E s :=
  wp_setattr X Cl O hx.mem (fun es hsh t En => hv ▸ En.put Cl.nd hx) (by omega) k
theorem wp_addfield {a C d : Addr} {fn fn' : List Str} {fv : List Value} {name : Str} {v v' : Value} {Q : Unit → Shared → Prop} (X : K.In s.heap) (Cl : Cls K C fn') (O : ObjAt s.heap a C d fn fv) (hx : name ∈ fn') (hno : name ∉ fn) (hsz : fn.length ≤ 900) (hv : er v' = v)
    (k : ∀ s', SX [d] s s' → ObjAt s'.heap a C d (fn ++ [name]) (fv ++ [v]) → Q () s') : wpAny (model prog w) A (setAttr (.ref a) name v') Q E s :=
  wp_setattr X Cl O hx (fun es hsh t En => hv ▸ En.add hno) (by rw [List.length_append, List.length_singleton]; omega) k
end
end Mine
end
section
open PySem
set_option Elab.async false
namespace Mine

theorem bnot2 (x : Int) : Builtin.bitNot (Builtin.bitNot x) = x := by simp only [Builtin.bitNot]; omega
theorem band_nat (x y : Nat) : Builtin.bitAnd (x : Int) (y : Int) = ((x &&& y : Nat) : Int) := by
  unfold Builtin.bitAnd
  rw [decide_eq_true (Int.natCast_nonneg x), decide_eq_true (Int.natCast_nonneg y)]
  simp
theorem band_notn (x y : Nat) : Builtin.bitAnd (x : Int) (Builtin.bitNot (y : Int)) = ((x - (x &&& y) : Nat) : Int) := by
  unfold Builtin.bitAnd
  rw [decide_eq_true (Int.natCast_nonneg x), decide_eq_false (by simp only [Builtin.bitNot]; omega)]
  simp only [bnot2, Int.toNat_natCast]
  have := Nat.and_le_left (n := x) (m := y)
  omega
theorem bor_nat (x y : Nat) : Builtin.bitOr (x : Int) (y : Int) = ((x ||| y : Nat) : Int) := by
  unfold Builtin.bitOr Builtin.bitAnd
  rw [decide_eq_false (by simp only [Builtin.bitNot]; omega), decide_eq_false (by simp only [Builtin.bitNot]; omega)]
  simp only [bnot2, Int.toNat_natCast]
theorem band_mask (x q : Nat) : Builtin.bitAnd (x : Int) ((2 ^ q - 1 : Nat) : Int) = ((x % 2 ^ q : Nat) : Int) := by
  rw [band_nat, Nat.and_two_pow_sub_one_eq_mod]
theorem band_mask_neg (q : Nat) : Builtin.bitAnd (-1) ((2 ^ q - 1 : Nat) : Int) = ((2 ^ q - 1 : Nat) : Int) := by
  unfold Builtin.bitAnd
  rw [decide_eq_false (by decide), decide_eq_true (Int.natCast_nonneg _)]
  have : (Builtin.bitNot (-1)).toNat = 0 := by decide
  simp [this]

/-- one byte of a bit array: a bit set, a bit cleared -/
def setB (x k : Nat) : Nat := x ||| 2 ^ k
def clrB (x k : Nat) : Nat := x - (x &&& 2 ^ k)
theorem clrB_eq : ∀ x < 256, ∀ k < 8, clrB x k = x &&& (255 - 2 ^ k) := by decide +kernel
theorem mask_bit : ∀ k < 8, ∀ i < 8, (255 - 2 ^ k).testBit i = !(decide (k = i)) := by decide +kernel
theorem setB_bit (x k i : Nat) : (setB x k).testBit i = (x.testBit i || decide (k = i)) := by
  unfold setB; rw [Nat.testBit_or, Nat.testBit_two_pow]
theorem clrB_bit {x k i : Nat} (hx : x < 256) (hk : k < 8) (hi : i < 8) : (clrB x k).testBit i = (x.testBit i && !(decide (k = i))) := by
  rw [clrB_eq x hx k hk, Nat.testBit_and, mask_bit k hk i hi]
theorem setB_lt : ∀ x < 256, ∀ k < 8, setB x k < 256 := by decide +kernel
theorem clrB_lt {x k : Nat} (h : x < 256) : clrB x k < 256 := Nat.lt_of_le_of_lt (Nat.sub_le _ _) h
theorem and_pow (x k : Nat) : (((x &&& 2 ^ k : Nat) : Int) == 0) = !(x.testBit k) := by
  cases hb : x.testBit k with
  | true =>
    have : x &&& 2 ^ k ≠ 0 := fun e => by
      have h1 := Nat.testBit_and x (2 ^ k) k
      rw [e, hb, Nat.testBit_two_pow] at h1
      simp at h1
    simp only [Bool.not_true, beq_eq_false_iff_ne]; omega
  | false =>
    have : x &&& 2 ^ k = 0 := by
      apply Nat.eq_of_testBit_eq
      intro i
      rw [Nat.testBit_and, Nat.testBit_two_pow]
      by_cases e : k = i
      · subst e; simp [hb]
      · simp [e]
    rw [this]; rfl
theorem fdiv_nat (a b : Nat) : Int.fdiv (a : Int) (b : Int) = ((a / b : Nat) : Int) := by
  cases b with
  | zero => simp
  | succ b => rw [Int.fdiv_eq_ediv_of_nonneg _ (by omega)]; rfl
theorem fmod_nat (a b : Nat) : Int.fmod (a : Int) (b : Int) = ((a % b : Nat) : Int) := by
  rw [Int.fmod_eq_emod_of_nonneg _ (by omega)]; rfl
theorem shl_nat (a k : Nat) : (a : Int) * 2 ^ ((k : Int).toNat) = ((a * 2 ^ k : Nat) : Int) := by simp
theorem shr_nat (a k : Nat) : Int.fdiv (a : Int) (2 ^ ((k : Int).toNat)) = ((a / 2 ^ k : Nat) : Int) := by
  have : (2 : Int) ^ ((k : Int).toNat) = ((2 ^ k : Nat) : Int) := by simp
  rw [this, fdiv_nat]

/-- a bit array over bytes -/
structure Enc (bytes : List Nat) (N : Nat) (f : Nat → Bool) : Prop where
  len : bytes.length * 8 = N
  lt : ∀ x ∈ bytes, x < 256
  bit : ∀ i < N, (bytes.getD (i / 8) 0).testBit (i % 8) = f i
def fupd {β : Type} (f : Nat → β) (i : Nat) (v : β) : Nat → β := fun j => if j = i then v else f j
theorem Enc.get {bytes N f i} (E : Enc bytes N f) (hi : i < N) : ∃ x, bytes[i / 8]? = some x ∧ x < 256 ∧ x.testBit (i % 8) = f i := by
  have hl : i / 8 < bytes.length := by have := E.len; omega
  refine ⟨bytes[i / 8], List.getElem?_eq_getElem hl, E.lt _ (List.getElem_mem hl), ?_⟩
  have := E.bit i hi
  rwa [List.getD_eq_getElem?_getD, List.getElem?_eq_getElem hl, Option.getD_some] at this
theorem Enc.put {bytes N f i x y} {v : Bool} (E : Enc bytes N f) (hi : i < N) (hx : bytes[i / 8]? = some x) (hy : y < 256) (hb : ∀ j < 8, y.testBit j = if i % 8 = j then v else x.testBit j) : Enc (bytes.set (i / 8) y) N (fupd f i v) where
  len := by rw [List.length_set]; exact E.len
  lt := fun z hz => by rcases List.mem_or_eq_of_mem_set hz with q | q; exact E.lt z q; exact q ▸ hy
  bit := fun j hj => by
    have hl : i / 8 < bytes.length := by have := E.len; omega
    unfold fupd
    rw [List.getD_eq_getElem?_getD]
    by_cases e : j / 8 = i / 8
    · rw [e, List.getElem?_set_self hl, Option.getD_some, hb _ (by omega)]
      by_cases e2 : j = i
      · subst e2; simp
      · have : ¬ i % 8 = j % 8 := by omega
        simp only [this, if_false, e2]
        have h2 := E.bit j hj
        rw [List.getD_eq_getElem?_getD, e, hx, Option.getD_some] at h2
        exact h2
    · have e2 : j ≠ i := fun q => e (q ▸ rfl)
      rw [List.getElem?_set_ne (Ne.symm e)]
      simp only [e2, if_false]
      have h2 := E.bit j hj
      rwa [List.getD_eq_getElem?_getD] at h2
theorem Enc.setv {bytes N f i x} (E : Enc bytes N f) (hi : i < N) (hx : bytes[i / 8]? = some x) (h : x < 256) : Enc (bytes.set (i / 8) (setB x (i % 8))) N (fupd f i true) :=
  E.put hi hx (setB_lt x h _ (by omega)) fun j hj => by rw [setB_bit]; by_cases q : i % 8 = j <;> simp [q]
theorem Enc.clrv {bytes N f i x} (E : Enc bytes N f) (hi : i < N) (hx : bytes[i / 8]? = some x) (h : x < 256) : Enc (bytes.set (i / 8) (clrB x (i % 8))) N (fupd f i false) :=
  E.put hi hx (clrB_lt h) fun j hj => by rw [clrB_bit h (by omega) hj]; by_cases q : i % 8 = j <;> simp [q]
theorem Enc.zero (k : Nat) : Enc (List.replicate k 0) (8 * k) (fun _ => false) where
  len := by simp; omega
  lt := fun x hx => by rw [List.eq_of_mem_replicate hx]; decide
  bit := fun i hi => by
    rw [List.getD_eq_getElem?_getD]
    cases q : (List.replicate k 0)[i / 8]? with
    | none => simp
    | some x => have := List.mem_of_getElem? q; rw [List.eq_of_mem_replicate this]; simp
end Mine
end
section
set_option Elab.async false
namespace Mine
/-- what a quotient filter holds -/
structure QS where
  q : Nat
  occ : Nat → Bool
  con : Nat → Bool
  shi : Nat → Bool
  fil : Nat → Nat
  cnt : Nat
  auto : Bool
  hf : Nat
namespace QS
abbrev N (t : QS) : Nat := 2 ^ t.q
def emp (t : QS) (i : Nat) : Bool := !(t.occ i) && !(t.con i) && !(t.shi i)
def nx (t : QS) (j : Nat) : Nat := (j + 1) % t.N
def pv (t : QS) (j : Nat) : Nat := (j + t.N - 1) % t.N
def back (t : QS) (q : Nat) : Nat → Nat → Int → Option (Nat × Int)
  | 0, _, _ => none
  | f + 1, j, c =>
    let c' := if j = q ∨ t.occ j = true then c + 1 else c
    if t.shi j = true then t.back q f (t.pv j) c' else some (j, c')
def fwd (t : QS) : Nat → Nat → Int → Option Nat
  | 0, _, _ => none
  | f + 1, j, c => if t.con j = false then (if c = 1 then some j else t.fwd f (t.nx j) (c - 1)) else t.fwd f (t.nx j) c
def start (t : QS) (q : Nat) : Option Nat :=
  if t.emp q = true then some q else (t.back q (t.N + 1) q 0).bind fun x => t.fwd (2 * t.N) x.1 x.2
def scan (t : QS) (r : Nat) : Nat → Nat → Nat → Option Int
  | 0, _, _ => none
  | f + 1, j, s =>
    if t.emp j = true then some (-1) else
      let s' := if t.con j = true then s else s + 1
      if s' = 2 ∨ r < t.fil j then some (-1) else if t.fil j = r then some (j : Int) else t.scan r f (t.nx j) s'
def loc (t : QS) (q r : Nat) : Option Int :=
  if t.occ q = false then some (-1) else (t.start q).bind fun j => t.scan r (2 * t.N) j 0
def put (t : QS) (q r orig ins : Nat) : QS :=
  { t with fil := fupd t.fil ins r, occ := fupd t.occ q true, con := fupd t.con ins (decide (ins ≠ orig)), shi := fupd t.shi ins (decide (ins ≠ q)) }
def sstep (t : QS) (ins next : Nat) : QS :=
  { t with con := fupd (fupd t.con next (t.con ins)) ins (t.con next), shi := fupd t.shi next true, fil := fupd (fupd t.fil next (t.fil ins)) ins (t.fil next) }
def sloop (ins : Nat) : Nat → QS → Nat → Option QS
  | 0, _, _ => none
  | f + 1, t, next => if t.emp next = true then some (t.sstep ins next) else sloop ins f (t.sstep ins next) (t.nx next)
def sins (t : QS) (q r orig ins : Nat) (flag : Bool) : Option QS :=
  if t.emp ins = true then some (t.put q r orig ins) else
    (sloop ins (t.N + 1) t (t.nx ins)).map fun t' =>
      let t2 := t'.put q r orig ins
      if flag = true then { t2 with con := fupd t2.con (t2.nx ins) true } else t2
def seek (t : QS) (r : Nat) : Nat → Nat → Nat → Option (Nat × Nat)
  | 0, _, _ => none
  | f + 1, j, s => if s = 0 ∧ t.emp j = false ∧ t.fil j < r then t.seek r f (t.nx j) (if t.con (t.nx j) = true then s else s + 1) else some (j, s)
def add (t : QS) (q r : Nat) : Option QS :=
  if t.cnt = t.N then none else
    (if t.emp q = true then some { t with fil := fupd t.fil q r, occ := fupd t.occ q true } else
      (t.start q).bind fun s =>
        if t.occ q = false then t.sins q r s s false else
          (t.seek r (2 * t.N) s 0).bind fun x => t.sins q r s x.1 (decide (x.2 ≠ 1))).map fun t' => { t' with cnt := t'.cnt + 1 }
end QS
end Mine
end
section
open PySem PySem.W PyProof.Rows PySem.Calls
set_option Elab.async false
set_option maxRecDepth 100000
set_option linter.unusedVariables false
namespace Mine
section
variable {prog : Program} {w : World} {n : Nat} {h h₀ : Heap} {env : Env} {K : Frag} {nm : List Str} {vals : List (Option Value)}
variable {D : List Addr} {ρ R : Res} {s₀ s : Shared} {A : Around} {E : Value → Shared → Prop}

def LoopQ (K : Frag) (h₀ : Heap) (env : Env) (nm : List Str) (D : List Addr) (R : Res) (s₀ : Shared) (G : Res → List (Option Value) → Prop) (Q : Flow → Shared → Prop) (f : Flow) (s : Shared) : Prop := match f with
  | .next | .cont => ∃ ρ vals, G ρ vals ∧ Act K h₀ env nm vals D ρ R s₀ s
  | .brk => Q .next s
  | .ret v => Q (.ret v) s

theorem x_while {test body pos} {Q : Flow → Shared → Prop} (J : Nat → Res → List (Option Value) → Prop) {m : Nat} (H : Act K h₀ env nm vals D ρ R s₀ s) (rA : Rm n A) (h0 : J m ρ vals)
    (turn : ∀ m ρ vals s, J m ρ vals → Act K h₀ env nm vals D ρ R s₀ s → ∃ b, EvB prog w n s.heap (PySem.isTrue test env (eval test env)) b ∧
      (b = false → ∀ s', Act K h₀ env nm vals D ρ R s₀ s' → Q .next s') ∧
      (b = true → ∀ s', Act K h₀ env nm vals D ρ R s₀ s' → wpAny (model prog w) A (execs body env) (LoopQ K h₀ env nm D R s₀ (fun ρ vals => ∃ m', m' < m ∧ J m' ρ vals) Q) (fun _ _ => False) s')) :
    wpAny (model prog w) A (exec (.While test body [] pos) env) Q E s := by
  refine wpAny_While (codeAny_whileLoop (fun m s => ∃ ρ vals, J m ρ vals ∧ Act K h₀ env nm vals D ρ R s₀ s) ?_ m ⟨ρ, vals, h0, H⟩)
  rintro m s ⟨ρ, vals, hJ, H⟩
  obtain ⟨b, hb, h1, h2⟩ := turn m ρ vals s hJ H
  refine hb A _ _ s rA (Gr.refl _) fun c s' e x => ?_
  subst e
  cases c with
  | true =>
    simp only [if_true]
    refine wpAny_mono (h2 rfl s' (H.pure x)) (fun f s'' hq => ?_) fun _ _ q => q.elim
    cases f with
    | next => obtain ⟨ρ', vals', ⟨m', hm, hJ'⟩, H'⟩ := hq; exact ⟨m', hm, ρ', vals', hJ', H'⟩
    | cont => obtain ⟨ρ', vals', ⟨m', hm, hJ'⟩, H'⟩ := hq; exact ⟨m', hm, ρ', vals', hJ', H'⟩
    | brk => exact hq
    | ret v => exact hq
  | false =>
    simp only [Bool.false_eq_true, if_false]
    exact wpAny_execs_nil (h1 rfl s' (H.pure x))

/-- the for loop's core: an iterator that Walks -/
theorem for_core {x i body p it fp wr N P St} {Q : Flow → Shared → Prop} (J : Nat → Res → List (Option Value) → Prop) (W : Walks prog w A it fp wr N P St) (hst : St 0 s.heap) (hex : ∀ k h, St k h → ∀ b ∈ fp, ∃ o, h.get? b = some o)
    (hfp : ∀ b ∈ fp, ¬ ρ.fp b ∧ b ≠ env.locals) (hwr : ∀ b ∈ wr, ¬ R.fp b ∧ s₀.heap.get? b = none ∧ h₀.get? b = none)
    (H : Act K h₀ env nm vals D ρ R s₀ s) (rA : Rm n A) (hx : At nm x i) (h0 : J 0 ρ vals)
    (turn : ∀ k v ρ vals R' s, k < N → P k v → J k ρ vals → (∀ b, R.fp b → R'.fp b) → (∀ h, R'.I h → R.I h) → Act K h₀ env nm (vals.set i (some (er v))) D ρ R' s₀ s →
      wpAny (model prog w) A (execs body env) (LoopQ K h₀ env nm D R' s₀ (J (k + 1)) Q) (fun _ _ => False) s)
    (done : ∀ ρ vals s, J N ρ vals → Act K h₀ env nm vals D ρ R s₀ s → Q .next s) :
    codeAny (model prog w) A (.forLoop (.Name x p) (.ref it) body [] env) (fun r s' => match r with | .ok f => Q f s' | .error e => cameBackBy (model prog w) A env E e s') s := by
  let T : Nat → Res := fun k => ⟨fun b => b ∈ fp, St k, fun h h' kk x => W.frame k h h' x fun b hb o e => kk b o hb e, fun h x b hb => hex k h x b hb⟩
  refine codeAny_forLoop (fun m s => ∃ k ρ vals, m = N + 1 - k ∧ k ≤ N ∧ J k ρ vals ∧ Act K h₀ env nm vals D ρ (R.and (T k)) s₀ s) ?_ (N + 1) ⟨0, ρ, vals, rfl, Nat.zero_le _, h0, ?_⟩ (by intro v; rfl)
  · rintro m s ⟨k, ρ, vals, rfl, hk, hJ, H⟩
    have hρ : ∀ b ∈ fp, ¬ ρ.fp b := fun b hb q => H.dj b q (.inr hb)
    have hcx : ∀ s' : Shared, SX wr s s' → Cx K h₀ env nm vals s'.heap := fun s' x =>
      ⟨H.cx.F, H.cx.lo.at fun o e => x.hp _ o (fun m => (hfp _ (W.sub _ m)).2 rfl) e, H.cx.bs, fun b o e => x.hp b o (fun m => by rw [(hwr b m).2.2] at e; cases e) (H.cx.gb b o e), H.cx.ab⟩
    have hsx : ∀ s' : Shared, SX wr s s' → SX D s₀ s' := fun s' x => H.sx.step x fun b m => .inr (hwr b m).2.1
    by_cases hlt : k < N
    · refine W.item k s _ _ hlt H.rest.2 fun v h' tk hP st' kk => ?_
      have x : SX wr s { s with heap := h', toks := tk } := SX.heap fun b o nb e => kk b o nb e
      have H1 : Act K h₀ env nm vals D ρ (R.and (T (k + 1))) s₀ { s with heap := h', toks := tk } :=
        ⟨hcx _ x, hsx _ x, H.fr, Res.I_off H.own x fun b m => hρ b (W.sub b m), ⟨Res.I_off H.rest.1 x fun b m => (hwr b m).1, st'⟩, H.dj, H.lo, H.lr⟩
      refine wpAny_assign_Name (x_store H1 hx rfl fun s2 H2 x2 => ?_)
      refine wpAny_mono (turn k v ρ vals (R.and (T (k + 1))) s2 hlt hP hJ (fun b q => Or.inl q) (fun h q => q.1) H2) (fun f s3 hq => ?_) fun _ _ q => q.elim
      cases f with
      | next => obtain ⟨ρ', vals', hJ', H'⟩ := hq; exact ⟨N + 1 - (k + 1), by omega, k + 1, ρ', vals', rfl, hlt, hJ', H'⟩
      | cont => obtain ⟨ρ', vals', hJ', H'⟩ := hq; exact ⟨N + 1 - (k + 1), by omega, k + 1, ρ', vals', rfl, hlt, hJ', H'⟩
      | brk => exact hq
      | ret v => exact hq
    · have hkn : k = N := by omega
      subst hkn
      refine W.done s _ _ H.rest.2 fun h' tk kk => ?_
      have x : SX wr s { s with heap := h', toks := tk } := SX.heap fun b o nb e => kk b o nb e
      refine wpAny_execs_nil (done ρ vals _ hJ ?_)
      exact ⟨hcx _ x, hsx _ x, H.fr, Res.I_off H.own x fun b m => hρ b (W.sub b m), Res.I_off H.rest.1 x fun b m => (hwr b m).1, fun b q1 q2 => H.dj b q1 (.inl q2), H.lo, fun q => H.lr (.inl q)⟩
  · exact ⟨H.cx, H.sx, H.fr, H.own, ⟨H.rest, hst⟩, fun b q1 q2 => q2.elim (H.dj b q1) fun q => (hfp b q).1 q1, H.lo, fun q => q.elim H.lr fun q => (hfp _ q).2 rfl⟩

theorem fits_long {x : Int} (h0 : -(2 ^ 63) ≤ x) (h1 : x < 2 ^ 63) : Builtin.Range.rangeFitsLong x = true := by
  unfold Builtin.Range.rangeFitsLong; simp only [Bool.and_eq_true, decide_eq_true_eq]; exact ⟨h0, h1⟩
theorem small1 {a b : Int} (h0 : -(2 ^ 60) ≤ a) (h1 : a ≤ 2 ^ 60) (h2 : -(2 ^ 60) ≤ b) (h3 : b ≤ 2 ^ 60) : Builtin.Range.small a b 1 = true := by
  have e : Builtin.Range.rangeSize a b 1 = if a < b then b - a else 0 := by
    unfold Builtin.Range.rangeSize
    simp only [show (1 : Int) > 0 by decide, if_true, Int.ediv_one]
    split <;> omega
  unfold Builtin.Range.small
  rw [e, fits_long (by omega) (by omega), fits_long (by omega) (by omega), fits_long (x := 1) (by decide) (by decide), fits_long (x := if a < b then b - a else 0) (by split <;> omega) (by split <;> omega), if_pos (show (1 : Int) > 0 by decide), fits_long (x := b + (1 - 1)) (by omega) (by omega)]
  simp
theorem size1 {a b : Int} (k : Nat) (h : b = a + k) : Builtin.Range.rangeSize a b 1 = k := by
  unfold Builtin.Range.rangeSize
  simp only [show (1 : Int) > 0 by decide, if_true, Int.ediv_one]
  split <;> omega
theorem size_none (h : Heap) : h.get? h.objs.size = none := by
  cases q : h.get? h.objs.size with
  | none => rfl
  | some o => exact absurd (Heap.lt_size q) (Nat.lt_irrefl _)
theorem SX.none {D s s'} (x : SX D s s') {b} (e : s'.heap.get? b = none) (nb : b ∉ D) : s.heap.get? b = none := by
  cases q : s.heap.get? b with
  | none => rfl
  | some o => exact absurd (x.hp b o nb q) (by rw [e]; nofun)
theorem Gr.none {h h' : Heap} (g : Gr h h') {b} (e : h'.get? b = Option.none) : h.get? b = Option.none := by
  cases q : h.get? b with
  | none => rfl
  | some o => exact absurd (g b o q) (by rw [e]; nofun)
/-- a place that is new now is none of the def's things -/
theorem Act.new (H : Act K h₀ env nm vals D ρ R s₀ s) {b} (e : s.heap.get? b = none) (hD : b ∉ D) : ¬ ρ.fp b ∧ ¬ R.fp b ∧ b ≠ env.locals ∧ s₀.heap.get? b = none ∧ h₀.get? b = none :=
  have no : ∀ {o : Obj}, s.heap.get? b = some o → False := fun z => by rw [e] at z; cases z
  ⟨fun q => (ρ.ex _ H.own b q).elim fun o z => no z, fun q => (R.ex _ H.rest b q).elim fun o z => no z,
   fun q => H.there.elim fun o z => no (o := o) (by rw [q]; exact z), H.sx.none e hD, Gr.none H.cx.gb e⟩
/-- for x in range(..): the range is told by its two ends -/
theorem x_range {x i iter body pos p} {a b : Int} {N : Nat} {Q : Flow → Shared → Prop} (J : Nat → Res → List (Option Value) → Prop) (H : Act K h₀ env nm vals D ρ R s₀ s) (rA : Rm n A) (hx : At nm x i)
    (hD : ∀ b ∈ D, ∃ o, s.heap.get? b = some o)
    (hit : EvaP prog w n s.heap (eval iter env) fun v h' => ∃ rg t u v', v = .ref rg ∧ IsRange h' rg a b 1 t u v') (hab : b = a + N) (ha0 : -(2 ^ 60) ≤ a) (ha : a ≤ 2 ^ 60) (hb : b ≤ 2 ^ 60)
    (h0 : J 0 ρ vals)
    (turn : ∀ k ρ' vals R' s, k < N → J k ρ' vals → (∀ b, R.fp b → R'.fp b) → (∀ h, R'.I h → R.I h) → Act K h₀ env nm (vals.set i (some (vi (a + k)))) D ρ' R' s₀ s →
      wpAny (model prog w) A (execs body env) (LoopQ K h₀ env nm D R' s₀ (J (k + 1)) Q) (fun _ _ => False) s)
    (done : ∀ ρ vals s, J N ρ vals → Act K h₀ env nm vals D ρ R s₀ s → Q .next s) (hf : ∀ x, foldedSetIterable iter env x = Pure.pure x := by intros; rfl) :
    wpAny (model prog w) A (exec (.For (.Name x p) iter body [] pos) env) Q E s := by
  refine wpAny_For (hit A _ E s rA (Gr.refl _) fun v s1 hP x1 => ?_) hf
  obtain ⟨rg, t, u, v', hv, hr⟩ := hP
  subst hv
  refine wpAny_pyIter_range hr (small1 ha0 ha (by omega) hb) ?_
  rw [size1 N hab]
  have H1 := H.pure x1
  have e := size_none s1.heap
  have nD : s1.heap.objs.size ∉ D := fun m => by obtain ⟨o, q⟩ := hD _ m; rw [x1.gr _ _ q] at e; cases e
  obtain ⟨n1, n2, n3, n4, n5⟩ := H1.new e nD
  have x2 : SX [] s1 { s1 with heap := s1.heap.push { cls := Value.type "range_iterator", data := Data.fields #[rawInt a, rawInt N, rawInt 1] } } := SX.heap fun b o _ q => Heap.get?_push_of_some _ q
  refine for_core (P := fun k v => ∃ t, v = .int (a + k * 1) t) (St := fun k h => IsRangeIter h s1.heap.objs.size (a + k * 1) (N - k) 1) J (Walks.range (prog := prog) (w := w) rA.hd s1.heap.objs.size a 1 N) ?_ ?_ ?_ ?_ (H1.pure x2) rA hx h0 ?_ done
  · have := Heap.get?_push_size s1.heap (o := { cls := Value.type "range_iterator", data := Data.fields #[rawInt a, rawInt N, rawInt 1] }) rfl
    simpa [IsRangeIter] using this
  · intro k h st b hb
    rw [List.mem_singleton.mp hb]; exact ⟨_, st⟩
  · intro b hb; rw [List.mem_singleton.mp hb]; exact ⟨n1, n3⟩
  · intro b hb; rw [List.mem_singleton.mp hb]; exact ⟨n2, n4, n5⟩
  · rintro k v ρ vals R' s hk ⟨t, rfl⟩ hJ h1 h2 H3
    rw [Int.mul_one] at H3
    exact turn k ρ vals R' s hk hJ h1 h2 H3
/-- for x in a list of the def's own (owned by the rest, or new) -/
theorem x_list {x i iter body pos p} {a : Addr} {xs : List Value} {Q : Flow → Shared → Prop} (J : Nat → Res → List (Option Value) → Prop) (H : Act K h₀ env nm vals D ρ R s₀ s) (rA : Rm n A) (hx : At nm x i)
    (hD : ∀ b ∈ D, ∃ o, s.heap.get? b = some o)
    (hit : Eva prog w n s.heap (eval iter env) (.ref a)) (L : Ls s.heap a xs) (hna : ¬ ρ.fp a) (hnl : a ≠ env.locals)
    (h0 : J 0 ρ vals)
    (turn : ∀ k v ρ' vals R' s, k < xs.length → xs[k]? = some v → J k ρ' vals → (∀ b, R.fp b → R'.fp b) → (∀ h, R'.I h → R.I h) → Act K h₀ env nm (vals.set i (some v)) D ρ' R' s₀ s →
      wpAny (model prog w) A (execs body env) (LoopQ K h₀ env nm D R' s₀ (J (k + 1)) Q) (fun _ _ => False) s)
    (done : ∀ ρ vals s, J xs.length ρ vals → Act K h₀ env nm vals D ρ R s₀ s → Q .next s) (hf : ∀ x, foldedSetIterable iter env x = Pure.pure x := by intros; rfl) :
    wpAny (model prog w) A (exec (.For (.Name x p) iter body [] pos) env) Q E s := by
  refine wpAny_For (hit A _ E s rA (Gr.refl _) fun v s1 hv x1 => ?_) hf
  obtain rfl := er_ref hv
  obtain ⟨its, L1, L2⟩ := L.gr x1.gr
  refine wpAny_pyIter_list L1 ?_
  have H1 := H.pure x1
  have e := size_none s1.heap
  have nD : s1.heap.objs.size ∉ D := fun m => by obtain ⟨o, q⟩ := hD _ m; rw [x1.gr _ _ q] at e; cases e
  obtain ⟨n1, n2, n3, n4, n5⟩ := H1.new e nD
  have x2 : SX [] s1 { s1 with heap := s1.heap.push { cls := Value.type "list_iterator", data := Data.fields #[Value.ref a, Value.int 0 0] } } := SX.heap fun b o _ q => Heap.get?_push_of_some _ q
  have hai : a ≠ s1.heap.objs.size := fun q => by obtain ⟨o, z, _⟩ := L1; rw [q, e] at z; cases z
  have hl : its.size = xs.length := by rw [← L2]; simp
  have W := Walks.list (prog := prog) (w := w) rA.hd s1.heap.objs.size a hai its
  rw [hl] at W
  refine for_core (P := fun i v => its[i]? = some v) (St := fun i h => h.IsListIter s1.heap.objs.size a i ∧ h.IsList a its) J W ⟨⟨_, Heap.get?_push_size _ rfl, rfl, rfl⟩, L1.push _⟩ ?_ ?_ ?_ (H1.pure x2) rA hx h0 ?_ done
  · rintro k h ⟨⟨o, e1, _⟩, ⟨o', e2, _⟩⟩ b hb
    simp only [List.mem_cons, List.not_mem_nil, or_false] at hb
    rcases hb with q | q <;> subst q
    · exact ⟨_, e1⟩
    · exact ⟨_, e2⟩
  · intro b hb
    simp only [List.mem_cons, List.not_mem_nil, or_false] at hb
    rcases hb with q | q <;> subst q
    · exact ⟨n1, n3⟩
    · exact ⟨hna, hnl⟩
  · intro b hb; rw [List.mem_singleton.mp hb]; exact ⟨n2, n4, n5⟩
  · rintro k v ρ vals R' s hk hv hJ h1 h2 H3
    refine turn k (er v) ρ vals R' s hk ?_ hJ h1 h2 H3
    rw [← L2, List.getElem?_map, Array.getElem?_toList, hv]; rfl
/-- range(b), range(a, b) -/
theorem ev_range1 {np cp e b} (C : Cx K h₀ env nm vals h) (e0 : nsIn K mainGlobals "range" = some Option.none) (hx : env.kindOf "range" = some .globalImplicit) (h1 : Eva prog w n h (eval e env) (vi b))
    (hst : starEach [e] env = (false, eval e env) :: starEach [] env := by rfl)
    (he : eval (.Call (.Name "range" np) [e] [] cp) env = (do callWith cp (← eval (.Name "range" np) env) [] (backTo cp (starEach [e] env)) (backToKw cp (keywordEach [] env))) := by rfl) :
    EvaP prog w n h (eval (.Call (.Name "range" np) [e] [] cp) env) fun v h' => ∃ rg t u v', v = .ref rg ∧ IsRange h' rg 0 b 1 t u v' := by
  intro A Q E s r g q
  refine Call_ (ev_built (v := .type "range") (prog := prog) (w := w) (n := n) C e0 (by decide +kernel) hx (by decide) (by decide) A _ E s r g fun f s1 ef x1 => ?_) he
  subst ef
  refine Pv.callWith_type1 (args_cons (h1 A _ E s1 r (g.trans x1.gr) fun v s2 ev x2 => args_nil ?_) hst) hst (by rfl)
  obtain ⟨t, rfl⟩ := er_vi ev
  obtain ⟨m, Fm⟩ := (C.gr ((g.trans x1.gr).trans x2.gr)).fr
  exact range1_rows Fm News.nil fun h' tk t1 u1 v1 hr _ _ kk => q _ _ ⟨_, _, _, _, rfl, hr⟩ (x1.trans (x2.trans (SX.heap fun b o _ z => kk b o z)))
theorem ev_range2 {np cp e1 e2 a b} (C : Cx K h₀ env nm vals h) (e0 : nsIn K mainGlobals "range" = some Option.none) (hx : env.kindOf "range" = some .globalImplicit) (h1 : Eva prog w n h (eval e1 env) (vi a)) (h2 : Eva prog w n h (eval e2 env) (vi b))
    (hst : starEach [e1, e2] env = (false, eval e1 env) :: starEach [e2] env := by rfl) (hst2 : starEach [e2] env = (false, eval e2 env) :: starEach [] env := by rfl)
    (he : eval (.Call (.Name "range" np) [e1, e2] [] cp) env = (do callWith cp (← eval (.Name "range" np) env) [] (backTo cp (starEach [e1, e2] env)) (backToKw cp (keywordEach [] env))) := by rfl) (hpl : (backTo cp (starEach [e2] env)).any (·.1) = false := by rfl) :
    EvaP prog w n h (eval (.Call (.Name "range" np) [e1, e2] [] cp) env) fun v h' => ∃ rg t u v', v = .ref rg ∧ IsRange h' rg a b 1 t u v' := by
  intro A Q E s r g q
  refine Call_ (ev_built (v := .type "range") (prog := prog) (w := w) (n := n) C e0 (by decide +kernel) hx (by decide) (by decide) A _ E s r g fun f s1 ef x1 => ?_) he
  subst ef
  refine Pv.callWith_type1 (args_cons (h1 A _ E s1 r (g.trans x1.gr) fun v s2 ev x2 => args_cons (h2 A _ E s2 r ((g.trans x1.gr).trans x2.gr) fun v' s3 ev' x3 => args_nil ?_) hst2) hst) hst hpl
  obtain ⟨t, rfl⟩ := er_vi ev
  obtain ⟨t', rfl⟩ := er_vi ev'
  obtain ⟨m, Fm⟩ := (C.gr (((g.trans x1.gr).trans x2.gr).trans x3.gr)).fr
  exact range2_rows Fm News.nil fun h' tk t1 u1 v1 hr _ _ kk => q _ _ ⟨_, _, _, _, rfl, hr⟩ (x1.trans (x2.trans (x3.trans (SX.heap fun b o _ z => kk b o z))))
end
end Mine
end
section
open PySem PySem.W PyProof.Rows PySem.Calls
set_option Elab.async false
set_option maxRecDepth 100000
set_option maxHeartbeats 4000000
set_option linter.unusedVariables false
set_option pp.deepTerms false
set_option pp.maxSteps 600
namespace Mine
noncomputable abbrev KK (w : World) : Frag := hd.heap_39 w.params
abbrev BA : Addr := 183
abbrev bitNm : List Str := ["_size_bytes", "_bitarray", "_size"]
theorem cls_bit (w : World) : Cls (KK w) BA bitNm := by
  refine ⟨?_, ?_, ?_, ?_, ?_, ?_, ?_⟩
  · exact (by kernel_rfl)
  · exact (by kernel_rfl)
  · exact (by kernel_rfl)
  · intro x hx
    have : (bitNm.all fun x => findIn (KK w) (.ref BA) x == some none) = true := by kernel_rfl
    exact beq_iff_eq.mp (List.all_eq_true.mp this x hx)
  · exact (by kernel_rfl)
  · exact (by kernel_rfl)
  · decide +kernel
theorem mth_check_bit (w : World) : Mth (KK w) BA bitNm "check_bit" 138 := .of (by kernel_rfl) (by kernel_rfl) (by kernel_rfl) (by decide +kernel)

/-- a Bitarray of N places -/
structure BitAt (h : Heap) (b d l : Addr) (N : Nat) (f : Nat → Bool) : Prop where
  ex : ∃ bytes : List Nat, ObjAt h b BA d bitNm [vi ((N / 8 : Nat) : Int), .ref l, vi (N : Int)] ∧ Ls h l (bytes.map fun (x : Nat) => vi (x : Int)) ∧ Enc bytes N f
theorem BitAt.at {h h' b d l N f} (x : BitAt h b d l N f) (k : ∀ a ∈ [b, d, l], ∀ o, h.get? a = some o → h'.get? a = some o) : BitAt h' b d l N f :=
  let ⟨by', h1, h2, h3⟩ := x.ex; ⟨by', h1.at (k _ (by simp)) (k _ (by simp)), h2.at (k _ (by simp)), h3⟩
theorem BitAt.gr {h h' b d l N f} (x : BitAt h b d l N f) (g : Gr h h') : BitAt h' b d l N f := x.at fun a _ => g a

def Res.bit (b d l : Addr) (N : Nat) (f : Nat → Bool) : Res := ⟨fun x => x ∈ [b, d, l], fun h => BitAt h b d l N f, fun h1 h2 k y => y.at fun a ha o e => k a o ha e, fun h x a ha => by
  obtain ⟨bytes, O, Lb, _⟩ := x.ex
  obtain ⟨es, kk, e1, _⟩ := O.hd
  obtain ⟨o, e2⟩ := Lb.there
  simp only [List.mem_cons, List.not_mem_nil, or_false] at ha
  rcases ha with q | q | q <;> subst q
  · exact ⟨_, O.ho⟩
  · exact ⟨_, e1⟩
  · exact ⟨_, e2⟩⟩
local macro_rules | `(tactic| tm_at "at") => `(tactic| with_reducible (repeat (first | exact At.head | apply At.tail)))
local macro_rules | `(tactic| tm_at "ok") => `(tactic| first | trivial | assumption | (simp only [okI]; omega) | (simp only [okI]; mul_fits))
local macro_rules | `(tactic| tm_at "bop") => `(tactic| exact fun _ _ => bo_any (by tm_at "ok"))
local macro_rules | `(tactic| tm_at "cm") => `(tactic| exact fun _ _ => co_any rfl)
local macro_rules | `(tactic| tm_at "obj") => `(tactic| assumption)
local macro_rules | `(tactic| tm_at "cls") => `(tactic| exact cls_bit _)
local macro_rules | `(tactic| tm_at "ev") => `(tactic| first
  | with_reducible exact ev_int | with_reducible exact ev_true | with_reducible exact ev_none | with_reducible exact ev_str
  | ((with_reducible refine' ev_loc ?h1 ?h2 ?h3); (case h1 => assumption); (case h2 => tm_at "at"); (case h3 => rfl))
  | ((with_reducible refine' ev_attr (Cx.inK ?h1) ?h2 ?h3 ?h4 ?h5 ?h6 ?h7 ?h8); (case h1 => assumption); (case h4 => tm_at "ev"); (case h3 => tm_at "obj"); (case h2 => tm_at "cls"); (case h5 => tm_at "at"); (case h6 => rfl); (case h7 => rfl); (case h8 => rfl))
  | ((with_reducible refine' ev_bin ?h1 ?h2 ?h3); (case h1 => tm_at "ev"); (case h2 => tm_at "ev"); (case h3 => tm_at "bop"))
  | ((with_reducible refine' ev_un ?h1 ?h2); (case h1 => tm_at "ev"); (case h2 => exact fun _ => uo_any rfl)))
local macro_rules | `(tactic| tm_at "eb") => `(tactic| first
  | ((with_reducible refine' eb_cmp ?h1 ?h2 ?h3 ?h4); (case h1 => tm_at "ev"); (case h2 => tm_at "ev"); (case h3 => tm_at "cm"); (case h4 => rfl))
  | ((with_reducible refine' eb_bool ?h1); (case h1 => tm_at "eb"))
  | ((with_reducible refine' eb_or ?h1 ?h2); (case h1 => tm_at "eb"); (case h2 => tm_at "eb"))
  | ((with_reducible refine' eb_and ?h1 ?h2); (case h1 => tm_at "eb"); (case h2 => tm_at "eb"))
  | with_reducible exact eb_or_nil | with_reducible exact eb_and_nil
  | ((with_reducible refine' eb_not ?h1); (case h1 => tm_at "eb")))
section
variable {prog : Program} {w : World} {n : Nat} {h h₀ : Heap}
theorem check_bit (B : Bas (KK w) h₀) {args : List Value} {b d l : Addr} {N i : Nat} {f : Nat → Bool} (gb : Gr h₀ h) (X : BitAt h b d l N f) (hi : i < N) (hN : N < 1000) (ha : args.map er = [.ref b, vi (i : Int)]) :
    FunP prog w (n + 1) h 138 args (fun v _ => er v = vi (if f i then 1 else 0)) := by
  obtain ⟨a1, a2, rfl, h1, h2⟩ := m2 ha
  obtain ⟨bytes, O, Lb, En⟩ := X.ex
  obtain ⟨x, hx, hx2, hx3⟩ := En.get hi
  refine fun_enter (k := 0) (nm := ["self", "idx"]) (args2 := [a1, a2]) (avs2 := [.ref b, vi (i : Int)]) B gb (by rfl) rfl (by kernel_rfl) (fun _ _ => .of_eq rfl) (by simp [h1, h2]) (by decide +kernel) (by decide +kernel) (by decide +kernel) ?_
  intro env s0 s g hs H A Q r q1 q2
  have C := H.cx
  have O1 := O.gr H.own
  have L1 := Lb.gr H.own
  clear hs
  refine y_if (c := false) H r (EvB.cast (by tm_at "eb") ?_) (fun q => absurd q (by decide)) fun _ s1 H1 _ => ?_
  · simp only [cmpI, Bool.or_false, Bool.or_eq_false_iff, decide_eq_false_iff_not]; omega
  refine wpAny_execs_nil ?_
  show wpAny _ _ (execs _ _) _ _ _
  have C1 := H1.cx
  have O2 := O.gr H1.own
  have L2 := Lb.gr H1.own
  refine y_ret H1 r (P := fun v _ => er v = vi (if f i then 1 else 0)) ?_ fun v s2 p H2 x2 => q1 v s2 p H2.sx
  refine (ev_if (c := !(f i)) (u := vi 0) (v := vi 1) (EvB.cast (eb_cmp (x := vi ((x &&& 2 ^ (i % 8) : Nat) : Int)) (y := vi 0) ?_ (by tm_at "ev") (by tm_at "cm")) ?_) (by tm_at "ev") (by tm_at "ev")).cast (by cases f i <;> rfl)
  · refine Eva.cast (ev_bin (a := vi (x : Int)) (b := vi (1 * 2 ^ ((Int.fmod (i : Int) 8)).toNat)) (ev_item (a := l) (k := arI .FloorDiv i 8) (by tm_at "ev") L2 (by tm_at "ev") ?_ ?_ ?_)
      (ev_bin (by tm_at "ev") (by tm_at "ev") fun _ _ => bo_shl ?_ ?_ (by decide)) (by tm_at "bop")) ?_
    · rw [show arI .FloorDiv (i : Int) 8 = _ from fdiv_nat i 8]; omega
    · rw [show arI .FloorDiv (i : Int) 8 = _ from fdiv_nat i 8]; omega
    · rw [show arI .FloorDiv (i : Int) 8 = _ from fdiv_nat i 8, Int.toNat_natCast, List.getElem?_map, hx]; rfl
    · rw [show (8 : Int) = ((8 : Nat) : Int) from rfl, fmod_nat]; omega
    · rw [show (8 : Int) = ((8 : Nat) : Int) from rfl, fmod_nat]; omega
    · rw [show (8 : Int) = ((8 : Nat) : Int) from rfl, fmod_nat, show (1 : Int) = ((1 : Nat) : Int) from rfl, shl_nat, Nat.one_mul]; exact congrArg vi (band_nat _ _)
  · show ((_ : Int) == 0) = _; rw [and_pow, hx3]

theorem sub_bit (w : World) : Sub (KK w) BA 124 := ⟨by kernel_rfl, by kernel_rfl, by kernel_rfl⟩
theorem sto_bit (w : World) : Sto (KK w) BA 131 := ⟨by kernel_rfl, by kernel_rfl, by kernel_rfl⟩
theorem bit_getitem (B : Bas (KK w) h₀) {args : List Value} {b d l : Addr} {N i : Nat} {f : Nat → Bool} (gb : Gr h₀ h) (X : BitAt h b d l N f) (hi : i < N) (hN : N < 1000) (ha : args.map er = [.ref b, vi (i : Int)]) :
    FunP prog w (n + 1 + 1) h 124 args (fun v _ => er v = vi (if f i then 1 else 0)) := by
  obtain ⟨a1, a2, rfl, h1, h2⟩ := m2 ha
  obtain ⟨bytes, O, Lb, En⟩ := X.ex
  refine fun_enter (k := 0) (nm := ["self", "key"]) (args2 := [a1, a2]) (avs2 := [.ref b, vi (i : Int)]) B gb (by rfl) rfl (by kernel_rfl) (fun _ _ => .of_eq rfl) (by simp [h1, h2]) (by decide +kernel) (by decide +kernel) (by decide +kernel) ?_
  intro env s0 s g hs H A Q r q1 q2
  clear hs
  have C := H.cx
  have O1 := O.gr H.own
  refine y_ret H r (P := fun v _ => er v = vi (if f i then 1 else 0)) ?_ fun v s2 p H2 x2 => q1 v s2 p H2.sx
  refine ev_mcall C.inK (cls_bit w) O1 (mth_check_bit w) (by tm_at "ev") (el_cons (by tm_at "ev") el_nil) fun vs' hv => ?_
  obtain ⟨u, rfl, hu⟩ := m1 hv
  exact check_bit B C.gb (X.gr H.own) hi hN (by rw [List.map_cons, List.map_cons, hu]; rfl)

theorem bit_setitem (B : Bas (KK w) h₀) {s : Shared} {args : List Value} {b d l : Addr} {N i : Nat} {f : Nat → Bool} {v : Bool} (gb : Gr h₀ s.heap) (X : BitAt s.heap b d l N f) (hlB : h₀.get? l = none) (hi : i < N) (hN : N < 1000)
    (ha : args.map er = [.ref b, vi (i : Int), vi (if v then 1 else 0)]) :
    MutP prog w (n + 1) 131 args s [l] (fun _ s' => BitAt s'.heap b d l N (fupd f i v)) := by
  obtain ⟨a1, a2, a3, rfl, h1, h2, h3⟩ := m3 ha
  refine mut_enter (k := 1) (nm := ["self", "idx", "val", "b"]) (args2 := [a1, a2, a3]) (avs2 := [.ref b, vi (i : Int), vi (if v then 1 else 0)]) (ρ := .bit b d l N f) B gb X (by rfl) rfl (by kernel_rfl) (.of_eq rfl) (by simp [h1, h2, h3]) (by decide +kernel) (by decide +kernel) (by decide +kernel) ?_
  intro env s1 hs H A Q r q1 q2
  clear hs
  have C := H.cx
  obtain ⟨bytes, O, Lb, En⟩ := H.own.ex
  refine y_if (c := false) H r (EvB.cast (by tm_at "eb") ?_) (fun q => absurd q (by decide)) fun _ s2 H2 _ => ?_
  · cases v <;> rfl
  refine wpAny_execs_nil ?_
  show wpAny _ _ (execs _ _) _ _ _
  have C := H2.cx
  obtain ⟨bytes, O, Lb, En⟩ := H2.own.ex
  refine y_if (c := false) H2 r (EvB.cast (by tm_at "eb") ?_) (fun q => absurd q (by decide)) fun _ s3 H3 _ => ?_
  · simp only [cmpI, Bool.or_false, Bool.or_eq_false_iff, decide_eq_false_iff_not]; omega
  refine wpAny_execs_nil ?_
  show wpAny _ _ (execs _ _) _ _ _
  have C := H3.cx
  refine y_assign (v := vi ((i / 8 : Nat) : Int)) H3 r (Eva.cast (by tm_at "ev") (congrArg vi (fdiv_nat i 8))) (by tm_at "at") fun s4 H4 _ => ?_
  have C := H4.cx
  obtain ⟨bytes, O, Lb, En⟩ := H4.own.ex
  obtain ⟨x, hx, hx2, hx3⟩ := En.get hi
  have hlen : i / 8 < bytes.length := (List.getElem?_eq_some_iff.mp hx).1
  have hit : (bytes.map fun (x : Nat) => vi (x : Int))[((i / 8 : Nat) : Int).toNat]? = some (vi (x : Int)) := by
    rw [Int.toNat_natCast, List.getElem?_map, hx]; rfl
  refine y_if (c := v) H4 r (EvB.cast (by tm_at "eb") (by cases v <;> rfl)) (fun hv s5 H5 _ => ?_) fun hv s5 H5 _ => ?_
  · have C := H5.cx
    obtain ⟨bytes', O, Lb, En'⟩ := H5.own.ex
    obtain ⟨x, hx, hx2, hx3⟩ := En'.get hi
    have hlen : i / 8 < bytes'.length := (List.getElem?_eq_some_iff.mp hx).1
    have hit : (bytes'.map fun (x : Nat) => vi (x : Int))[((i / 8 : Nat) : Int).toNat]? = some (vi (x : Int)) := by
      rw [Int.toNat_natCast, List.getElem?_map, hx]; rfl
    refine wpAny_execs_cons (x_setlist (v := vi ((setB x (i % 8) : Nat) : Int)) (a := l) (kk := ((i / 8 : Nat) : Int)) H5 r ?_ (by tm_at "ev") (by tm_at "ev") Lb (by omega) (by omega) (by simpa using by omega) fun s6 x6 L6 => ?_)
    · refine Eva.cast (ev_bin (a := vi (x : Int)) (ev_item (by tm_at "ev") Lb (by tm_at "ev") (by omega) (by omega) hit) (ev_bin (by tm_at "ev") (by tm_at "ev") (fun _ _ => bo_any ?_)) (by tm_at "bop")) (congrArg vi ?_)
      · refine ⟨?_, ?_, by decide⟩ <;> rw [show arI .Mod (i : Int) 8 = _ from fmod_nat i 8] <;> omega
      · rw [show arI .Mod (i : Int) 8 = _ from fmod_nat i 8, show arI .LShift 1 ((i % 8 : Nat) : Int) = _ from shl_nat 1 (i % 8), Nat.one_mul]; exact bor_nat _ _
    · have hv' : v = true := hv
      subst hv'
      refine wpAny_execs_nil (wpAny_execs_nil (q2 _ ⟨_, O.off Lb x6, ?_, En'.setv hi hx hx2⟩ (H5.sx.trans x6)))
      rw [List.map_set]; exact L6
  · have C := H5.cx
    obtain ⟨bytes', O, Lb, En'⟩ := H5.own.ex
    obtain ⟨x, hx, hx2, hx3⟩ := En'.get hi
    have hlen : i / 8 < bytes'.length := (List.getElem?_eq_some_iff.mp hx).1
    have hit : (bytes'.map fun (x : Nat) => vi (x : Int))[((i / 8 : Nat) : Int).toNat]? = some (vi (x : Int)) := by
      rw [Int.toNat_natCast, List.getElem?_map, hx]; rfl
    refine wpAny_execs_cons (x_setlist (v := vi ((clrB x (i % 8) : Nat) : Int)) (a := l) (kk := ((i / 8 : Nat) : Int)) H5 r ?_ (by tm_at "ev") (by tm_at "ev") Lb (by omega) (by omega) (by simpa using by omega) fun s6 x6 L6 => ?_)
    · refine Eva.cast (ev_bin (a := vi (x : Int)) (ev_item (by tm_at "ev") Lb (by tm_at "ev") (by omega) (by omega) hit) (ev_un (ev_bin (by tm_at "ev") (by tm_at "ev") (fun _ _ => bo_any ?_)) (fun _ => uo_any rfl)) (by tm_at "bop")) (congrArg vi ?_)
      · refine ⟨?_, ?_, by decide⟩ <;> rw [show arI .Mod (i : Int) 8 = _ from fmod_nat i 8] <;> omega
      · rw [show arI .Mod (i : Int) 8 = _ from fmod_nat i 8, show arI .LShift 1 ((i % 8 : Nat) : Int) = _ from shl_nat 1 (i % 8), Nat.one_mul]; exact band_notn _ _
    · have hv' : v = false := hv
      subst hv'
      refine wpAny_execs_nil (wpAny_execs_nil (q2 _ ⟨_, O.off Lb x6, ?_, En'.clrv hi hx hx2⟩ (H5.sx.trans x6)))
      rw [List.map_set]; exact L6

theorem ev_bit {env : Env} {nm : List Str} {vals : List (Option Value)} {le ie : Expr} {pos : Pos} {b d l : Addr} {N i : Nat} {f : Nat → Bool} (Cc : Cx (KK w) h₀ env nm vals h) (X : BitAt h b d l N f) (h1 : Eva prog w n h (eval le env) (.ref b)) (h2 : Eva prog w n h (eval ie env) (vi (i : Int)))
    (hi : i < N) (hN : N < 1000) (hn : 3 ≤ n)
    (hsl : ∀ j, subscripted ie true (.ref b) j = runValue (.builtin "lifetime.subscript" ⟨[.ref b, j], []⟩) := by intros; rfl) : Eva prog w n h (eval (.Subscript le ie pos) env) (vi (if f i then 1 else 0)) := by
  obtain ⟨m, rfl⟩ : ∃ m, n = m + 1 + 1 + 1 := ⟨n - 3, by omega⟩
  obtain ⟨bytes, O, _⟩ := X.ex
  exact ev_sub Cc O (sub_bit w) h1 h2 (fun v' e => bit_getitem Cc.bs Cc.gb X hi hN (by rw [List.map_cons, List.map_cons, e]; rfl)) hsl
theorem x_setbit {env : Env} {nm : List Str} {vals : List (Option Value)} {D : List Addr} {ρ R : Res} {s₀ s : Shared} {A : Around} {E : Value → Shared → Prop} {le ie e : Expr} {pos p : Pos} {b d l : Addr} {N i : Nat} {f : Nat → Bool} {v : Bool} {Q : Flow → Shared → Prop} (H : Act (KK w) h₀ env nm vals D ρ R s₀ s) (r : Rm n A) (X : BitAt s.heap b d l N f)
    (he : Eva prog w n s.heap (eval e env) (vi (if v then 1 else 0))) (h1 : Eva prog w n s.heap (eval le env) (.ref b)) (h2 : Eva prog w n s.heap (eval ie env) (vi (i : Int))) (hlB : h₀.get? l = none) (hi : i < N) (hN : N < 1000) (hn : 1 ≤ n)
    (k : ∀ s', SX [l] s s' → BitAt s'.heap b d l N (fupd f i v) → Q .next s') (hsw : swapsWith e (some (.Subscript le ie p)) pos.line env = Pure.pure false := by rfl) :
    wpAny (model prog w) A (exec (.Assign [.Subscript le ie p] e pos) env) Q E s := by
  obtain ⟨m, rfl⟩ : ∃ m, n = m + 1 := ⟨n - 1, by omega⟩
  obtain ⟨bytes, O, _⟩ := X.ex
  exact x_setobj H r he h1 h2 O (sto_bit w) (fun j' v' s' e1 e2 x => bit_setitem H.cx.bs (H.cx.gb.trans x.gr) (X.gr x.gr) hlB hi hN (by rw [List.map_cons, List.map_cons, List.map_cons, e1, e2]; rfl))
    (fun u s1 s' x1 x2 p => k s' (x1.transL x2) p) hsw
theorem ev_chk {env : Env} {nm : List Str} {vals : List (Option Value)} {le ie : Expr} {pos apos : Pos} {b d l : Addr} {N i : Nat} {f : Nat → Bool} {pl : Sem Bool} (Cc : Cx (KK w) h₀ env nm vals h) (X : BitAt h b d l N f) (h1 : Eva prog w n h (eval le env) (.ref b)) (h2 : Eva prog w n h (eval ie env) (vi (i : Int)))
    (hi : i < N) (hN : N < 1000) (hn : 1 ≤ n) (hst : starEach [ie] env = (false, eval ie env) :: starEach [] env := by rfl) (hplain : (backTo pos (starEach [ie] env)).any (·.1) = false := by rfl)
    (he : eval (.Call (.Attribute le "check_bit" apos) [ie] [] pos) env = (do
      let ov ← eval le env
      standAt apos.atName
      let (f, first) ← holding [ov] (getMethod ov "check_bit" pl)
      callWith pos f first (backTo pos (starEach [ie] env)) []) := by rfl) : Eva prog w n h (eval (.Call (.Attribute le "check_bit" apos) [ie] [] pos) env) (vi (if f i then 1 else 0)) := by
  obtain ⟨m, rfl⟩ : ∃ m, n = m + 1 := ⟨n - 1, by omega⟩
  obtain ⟨bytes, O, _⟩ := X.ex
  exact ev_mcall Cc.inK (cls_bit w) O (mth_check_bit w) h1 (el_cons h2 el_nil hst) (fun vs' hv => by
    obtain ⟨u, rfl, hu⟩ := m1 hv
    exact check_bit Cc.bs Cc.gb X hi hN (by rw [List.map_cons, List.map_cons, hu]; rfl)) hplain (.inl (by nofun)) he
end
end Mine
end
section
open PySem PySem.W PyProof.Rows PySem.Calls
set_option Elab.async false
set_option maxRecDepth 100000
set_option maxHeartbeats 4000000
set_option linter.unusedVariables false
set_option pp.deepTerms false
set_option pp.maxSteps 600
namespace Mine
abbrev QFc : Addr := 467
abbrev qfNm : List Str := ["_q", "_r", "_size", "_QuotientFilter__mod_size", "_elements_added", "_auto_resize", "_hash_func", "_int_type_code", "_bits_per_elm", "_is_occupied", "_is_continuation", "_is_shifted", "_filter"]
/-- where its parts lie -/
structure FP where
  d : Addr
  bo : Addr
  bod : Addr
  bol : Addr
  bc : Addr
  bcd : Addr
  bcl : Addr
  bs : Addr
  bsd : Addr
  bsl : Addr
  fl : Addr
abbrev FP.all (F : FP) (a : Addr) : List Addr := [a, F.d, F.bo, F.bod, F.bol, F.bc, F.bcd, F.bcl, F.bs, F.bsd, F.bsl, F.fl]
abbrev FP.wr (F : FP) : List Addr := [F.d, F.bol, F.bcl, F.bsl, F.fl]
abbrev qfVals (t : QS) (F : FP) : List Value := [vi (t.q : Int), vi ((32 - t.q : Nat) : Int), vi ((t.N : Nat) : Int), vi ((t.N - 1 : Nat) : Int), vi (t.cnt : Int), .bool t.auto, .ref t.hf, vs "L", vi 32, .ref F.bo, .ref F.bc, .ref F.bs, .ref F.fl]
structure QFAt (h : Heap) (a : Addr) (F : FP) (t : QS) : Prop where
  ob : ObjAt h a QFc F.d qfNm (qfVals t F)
  bo : BitAt h F.bo F.bod F.bol t.N t.occ
  bc : BitAt h F.bc F.bcd F.bcl t.N t.con
  bs : BitAt h F.bs F.bsd F.bsl t.N t.shi
  fl : Ls h F.fl ((List.range t.N).map fun i => vi (t.fil i : Int))
  nd : (F.all a).Nodup
  q3 : 3 ≤ t.q
  q5 : t.q ≤ 5
theorem QFAt.N8 {h a F t} (x : QFAt h a F t) : 8 ≤ t.N ∧ t.N ≤ 32 := by
  have h3 := x.q3; have h5 := x.q5
  have : t.q = 3 ∨ t.q = 4 ∨ t.q = 5 := by omega
  rcases this with q | q | q <;> simp [QS.N, q]
theorem QFAt.at {h h' a F t} (x : QFAt h a F t) (k : ∀ b ∈ F.all a, ∀ o, h.get? b = some o → h'.get? b = some o) : QFAt h' a F t :=
  ⟨x.ob.at (k _ (by simp)) (k _ (by simp)), x.bo.at fun b hb => k b (by simp only [List.mem_cons, List.not_mem_nil, or_false] at hb ⊢; rcases hb with q | q | q <;> simp [q]),
   x.bc.at fun b hb => k b (by simp only [List.mem_cons, List.not_mem_nil, or_false] at hb ⊢; rcases hb with q | q | q <;> simp [q]),
   x.bs.at fun b hb => k b (by simp only [List.mem_cons, List.not_mem_nil, or_false] at hb ⊢; rcases hb with q | q | q <;> simp [q]), x.fl.at (k _ (by simp)), x.nd, x.q3, x.q5⟩
theorem QFAt.gr {h h' a F t} (x : QFAt h a F t) (g : Gr h h') : QFAt h' a F t := x.at fun b _ => g b
theorem QFAt.there {h a F t} (x : QFAt h a F t) : ∀ b ∈ F.all a, ∃ o, h.get? b = some o := by
  intro b hb
  have bit : ∀ {b' d l f c}, BitAt h b' d l t.N f → c ∈ [b', d, l] → ∃ o, h.get? c = some o := fun X hc => (Res.bit _ _ _ _ _).ex h X _ hc
  simp only [List.mem_cons, List.not_mem_nil, or_false] at hb
  rcases hb with q | q | q | q | q | q | q | q | q | q | q | q <;> subst q
  · exact ⟨_, x.ob.ho⟩
  · obtain ⟨es, k, e, _⟩ := x.ob.hd; exact ⟨_, e⟩
  · exact bit x.bo (by simp)
  · exact bit x.bo (by simp)
  · exact bit x.bo (by simp)
  · exact bit x.bc (by simp)
  · exact bit x.bc (by simp)
  · exact bit x.bc (by simp)
  · exact bit x.bs (by simp)
  · exact bit x.bs (by simp)
  · exact bit x.bs (by simp)
  · exact x.fl.there
def Res.qf (a : Addr) (F : FP) (t : QS) : Res := ⟨fun b => b ∈ F.all a, fun h => QFAt h a F t, fun h h' k x => x.at fun b hb o e => k b o hb e, fun h x b hb => x.there b hb⟩
theorem cls_qf (w : World) : Cls (KK w) QFc qfNm := by
  refine ⟨?_, ?_, ?_, ?_, ?_, ?_, ?_⟩
  · exact (by kernel_rfl)
  · exact (by kernel_rfl)
  · exact (by kernel_rfl)
  · intro x hx
    have : (qfNm.all fun x => findIn (KK w) (.ref QFc) x == some none) = true := by kernel_rfl
    exact beq_iff_eq.mp (List.all_eq_true.mp this x hx)
  · exact (by kernel_rfl)
  · exact (by kernel_rfl)
  · decide +kernel
theorem mth_emp (w : World) : Mth (KK w) QFc qfNm "_is_empty_element" 464 := .of (by kernel_rfl) (by kernel_rfl) (by kernel_rfl) (by decide +kernel)
theorem mth_run (w : World) : Mth (KK w) QFc qfNm "_is_run_start" 450 := .of (by kernel_rfl) (by kernel_rfl) (by kernel_rfl) (by decide +kernel)
theorem mth_start (w : World) : Mth (KK w) QFc qfNm "_get_start_index" 366 := .of (by kernel_rfl) (by kernel_rfl) (by kernel_rfl) (by decide +kernel)
theorem mth_cont (w : World) : Mth (KK w) QFc qfNm "_contained_at_loc" 436 := .of (by kernel_rfl) (by kernel_rfl) (by kernel_rfl) (by decide +kernel)
def b2i (b : Bool) : Int := if b then 1 else 0
local macro_rules | `(tactic| tm_at "at") => `(tactic| with_reducible (repeat (first | exact At.head | apply At.tail)))
local macro_rules | `(tactic| tm_at "ok") => `(tactic| first | trivial | assumption | (simp only [okI]; omega) | (simp only [okI]; mul_fits))
local macro_rules | `(tactic| tm_at "bop") => `(tactic| exact fun _ _ => bo_any (by tm_at "ok"))
local macro_rules | `(tactic| tm_at "cm") => `(tactic| exact fun _ _ => co_any rfl)
local macro_rules | `(tactic| tm_at "obj") => `(tactic| first | exact QFAt.ob (by assumption) | assumption)
local macro_rules | `(tactic| tm_at "cls") => `(tactic| first | exact cls_qf _ | exact cls_bit _)
local macro_rules | `(tactic| tm_at "lt") => `(tactic| first | assumption | omega)
local macro_rules | `(tactic| tm_at "bitx") => `(tactic| first | exact QFAt.bo (by assumption) | exact QFAt.bc (by assumption) | exact QFAt.bs (by assumption))
local macro_rules | `(tactic| tm_at "ev") => `(tactic| first
  | with_reducible exact ev_int | with_reducible exact ev_true | with_reducible exact ev_none | with_reducible exact ev_str
  | ((with_reducible refine' ev_loc ?h1 ?h2 ?h3); (case h1 => assumption); (case h2 => tm_at "at"); (case h3 => rfl))
  | ((with_reducible refine' ev_attr (Cx.inK ?h1) ?h2 ?h3 ?h4 ?h5 ?h6 ?h7 ?h8); (case h1 => assumption); (case h4 => tm_at "ev"); (case h3 => tm_at "obj"); (case h2 => tm_at "cls"); (case h5 => tm_at "at"); (case h6 => rfl); (case h7 => rfl); (case h8 => rfl))
  | ((with_reducible refine' ev_bin ?h1 ?h2 ?h3); (case h1 => tm_at "ev"); (case h2 => tm_at "ev"); (case h3 => tm_at "bop"))
  | ((with_reducible refine' ev_bit ?h1 ?h2 ?h3 ?h4 ?h5 ?h6 ?h7 ?h8); (case h1 => assumption); (case h3 => tm_at "ev"); (case h4 => tm_at "ev"); (case h2 => tm_at "bitx"); (case h5 => tm_at "lt"); (case h6 => tm_at "lt"); (case h7 => tm_at "lt"); (case h8 => (intros; rfl)))
  | ((with_reducible refine' ev_un ?h1 ?h2); (case h1 => tm_at "ev"); (case h2 => exact fun _ => uo_any rfl)))
local macro_rules | `(tactic| tm_at "eb") => `(tactic| first
  | ((with_reducible refine' eb_cmp ?h1 ?h2 ?h3 ?h4); (case h1 => tm_at "ev"); (case h2 => tm_at "ev"); (case h3 => tm_at "cm"); (case h4 => rfl))
  | ((with_reducible refine' eb_bool ?h1); (case h1 => tm_at "eb"))
  | ((with_reducible refine' eb_or ?h1 ?h2); (case h1 => tm_at "eb"); (case h2 => tm_at "eb"))
  | ((with_reducible refine' eb_and ?h1 ?h2); (case h1 => tm_at "eb"); (case h2 => tm_at "eb"))
  | with_reducible exact eb_or_nil | with_reducible exact eb_and_nil
  | ((with_reducible refine' eb_not ?h1); (case h1 => tm_at "eb")))
section
variable {prog : Program} {w : World} {n : Nat} {h h₀ : Heap}
theorem q_emp (B : Bas (KK w) h₀) {args : List Value} {a : Addr} {F : FP} {t : QS} {i : Nat} (gb : Gr h₀ h) (X : QFAt h a F t) (hi : i < t.N) (ha : args.map er = [.ref a, vi (i : Int)]) (hn : 4 ≤ n) :
    FunP prog w n h 464 args (fun v _ => er v = .bool (t.emp i)) := by
  obtain ⟨n, rfl⟩ : ∃ m, n = m + 1 := ⟨n - 1, by omega⟩
  obtain ⟨a1, a2, rfl, h1, h2⟩ := m2 ha
  refine fun_enter (k := 0) (nm := ["self", "elt"]) (args2 := [a1, a2]) (avs2 := [.ref a, vi (i : Int)]) B gb (by rfl) rfl (by kernel_rfl) (fun _ _ => .of_eq rfl) (by simp [h1, h2]) (by decide +kernel) (by decide +kernel) (by decide +kernel) ?_
  intro env s0 s g hs H A Q r q1 q2
  clear hs
  have C := H.cx
  have X1 := X.gr H.own
  have hN := X.N8
  refine y_ret H r (P := fun v _ => er v = .bool (t.emp i)) ?_ fun v s2 p H2 x2 => q1 v s2 p H2.sx
  refine Eva.cast (ev_cmp (by tm_at "ev") (by tm_at "ev") (by tm_at "cm")) (congrArg Value.bool ?_)
  unfold QS.emp
  cases t.occ i <;> cases t.con i <;> cases t.shi i <;> rfl
theorem q_run (B : Bas (KK w) h₀) {args : List Value} {a : Addr} {F : FP} {t : QS} {i : Nat} (gb : Gr h₀ h) (X : QFAt h a F t) (hi : i < t.N) (ha : args.map er = [.ref a, vi (i : Int)]) (hn : 4 ≤ n) :
    FunP prog w n h 450 args (fun v _ => er v = .bool (!(t.con i) && (t.occ i || t.shi i))) := by
  obtain ⟨n, rfl⟩ : ∃ m, n = m + 1 := ⟨n - 1, by omega⟩
  obtain ⟨a1, a2, rfl, h1, h2⟩ := m2 ha
  refine fun_enter (k := 0) (nm := ["self", "elt"]) (args2 := [a1, a2]) (avs2 := [.ref a, vi (i : Int)]) B gb (by rfl) rfl (by kernel_rfl) (fun _ _ => .of_eq rfl) (by simp [h1, h2]) (by decide +kernel) (by decide +kernel) (by decide +kernel) ?_
  intro env s0 s g hs H A Q r q1 q2
  clear hs
  have C := H.cx
  have X1 := X.gr H.own
  have hN := X.N8
  refine y_ret H r (P := fun v _ => er v = .bool (!(t.con i) && (t.occ i || t.shi i))) ?_ fun v s2 p H2 x2 => q1 v s2 p H2.sx
  refine Eva.cast (ev_and2 (ev_cmp (by tm_at "ev") (by tm_at "ev") (by tm_at "cm")) fun _ => ev_or2 (ev_cmp (by tm_at "ev") (by tm_at "ev") (by tm_at "cm")) fun _ => ev_cmp (by tm_at "ev") (by tm_at "ev") (by tm_at "cm")) (congrArg Value.bool ?_)
  cases t.occ i <;> cases t.con i <;> cases t.shi i <;> rfl
end
end Mine
end
section
open PySem PySem.W PyProof.Rows PySem.Calls
set_option Elab.async false
set_option maxRecDepth 100000
set_option maxHeartbeats 4000000
set_option linter.unusedVariables false
set_option pp.deepTerms false
set_option pp.maxSteps 700
namespace Mine
local macro_rules | `(tactic| tm_at "at") => `(tactic| with_reducible (repeat (first | exact At.head | apply At.tail)))
local macro_rules | `(tactic| tm_at "ok") => `(tactic| first | trivial | assumption | (simp only [okI]; omega) | (simp only [okI]; mul_fits))
local macro_rules | `(tactic| tm_at "bop") => `(tactic| exact fun _ _ => bo_any (by tm_at "ok"))
local macro_rules | `(tactic| tm_at "cm") => `(tactic| exact fun _ _ => co_any rfl)
local macro_rules | `(tactic| tm_at "obj") => `(tactic| first | exact QFAt.ob (by assumption) | assumption)
local macro_rules | `(tactic| tm_at "cls") => `(tactic| first | exact cls_qf _ | exact cls_bit _)
local macro_rules | `(tactic| tm_at "lt") => `(tactic| first | assumption | omega)
local macro_rules | `(tactic| tm_at "bitx") => `(tactic| first | exact QFAt.bo (by assumption) | exact QFAt.bc (by assumption) | exact QFAt.bs (by assumption))
local macro_rules | `(tactic| tm_at "ev") => `(tactic| first
  | with_reducible exact ev_int | with_reducible exact ev_true | with_reducible exact ev_none | with_reducible exact ev_str
  | ((with_reducible refine' ev_loc ?h1 ?h2 ?h3); (case h1 => assumption); (case h2 => tm_at "at"); (case h3 => rfl))
  | ((with_reducible refine' ev_attr (Cx.inK ?h1) ?h2 ?h3 ?h4 ?h5 ?h6 ?h7 ?h8); (case h1 => assumption); (case h4 => tm_at "ev"); (case h3 => tm_at "obj"); (case h2 => tm_at "cls"); (case h5 => tm_at "at"); (case h6 => rfl); (case h7 => rfl); (case h8 => rfl))
  | ((with_reducible refine' ev_bin ?h1 ?h2 ?h3); (case h1 => tm_at "ev"); (case h2 => tm_at "ev"); (case h3 => tm_at "bop"))
  | ((with_reducible refine' ev_bit ?h1 ?h2 ?h3 ?h4 ?h5 ?h6 ?h7 ?h8); (case h1 => assumption); (case h3 => tm_at "ev"); (case h4 => tm_at "ev"); (case h2 => tm_at "bitx"); (case h5 => tm_at "lt"); (case h6 => tm_at "lt"); (case h7 => tm_at "lt"); (case h8 => (intros; rfl)))
  | ((with_reducible refine' ev_un ?h1 ?h2); (case h1 => tm_at "ev"); (case h2 => exact fun _ => uo_any rfl)))
local macro_rules | `(tactic| tm_at "eb") => `(tactic| first
  | ((with_reducible refine' eb_cmp ?h1 ?h2 ?h3 ?h4); (case h1 => tm_at "ev"); (case h2 => tm_at "ev"); (case h3 => tm_at "cm"); (case h4 => rfl))
  | ((with_reducible refine' eb_bool ?h1); (case h1 => tm_at "eb"))
  | ((with_reducible refine' eb_or ?h1 ?h2); (case h1 => tm_at "eb"); (case h2 => tm_at "eb"))
  | ((with_reducible refine' eb_and ?h1 ?h2); (case h1 => tm_at "eb"); (case h2 => tm_at "eb"))
  | with_reducible exact eb_or_nil | with_reducible exact eb_and_nil
  | ((with_reducible refine' eb_not ?h1); (case h1 => tm_at "eb")))
theorem QS.nx_lt (t : QS) (j : Nat) : t.nx j < t.N := Nat.mod_lt _ (Nat.two_pow_pos _)
theorem QS.pv_lt (t : QS) (j : Nat) : t.pv j < t.N := Nat.mod_lt _ (Nat.two_pow_pos _)
theorem bq_nat (a b : Nat) : ((a : Int) == (b : Int)) = decide (a = b) := by
  by_cases e : a = b
  · subst e; simp
  · rw [decide_eq_false e]; exact beq_false_of_ne (by omega)
theorem bit1 (b : Bool) : (((if b = true then 1 else 0 : Int)) == 1) = b := by cases b <;> rfl
theorem bit0 (b : Bool) : (((if b = true then 1 else 0 : Int)) == 0) = !b := by cases b <;> rfl
theorem bitn1 (b : Bool) : (((if b = true then 1 else 0 : Int)) != 1) = !b := by cases b <;> rfl
theorem ar_nx (t : QS) (j : Nat) : arI .BitAnd (arI .Add (j : Int) 1) ((t.N - 1 : Nat) : Int) = (t.nx j : Int) := by
  have e : arI .Add (j : Int) 1 = ((j + 1 : Nat) : Int) := by show (j : Int) + 1 = _; omega
  rw [e]; exact band_mask _ _
theorem ar_pv (t : QS) {j : Nat} (h : j < t.N) : arI .BitAnd (arI .Sub (j : Int) 1) ((t.N - 1 : Nat) : Int) = (t.pv j : Int) := by
  unfold QS.pv
  have hp : 0 < t.N := Nat.two_pow_pos _
  cases j with
  | zero =>
    rw [Nat.zero_add, Nat.mod_eq_of_lt (by omega)]; exact band_mask_neg _
  | succ j =>
    have e : arI .Sub ((j + 1 : Nat) : Int) 1 = (j : Int) := by show ((j + 1 : Nat) : Int) - 1 = _; omega
    rw [e, show j + 1 + t.N - 1 = j + t.N by omega, Nat.add_mod_right]; exact band_mask _ _
section
variable {prog : Program} {w : World} {n : Nat} {h h₀ : Heap} {env : Env} {nm : List Str} {vals : List (Option Value)} {a : Addr} {F : FP} {t : QS}
theorem ev_qemp {o ie : Expr} {apos pos : Pos} {i : Nat} {pl : Sem Bool} (Cc : Cx (KK w) h₀ env nm vals h) (X : QFAt h a F t) (h1 : Eva prog w n h (eval o env) (.ref a)) (h2 : Eva prog w n h (eval ie env) (vi (i : Int)))
    (hi : i < t.N) (hn : 4 ≤ n) (hst : starEach [ie] env = (false, eval ie env) :: starEach [] env := by rfl) (hplain : (backTo pos (starEach [ie] env)).any (·.1) = false := by rfl)
    (he : eval (.Call (.Attribute o "_is_empty_element" apos) [ie] [] pos) env = (do
      let ov ← eval o env
      standAt apos.atName
      let (f, first) ← holding [ov] (getMethod ov "_is_empty_element" pl)
      callWith pos f first (backTo pos (starEach [ie] env)) []) := by rfl) : Eva prog w n h (eval (.Call (.Attribute o "_is_empty_element" apos) [ie] [] pos) env) (.bool (t.emp i)) :=
  ev_mcall Cc.inK (cls_qf w) X.ob (mth_emp w) h1 (el_cons h2 el_nil hst) (fun vs' hv => by
    obtain ⟨u, rfl, hu⟩ := m1 hv
    exact q_emp Cc.bs Cc.gb X hi (by rw [List.map_cons, List.map_cons, hu]; rfl) hn) hplain (.inl (by nofun)) he
theorem eb_wt {k pos} : EvB prog w n h (PySem.isTrue (.Constant (.bool true) k pos) env (eval (.Constant (.bool true) k pos) env)) true := eb_val ev_true

theorem q_start (B : Bas (KK w) h₀) {args : List Value} {q j0 : Nat} (gb : Gr h₀ h) (X : QFAt h a F t) (hq : q < t.N) (hs : t.start q = some j0) (ha : args.map er = [.ref a, vi (q : Int)]) (hn : 6 ≤ n) :
    FunP prog w n h 366 args (fun v _ => er v = vi (j0 : Int)) := by
  obtain ⟨n, rfl⟩ : ∃ m, n = m + 1 := ⟨n - 1, by omega⟩
  obtain ⟨a1, a2, rfl, h1, h2⟩ := m2 ha
  refine fun_enter (k := 2) (nm := ["self", "quotient", "j", "cnts"]) (args2 := [a1, a2]) (avs2 := [.ref a, vi (q : Int)]) B gb (by rfl) rfl (by kernel_rfl) (fun _ _ => .of_eq rfl) (by simp [h1, h2]) (by decide +kernel) (by decide +kernel) (by decide +kernel) ?_
  intro env s0 s g hs' H A Q r q1 q2
  clear hs'
  have C := H.cx
  have X1 := X.gr H.own
  have hN := X.N8
  unfold QS.start at hs
  refine y_if (c := t.emp q) H r (eb_val (ev_qemp C X1 (by tm_at "ev") (by tm_at "ev") hq (by omega))) (fun he s1 H1 _ => ?_) fun he s1 H1 _ => ?_
  · have C := H1.cx
    rw [if_pos he] at hs
    cases hs
    exact y_ret H1 r (P := fun v _ => er v = vi (q : Int)) (by tm_at "ev") fun v s2 p H2 x2 => q1 v s2 p H2.sx
  refine wpAny_execs_nil ?_
  show wpAny _ _ (execs _ _) _ _ _
  rw [if_neg (by rw [he]; decide)] at hs
  obtain ⟨⟨j1, c1⟩, hb, hf⟩ := Option.bind_eq_some_iff.mp hs
  have C := H1.cx
  refine y_assign (v := vi (q : Int)) H1 r (by tm_at "ev") (by tm_at "at") fun s2 H2 _ => ?_
  have C := H2.cx
  refine y_assign (v := vi 0) H2 r (by tm_at "ev") (by tm_at "at") fun s3 H3 _ => ?_
  refine wpAny_execs_cons (x_while (n := n) (fun m ρ vals => ∃ (j : Nat) (c : Int), vals = [some (.ref a), some (vi (q : Int)), some (vi (j : Int)), some (vi c)] ∧ ρ = .gr h ∧ j < t.N ∧ t.back q m j c = some (j1, c1)) H3 r ⟨q, 0, rfl, rfl, hq, hb⟩ ?_)
  rintro m ρ vals s4 ⟨j, c, rfl, rfl, hj, hbk⟩ H4
  obtain ⟨m, rfl⟩ : ∃ f, m = f + 1 := by cases m with | zero => simp [QS.back] at hbk | succ f => exact ⟨f, rfl⟩
  refine ⟨true, eb_wt, (fun q => nomatch q), fun _ s5 H5 => ?_⟩
  simp only [QS.back] at hbk
  have X5 := X.gr H5.own
  have C := H5.cx
  suffices key : ∀ (c' : Int) s6, c' = (if j = q ∨ t.occ j = true then c + 1 else c) → Act (KK w) h₀ env ["self", "quotient", "j", "cnts"] [some (.ref a), some (vi (q : Int)), some (vi (j : Int)), some (vi c')] [] (.gr h) .emp s0 s6 → wpAny (model prog w) A _ _ _ s6 by
    refine y_if (c := decide (j = q ∨ t.occ j = true)) H5 r (EvB.cast (by tm_at "eb") ?_) (fun hc s6 H6 _ => ?_) fun hc s6 H6 _ => ?_
    · simp only [cmpI, bq_nat, bit1, Bool.or_false, Bool.decide_or, Bool.decide_eq_true]
    · have C := H6.cx
      refine wpAny_execs_cons (x_aug H6 r (by tm_at "at") rfl (by tm_at "ev") (fun _ _ => io_add) fun s7 H7 _ => wpAny_execs_nil ?_)
      exact key _ _ (by rw [if_pos (of_decide_eq_true hc)]) H7
    · exact wpAny_execs_nil (key _ _ (by rw [if_neg (of_decide_eq_false hc)]) H6)
  intro c' s6 hc' H6
  rw [← hc'] at hbk
  have X6 := X.gr H6.own
  have C := H6.cx
  refine y_if (c := t.shi j) H6 r (EvB.cast (by tm_at "eb") (by cases t.shi j <;> rfl)) (fun hc s7 H7 _ => ?_) fun hc s7 H7 _ => ?_
  · have X7 := X.gr H7.own
    have C := H7.cx
    rw [if_pos hc] at hbk
    refine y_assign (v := vi (t.pv j : Int)) H7 r (Eva.cast (by tm_at "ev") (congrArg vi (ar_pv t hj))) (by tm_at "at") fun s8 H8 _ => wpAny_execs_nil (wpAny_execs_nil ?_)
    exact ⟨_, _, ⟨m, Nat.lt_succ_self _, _, _, rfl, rfl, t.pv_lt j, hbk⟩, H8⟩
  · rw [if_neg (by rw [hc]; decide)] at hbk
    cases hbk
    refine wpAny_execs_cons (wpAny_Break ?_)
    show wpAny _ _ (execs _ _) _ _ _
    refine wpAny_execs_cons (x_while (n := n) (fun m ρ vals => ∃ (j : Nat) (c : Int), vals = [some (.ref a), some (vi (q : Int)), some (vi (j : Int)), some (vi c)] ∧ ρ = .gr h ∧ j < t.N ∧ t.fwd m j c = some j0) H7 r ⟨_, _, rfl, rfl, hj, hf⟩ ?_)
    rintro m ρ vals s4 ⟨j, c, rfl, rfl, hj, hfw⟩ H4
    obtain ⟨m, rfl⟩ : ∃ f, m = f + 1 := by cases m with | zero => simp [QS.fwd] at hfw | succ f => exact ⟨f, rfl⟩
    refine ⟨true, eb_wt, (fun q => nomatch q), fun _ s5 H5 => ?_⟩
    simp only [QS.fwd] at hfw
    have X5 := X.gr H5.own
    have C := H5.cx
    suffices nxt : ∀ (c' : Int) s6, t.fwd m (t.nx j) c' = some j0 → Act (KK w) h₀ env ["self", "quotient", "j", "cnts"] [some (.ref a), some (vi (q : Int)), some (vi (j : Int)), some (vi c')] [] (.gr h) .emp s0 s6 → wpAny (model prog w) A _ _ _ s6 by
      refine y_if (c := !(t.con j)) H5 r (EvB.cast (by tm_at "eb") (bit0 _)) (fun hc s7 H7 _ => ?_) fun hc s7 H7 _ => ?_
      · have X7 := X.gr H7.own
        have C := H7.cx
        rw [if_pos (by simpa using hc)] at hfw
        refine y_if (c := decide (c = 1)) H7 r (EvB.cast (by tm_at "eb") rfl) (fun hc s8 H8 _ => ?_) fun hc s8 H8 _ => ?_
        · rw [if_pos (of_decide_eq_true hc)] at hfw
          cases hfw
          refine wpAny_execs_cons (wpAny_Break ?_)
          show wpAny _ _ (execs _ _) _ _ _
          have C := H8.cx
          exact y_ret H8 r (P := fun v _ => er v = vi (j0 : Int)) (by tm_at "ev") fun v s2 p H2 x2 => q1 v s2 p H2.sx
        · rw [if_neg (of_decide_eq_false hc)] at hfw
          refine wpAny_execs_nil ?_
          show wpAny _ _ (execs _ _) _ _ _
          have C := H8.cx
          refine wpAny_execs_cons (x_aug H8 r (by tm_at "at") rfl (by tm_at "ev") (fun _ _ => io_sub) fun s9 H9 _ => wpAny_execs_nil ?_)
          exact nxt _ _ hfw H9
      · rw [if_neg (by simpa using hc)] at hfw
        exact wpAny_execs_nil (nxt _ _ hfw H7)
    intro c' s6 hh H6
    have X6 := X.gr H6.own
    have C := H6.cx
    refine y_assign (v := vi (t.nx j : Int)) H6 r (Eva.cast (by tm_at "ev") (congrArg vi (ar_nx t j))) (by tm_at "at") fun s8 H8 _ => wpAny_execs_nil ?_
    exact ⟨_, _, ⟨m, Nat.lt_succ_self _, _, _, rfl, rfl, t.nx_lt j, hh⟩, H8⟩

theorem ev_qstart {o ie : Expr} {apos pos : Pos} {q j0 : Nat} {pl : Sem Bool} (Cc : Cx (KK w) h₀ env nm vals h) (X : QFAt h a F t) (h1 : Eva prog w n h (eval o env) (.ref a)) (h2 : Eva prog w n h (eval ie env) (vi (q : Int)))
    (hq : q < t.N) (hs : t.start q = some j0) (hn : 6 ≤ n) (hst : starEach [ie] env = (false, eval ie env) :: starEach [] env := by rfl) (hplain : (backTo pos (starEach [ie] env)).any (·.1) = false := by rfl)
    (he : eval (.Call (.Attribute o "_get_start_index" apos) [ie] [] pos) env = (do
      let ov ← eval o env
      standAt apos.atName
      let (f, first) ← holding [ov] (getMethod ov "_get_start_index" pl)
      callWith pos f first (backTo pos (starEach [ie] env)) []) := by rfl) : Eva prog w n h (eval (.Call (.Attribute o "_get_start_index" apos) [ie] [] pos) env) (vi (j0 : Int)) :=
  ev_mcall Cc.inK (cls_qf w) X.ob (mth_start w) h1 (el_cons h2 el_nil hst) (fun vs' hv => by
    obtain ⟨u, rfl, hu⟩ := m1 hv
    exact q_start Cc.bs Cc.gb X hq hs (by rw [List.map_cons, List.map_cons, hu]; rfl) hn) hplain (.inl (by nofun)) he
theorem QFAt.item (X : QFAt h a F t) {i : Nat} (hi : i < t.N) : ((List.range t.N).map fun i => vi (t.fil i : Int))[((i : Nat) : Int).toNat]? = some (vi (t.fil i : Int)) := by
  rw [Int.toNat_natCast, List.getElem?_map, List.getElem?_range hi]; rfl
theorem ev_fil {le ie : Expr} {pos : Pos} {i : Nat} (X : QFAt h a F t) (h1 : Eva prog w n h (eval le env) (.ref F.fl)) (h2 : Eva prog w n h (eval ie env) (vi (i : Int))) (hi : i < t.N)
    (hs : ∀ o j, subscripted ie false o j = operate [o, j] (getItem o j) := by intros; rfl) : Eva prog w n h (eval (.Subscript le ie pos) env) (vi (t.fil i : Int)) :=
  ev_item h1 X.fl h2 (by omega) (by have := X.N8; omega) (X.item hi) hs
theorem QS.start_lt (t : QS) {q j0 : Nat} (hq : q < t.N) (h : t.start q = some j0) : j0 < t.N := by
  unfold QS.start at h
  split at h
  · cases h; exact hq
  · obtain ⟨⟨j, c⟩, hb, hf⟩ := Option.bind_eq_some_iff.mp h
    have b : ∀ f j c j1 c1, j < t.N → t.back q f j c = some (j1, c1) → j1 < t.N := by
      intro f
      induction f with
      | zero => intro j c j1 c1 _ h; simp [QS.back] at h
      | succ f ih =>
        intro j c j1 c1 hj h
        simp only [QS.back] at h
        split at h
        · exact ih _ _ _ _ (t.pv_lt j) h
        · cases h; exact hj
    have fw : ∀ f j c j1, j < t.N → t.fwd f j c = some j1 → j1 < t.N := by
      intro f
      induction f with
      | zero => intro j c j1 _ h; simp [QS.fwd] at h
      | succ f ih =>
        intro j c j1 hj h
        simp only [QS.fwd] at h
        split at h
        · split at h
          · cases h; exact hj
          · exact ih _ _ _ (t.nx_lt j) h
        · exact ih _ _ _ (t.nx_lt j) h
    exact fw _ _ _ _ (b _ _ _ _ _ hq hb) hf
theorem q_loc (B : Bas (KK w) h₀) {args : List Value} {q r' : Nat} {x : Int} (gb : Gr h₀ h) (X : QFAt h a F t) (hq : q < t.N) (hs : t.loc q r' = some x) (ha : args.map er = [.ref a, vi (q : Int), vi (r' : Int)]) (hn : 7 ≤ n) :
    FunP prog w n h 436 args (fun v _ => er v = vi x) := by
  obtain ⟨n, rfl⟩ : ∃ m, n = m + 1 := ⟨n - 1, by omega⟩
  obtain ⟨a1, a2, a3, rfl, h1, h2, h3⟩ := m3 ha
  refine fun_enter (k := 2) (nm := ["self", "q", "r", "start_idx", "starts"]) (args2 := [a1, a2, a3]) (avs2 := [.ref a, vi (q : Int), vi (r' : Int)]) B gb (by rfl) rfl (by kernel_rfl) (fun _ _ => .of_eq rfl) (by simp [h1, h2, h3]) (by decide +kernel) (by decide +kernel) (by decide +kernel) ?_
  intro env s0 s g hs' H A Q r q1 q2
  clear hs'
  have C := H.cx
  have X1 := X.gr H.own
  have hN := X.N8
  unfold QS.loc at hs
  refine y_if (c := !(t.occ q)) H r (EvB.cast (by tm_at "eb") (bit0 _)) (fun he s1 H1 _ => ?_) fun he s1 H1 _ => ?_
  · have C := H1.cx
    rw [if_pos (by simpa using he)] at hs
    cases hs
    exact y_ret H1 r (P := fun v _ => er v = vi (-1)) (by tm_at "ev") fun v s2 p H2 x2 => q1 v s2 p H2.sx
  refine wpAny_execs_nil ?_
  show wpAny _ _ (execs _ _) _ _ _
  rw [if_neg (by simpa using he)] at hs
  obtain ⟨j0, hst, hsc⟩ := Option.bind_eq_some_iff.mp hs
  have hj0 := t.start_lt hq hst
  have C := H1.cx
  have X1 := X.gr H1.own
  refine y_assign (v := vi (j0 : Int)) H1 r (ev_qstart C X1 (by tm_at "ev") (by tm_at "ev") hq hst (by omega)) (by tm_at "at") fun s2 H2 _ => ?_
  have C := H2.cx
  refine y_assign (v := vi 0) H2 r (by tm_at "ev") (by tm_at "at") fun s3 H3 _ => ?_
  refine wpAny_execs_cons (x_while (n := n) (fun m ρ vals => ∃ (j s : Nat), vals = [some (.ref a), some (vi (q : Int)), some (vi (r' : Int)), some (vi (j : Int)), some (vi (s : Int))] ∧ ρ = .gr h ∧ j < t.N ∧ t.scan r' m j s = some x) H3 r ⟨_, 0, rfl, rfl, hj0, hsc⟩ ?_)
  clear hsc
  rintro m ρ vals s4 ⟨j, st, rfl, rfl, hj, hsc⟩ H4
  obtain ⟨m, rfl⟩ : ∃ f, m = f + 1 := by cases m with | zero => simp [QS.scan] at hsc | succ f => exact ⟨f, rfl⟩
  have X4 := X.gr H4.own
  have C := H4.cx
  simp only [QS.scan] at hsc
  refine ⟨!(t.emp j), eb_cmp (ev_qemp C X4 (by tm_at "ev") (by tm_at "ev") hj (by omega)) (by tm_at "ev") (fun x' y' ex ey => ?_), fun he s5 H5 => ?_, fun he s5 H5 => ?_⟩
  · rw [er_bool ex, er_bool ey]
    exact fun A Q E s r k q => wpAny_is_plain (by cases t.emp j <;> rfl) (q _ _ (by cases t.emp j <;> rfl) (.refl _ _))
  · rw [if_pos (by simpa using he)] at hsc
    cases hsc
    show wpAny _ _ (execs _ _) _ _ _
    have C := H5.cx
    exact y_ret H5 r (P := fun v _ => er v = vi (-1)) (by tm_at "ev") fun v s2 p H2 x2 => q1 v s2 p H2.sx
  rw [if_neg (by simpa using he)] at hsc
  have X5 := X.gr H5.own
  have C := H5.cx
  suffices key : ∀ (s' : Nat) s6, s' = (if t.con j = true then st else st + 1) → Act (KK w) h₀ env ["self", "q", "r", "start_idx", "starts"] [some (.ref a), some (vi (q : Int)), some (vi (r' : Int)), some (vi (j : Int)), some (vi (s' : Int))] [] (.gr h) .emp s0 s6 → wpAny (model prog w) A _ _ _ s6 by
    refine y_if (c := !(t.con j)) H5 r (EvB.cast (by tm_at "eb") (bit0 _)) (fun hc s6 H6 _ => ?_) fun hc s6 H6 _ => ?_
    · have C := H6.cx
      refine wpAny_execs_cons (x_aug H6 r (by tm_at "at") rfl (by tm_at "ev") (fun _ _ => io_add) fun s7 H7 _ => wpAny_execs_nil ?_)
      exact key (st + 1) _ (by rw [if_neg (by simpa using hc)]) (H7.eqv (by simp))
    · exact wpAny_execs_nil (key _ _ (by rw [if_pos (by simpa using hc)]) H6)
  intro s' s6 hs' H6
  rw [← hs'] at hsc
  have X6 := X.gr H6.own
  have C := H6.cx
  refine y_if (c := decide (s' = 2 ∨ r' < t.fil j)) H6 r (EvB.cast (eb_bool (eb_or (by tm_at "eb") (eb_or (eb_cmp (ev_fil X6 (by tm_at "ev") (by tm_at "ev") hj) (by tm_at "ev") (by tm_at "cm")) eb_or_nil))) ?_) (fun hc s7 H7 _ => ?_) fun hc s7 H7 _ => ?_
  · rw [Bool.or_false, Bool.decide_or]
    exact congr (congrArg _ (bq_nat s' 2)) (by simp [cmpI])
  · rw [if_pos (of_decide_eq_true hc)] at hsc
    cases hsc
    refine wpAny_execs_cons (wpAny_Break ?_)
    show wpAny _ _ (execs _ _) _ _ _
    have C := H7.cx
    exact y_ret H7 r (P := fun v _ => er v = vi (-1)) (by tm_at "ev") fun v s2 p H2 x2 => q1 v s2 p H2.sx
  rw [if_neg (of_decide_eq_false hc)] at hsc
  refine wpAny_execs_nil ?_
  show wpAny _ _ (execs _ _) _ _ _
  have X7 := X.gr H7.own
  have C := H7.cx
  refine y_if (c := decide (t.fil j = r')) H7 r (EvB.cast (eb_cmp (ev_fil X7 (by tm_at "ev") (by tm_at "ev") hj) (by tm_at "ev") (by tm_at "cm")) (bq_nat _ _)) (fun hc s8 H8 _ => ?_) fun hc s8 H8 _ => ?_
  · rw [if_pos (of_decide_eq_true hc)] at hsc
    cases hsc
    have C := H8.cx
    exact y_ret H8 r (P := fun v _ => er v = vi (j : Int)) (by tm_at "ev") fun v s2 p H2 x2 => q1 v s2 p H2.sx
  rw [if_neg (of_decide_eq_false hc)] at hsc
  refine wpAny_execs_nil ?_
  show wpAny _ _ (execs _ _) _ _ _
  have C := H8.cx
  have X8 := X.gr H8.own
  refine y_assign (v := vi (t.nx j : Int)) H8 r (Eva.cast (by tm_at "ev") (congrArg vi (ar_nx t j))) (by tm_at "at") fun s9 H9 _ => wpAny_execs_nil ?_
  exact ⟨_, _, ⟨m, Nat.lt_succ_self _, _, _, rfl, rfl, t.nx_lt j, hsc⟩, H9⟩
end
end Mine
end
section
open PySem PySem.W PyProof.Rows PySem.Calls
set_option Elab.async false
set_option maxRecDepth 100000
set_option maxHeartbeats 4000000
set_option linter.unusedVariables false
set_option pp.deepTerms false
set_option pp.maxSteps 700
namespace Mine
local macro_rules | `(tactic| tm_at "at") => `(tactic| with_reducible (repeat (first | exact At.head | apply At.tail)))
local macro_rules | `(tactic| tm_at "ok") => `(tactic| first | trivial | assumption | (simp only [okI]; omega) | (simp only [okI]; mul_fits))
local macro_rules | `(tactic| tm_at "bop") => `(tactic| exact fun _ _ => bo_any (by tm_at "ok"))
local macro_rules | `(tactic| tm_at "cm") => `(tactic| exact fun _ _ => co_any rfl)
local macro_rules | `(tactic| tm_at "obj") => `(tactic| first | exact QFAt.ob (by assumption) | assumption)
local macro_rules | `(tactic| tm_at "cls") => `(tactic| first | exact cls_qf _ | exact cls_bit _)
local macro_rules | `(tactic| tm_at "lt") => `(tactic| first | assumption | omega)
local macro_rules | `(tactic| tm_at "bitx") => `(tactic| first | exact QFAt.bo (by assumption) | exact QFAt.bc (by assumption) | exact QFAt.bs (by assumption))
local macro_rules | `(tactic| tm_at "ev") => `(tactic| first
  | with_reducible exact ev_int | with_reducible exact ev_true | with_reducible exact ev_none | with_reducible exact ev_str
  | ((with_reducible refine' ev_loc ?h1 ?h2 ?h3); (case h1 => assumption); (case h2 => tm_at "at"); (case h3 => rfl))
  | ((with_reducible refine' ev_attr (Cx.inK ?h1) ?h2 ?h3 ?h4 ?h5 ?h6 ?h7 ?h8); (case h1 => assumption); (case h4 => tm_at "ev"); (case h3 => tm_at "obj"); (case h2 => tm_at "cls"); (case h5 => tm_at "at"); (case h6 => rfl); (case h7 => rfl); (case h8 => rfl))
  | ((with_reducible refine' ev_bin ?h1 ?h2 ?h3); (case h1 => tm_at "ev"); (case h2 => tm_at "ev"); (case h3 => tm_at "bop"))
  | ((with_reducible refine' ev_bit ?h1 ?h2 ?h3 ?h4 ?h5 ?h6 ?h7 ?h8); (case h1 => assumption); (case h3 => tm_at "ev"); (case h4 => tm_at "ev"); (case h2 => tm_at "bitx"); (case h5 => tm_at "lt"); (case h6 => tm_at "lt"); (case h7 => tm_at "lt"); (case h8 => (intros; rfl)))
  | ((with_reducible refine' ev_un ?h1 ?h2); (case h1 => tm_at "ev"); (case h2 => exact fun _ => uo_any rfl)))
local macro_rules | `(tactic| tm_at "eb") => `(tactic| first
  | ((with_reducible refine' eb_cmp ?h1 ?h2 ?h3 ?h4); (case h1 => tm_at "ev"); (case h2 => tm_at "ev"); (case h3 => tm_at "cm"); (case h4 => rfl))
  | ((with_reducible refine' eb_bool ?h1); (case h1 => tm_at "eb"))
  | ((with_reducible refine' eb_or ?h1 ?h2); (case h1 => tm_at "eb"); (case h2 => tm_at "eb"))
  | ((with_reducible refine' eb_and ?h1 ?h2); (case h1 => tm_at "eb"); (case h2 => tm_at "eb"))
  | with_reducible exact eb_or_nil | with_reducible exact eb_and_nil
  | ((with_reducible refine' eb_not ?h1); (case h1 => tm_at "eb")))
theorem map_set {β : Type} (N i : Nat) (f : Nat → β) (v : β) : ((List.range N).map f).set i v = (List.range N).map (fupd f i v) := by
  apply List.ext_getElem
  · simp
  · intro j h1 h2
    simp only [List.getElem_set, List.getElem_map, List.getElem_range, fupd]
    by_cases e : i = j
    · subst e; simp
    · simp [e, Ne.symm e]
def Fok (h₀ : Heap) (D : List Addr) (s₀ : Shared) (F : FP) : Prop := ∀ b ∈ F.wr, h₀.get? b = none ∧ (b ∈ D ∨ s₀.heap.get? b = none)
section
variable {prog : Program} {w : World} {n : Nat} {h h₀ : Heap} {env : Env} {nm : List Str} {vals : List (Option Value)} {a : Addr} {F : FP} {t : QS} {D : List Addr} {R : Res} {s₀ s s' : Shared} {A : Around} {E : Value → Shared → Prop}
theorem bit_at {b d l N f s s' x} (X : BitAt s.heap b d l N f) (k : SX [x] s s') (hx : x ∉ [b, d, l]) : BitAt s'.heap b d l N f :=
  X.at fun y hy o e => k.hp y o (fun m => hx (List.mem_singleton.mp m ▸ hy)) e
theorem QFAt.nds (X : QFAt h a F t) : F.fl ∉ [a, F.d, F.bo, F.bod, F.bol, F.bc, F.bcd, F.bcl, F.bs, F.bsd, F.bsl] ∧ F.bol ∉ [a, F.d, F.bc, F.bcd, F.bcl, F.bs, F.bsd, F.bsl, F.fl] ∧ F.bcl ∉ [a, F.d, F.bo, F.bod, F.bol, F.bs, F.bsd, F.bsl, F.fl] ∧ F.bsl ∉ [a, F.d, F.bo, F.bod, F.bol, F.bc, F.bcd, F.bcl, F.fl] ∧ F.d ∉ [a, F.bo, F.bod, F.bol, F.bc, F.bcd, F.bcl, F.bs, F.bsd, F.bsl, F.fl] := by
  have nd := X.nd
  simp only [FP.all, List.nodup_cons, List.mem_cons, List.not_mem_nil, or_false, not_or] at nd ⊢
  simp only [eq_comm] at nd ⊢
  simp only [nd, not_false_eq_true, and_self]

theorem ob_at {b C d fn fv s s' x} (X : ObjAt s.heap b C d fn fv) (k : SX [x] s s') (h1 : x ≠ b) (h2 : x ≠ d) : ObjAt s'.heap b C d fn fv :=
  X.at (fun o e => k.hp _ o (fun m => h1 (List.mem_singleton.mp m).symm) e) (fun o e => k.hp _ o (fun m => h2 (List.mem_singleton.mp m).symm) e)
theorem ls_at {b xs s s' x} (X : Ls s.heap b xs) (k : SX [x] s s') (h1 : x ≠ b) : Ls s'.heap b xs := X.at fun o e => k.hp _ o (fun m => h1 (List.mem_singleton.mp m).symm) e
theorem QFAt.setFil {i v : Nat} (X : QFAt s.heap a F t) (k : SX [F.fl] s s') (L : Ls s'.heap F.fl (((List.range t.N).map fun i => vi (t.fil i : Int)).set i (vi (v : Int)))) : QFAt s'.heap a F { t with fil := fupd t.fil i v } := by
  have d := X.nds.1
  simp only [List.mem_cons, List.not_mem_nil, or_false, not_or] at d
  refine ⟨ob_at X.ob k d.1 d.2.1, bit_at X.bo k (by simp [d]), bit_at X.bc k (by simp [d]), bit_at X.bs k (by simp [d]), ?_, X.nd, X.q3, X.q5⟩
  rw [map_set] at L
  refine Eq.mp (congrArg (Ls s'.heap F.fl) (List.map_congr_left fun j _ => ?_)) L
  show (if j = i then _ else _) = vi (((if j = i then v else t.fil j : Nat)) : Int)
  split <;> rfl
theorem QFAt.setOcc {f} (X : QFAt s.heap a F t) (k : SX [F.bol] s s') (L : BitAt s'.heap F.bo F.bod F.bol t.N f) : QFAt s'.heap a F { t with occ := f } := by
  have d := X.nds.2.1
  simp only [List.mem_cons, List.not_mem_nil, or_false, not_or] at d
  exact ⟨ob_at X.ob k d.1 d.2.1, L, bit_at X.bc k (by simp [d]), bit_at X.bs k (by simp [d]), ls_at X.fl k (by simp [d]), X.nd, X.q3, X.q5⟩
theorem QFAt.setCon {f} (X : QFAt s.heap a F t) (k : SX [F.bcl] s s') (L : BitAt s'.heap F.bc F.bcd F.bcl t.N f) : QFAt s'.heap a F { t with con := f } := by
  have d := X.nds.2.2.1
  simp only [List.mem_cons, List.not_mem_nil, or_false, not_or] at d
  exact ⟨ob_at X.ob k d.1 d.2.1, bit_at X.bo k (by simp [d]), L, bit_at X.bs k (by simp [d]), ls_at X.fl k (by simp [d]), X.nd, X.q3, X.q5⟩
theorem QFAt.setShi {f} (X : QFAt s.heap a F t) (k : SX [F.bsl] s s') (L : BitAt s'.heap F.bs F.bsd F.bsl t.N f) : QFAt s'.heap a F { t with shi := f } := by
  have d := X.nds.2.2.2.1
  simp only [List.mem_cons, List.not_mem_nil, or_false, not_or] at d
  exact ⟨ob_at X.ob k d.1 d.2.1, bit_at X.bo k (by simp [d]), bit_at X.bc k (by simp [d]), L, ls_at X.fl k (by simp [d]), X.nd, X.q3, X.q5⟩
theorem QFAt.setCnt {c : Nat} (X : QFAt s.heap a F t) (k : SX [F.d] s s') (L : ObjAt s'.heap a QFc F.d qfNm ((qfVals t F).set 4 (vi (c : Int)))) : QFAt s'.heap a F { t with cnt := c } := by
  have d := X.nds.2.2.2.2
  simp only [List.mem_cons, List.not_mem_nil, or_false, not_or] at d
  exact ⟨L, bit_at X.bo k (by simp [d]), bit_at X.bc k (by simp [d]), bit_at X.bs k (by simp [d]), ls_at X.fl k (by simp [d]), X.nd, X.q3, X.q5⟩
/-- a step of the def's own filter -/
theorem Act.qmut {t' : QS} {x : Addr} (H : Act (KK w) h₀ env nm vals D (.qf a F t) R s₀ s) (ok : Fok h₀ D s₀ F) (hx : x ∈ F.wr) (k : SX [x] s s') (X : QFAt s'.heap a F t') : Act (KK w) h₀ env nm vals D (.qf a F t') R s₀ s' := by
  refine H.mut k (fun b hb => ?_) X fun b hb => .inl hb
  rw [List.mem_singleton.mp hb]
  refine ⟨?_, (ok x hx).1, (ok x hx).2⟩
  show x ∈ F.all a
  simp only [FP.wr, List.mem_cons, List.not_mem_nil, or_false] at hx
  rcases hx with q | q | q | q | q <;> subst q <;> simp
variable {le ie e : Expr} {pos p : Pos} {rest : List Stmt} {Q : Flow → Shared → Prop} {i : Nat}
theorem y_fil {v : Nat} (H : Act (KK w) h₀ env nm vals D (.qf a F t) R s₀ s) (ok : Fok h₀ D s₀ F) (r : Rm n A) (he : Eva prog w n s.heap (eval e env) (vi (v : Int))) (h1 : Eva prog w n s.heap (eval le env) (.ref F.fl)) (h2 : Eva prog w n s.heap (eval ie env) (vi (i : Int))) (hi : i < t.N)
    (k : ∀ s', Act (KK w) h₀ env nm vals D (.qf a F { t with fil := fupd t.fil i v }) R s₀ s' → SX [F.fl] s s' → wpAny (model prog w) A (execs rest env) Q E s') (hsw : swapsWith e (some (.Subscript le ie p)) pos.line env = Pure.pure false := by rfl) :
    wpAny (model prog w) A (execs (.Assign [.Subscript le ie p] e pos :: rest) env) Q E s := by
  have X : QFAt s.heap a F t := H.own
  have hN := X.N8
  refine wpAny_execs_cons (x_setlist H r he h1 h2 X.fl (by omega) (by omega) (by rw [List.length_map, List.length_range]; omega) (fun s' x L => ?_) hsw)
  exact k s' (H.qmut ok (by simp [FP.wr]) x (X.setFil x (by rw [Int.toNat_natCast] at L; exact L))) x
theorem y_occ {v : Bool} (H : Act (KK w) h₀ env nm vals D (.qf a F t) R s₀ s) (ok : Fok h₀ D s₀ F) (r : Rm n A) (he : Eva prog w n s.heap (eval e env) (vi (if v = true then 1 else 0))) (h1 : Eva prog w n s.heap (eval le env) (.ref F.bo)) (h2 : Eva prog w n s.heap (eval ie env) (vi (i : Int))) (hi : i < t.N) (hn : 1 ≤ n)
    (k : ∀ s', Act (KK w) h₀ env nm vals D (.qf a F { t with occ := fupd t.occ i v }) R s₀ s' → SX [F.bol] s s' → wpAny (model prog w) A (execs rest env) Q E s') (hsw : swapsWith e (some (.Subscript le ie p)) pos.line env = Pure.pure false := by rfl) :
    wpAny (model prog w) A (execs (.Assign [.Subscript le ie p] e pos :: rest) env) Q E s := by
  have X : QFAt s.heap a F t := H.own
  have hN := X.N8
  exact wpAny_execs_cons (x_setbit H r X.bo he h1 h2 (ok _ (by simp [FP.wr])).1 hi (by omega) hn (fun s' x L => k s' (H.qmut ok (by simp [FP.wr]) x (X.setOcc x L)) x) hsw)
theorem y_con {v : Bool} (H : Act (KK w) h₀ env nm vals D (.qf a F t) R s₀ s) (ok : Fok h₀ D s₀ F) (r : Rm n A) (he : Eva prog w n s.heap (eval e env) (vi (if v = true then 1 else 0))) (h1 : Eva prog w n s.heap (eval le env) (.ref F.bc)) (h2 : Eva prog w n s.heap (eval ie env) (vi (i : Int))) (hi : i < t.N) (hn : 1 ≤ n)
    (k : ∀ s', Act (KK w) h₀ env nm vals D (.qf a F { t with con := fupd t.con i v }) R s₀ s' → SX [F.bcl] s s' → wpAny (model prog w) A (execs rest env) Q E s') (hsw : swapsWith e (some (.Subscript le ie p)) pos.line env = Pure.pure false := by rfl) :
    wpAny (model prog w) A (execs (.Assign [.Subscript le ie p] e pos :: rest) env) Q E s := by
  have X : QFAt s.heap a F t := H.own
  have hN := X.N8
  exact wpAny_execs_cons (x_setbit H r X.bc he h1 h2 (ok _ (by simp [FP.wr])).1 hi (by omega) hn (fun s' x L => k s' (H.qmut ok (by simp [FP.wr]) x (X.setCon x L)) x) hsw)
theorem y_shi {v : Bool} (H : Act (KK w) h₀ env nm vals D (.qf a F t) R s₀ s) (ok : Fok h₀ D s₀ F) (r : Rm n A) (he : Eva prog w n s.heap (eval e env) (vi (if v = true then 1 else 0))) (h1 : Eva prog w n s.heap (eval le env) (.ref F.bs)) (h2 : Eva prog w n s.heap (eval ie env) (vi (i : Int))) (hi : i < t.N) (hn : 1 ≤ n)
    (k : ∀ s', Act (KK w) h₀ env nm vals D (.qf a F { t with shi := fupd t.shi i v }) R s₀ s' → SX [F.bsl] s s' → wpAny (model prog w) A (execs rest env) Q E s') (hsw : swapsWith e (some (.Subscript le ie p)) pos.line env = Pure.pure false := by rfl) :
    wpAny (model prog w) A (execs (.Assign [.Subscript le ie p] e pos :: rest) env) Q E s := by
  have X : QFAt s.heap a F t := H.own
  have hN := X.N8
  exact wpAny_execs_cons (x_setbit H r X.bs he h1 h2 (ok _ (by simp [FP.wr])).1 hi (by omega) hn (fun s' x L => k s' (H.qmut ok (by simp [FP.wr]) x (X.setShi x L)) x) hsw)

theorem ite_vi (c : Bool) : (if c = true then vi 1 else vi 0) = vi (if c = true then 1 else 0) := by cases c <;> rfl
theorem cmp_ne (a b : Nat) : cmpI .NotEq (a : Int) (b : Int) = decide (a ≠ b) := by
  show (!((a : Int) == (b : Int))) = _
  rw [bq_nat, decide_not]
theorem ev_ne {x y : Expr} {pa pb pc pe : Pos} {k1 k2 : Nat} {i j : Nat} (C : Cx (KK w) h₀ env nm vals h) (h1 : Eva prog w n h (eval x env) (vi (i : Int))) (h2 : Eva prog w n h (eval y env) (vi (j : Int))) (hb : behindInMarks .NotEq y = false := by rfl) :
    Eva prog w n h (eval (.IfExp (.Compare x [.NotEq] [y] pa) (.Constant (.int 1) k1 pb) (.Constant (.int 0) k2 pc) pe) env) (vi (if decide (i ≠ j) = true then 1 else 0)) :=
  (ite_vi _) ▸ ev_if (EvB.cast (eb_cmp h1 h2 (fun _ _ => co_any rfl) hb) (cmp_ne i j)) ev_int ev_int
theorem ev_one {k : Nat} {pos : Pos} : Eva prog w n h (eval (.Constant (.int 1) k pos) env) (vi (if true = true then 1 else 0)) := ev_int
theorem m6 {args : List Value} {x y z u v u'} (h : args.map er = [x, y, z, u, v, u']) : ∃ a b c d e f, args = [a, b, c, d, e, f] ∧ er a = x ∧ er b = y ∧ er c = z ∧ er d = u ∧ er e = v ∧ er f = u' := by
  match args, h with
  | [a, b, c, d, e, f], h => simp only [List.map_cons, List.map_nil, List.cons.injEq, and_true] at h; exact ⟨a, b, c, d, e, f, rfl, h⟩
theorem mth_sins (w : World) : Mth (KK w) QFc qfNm "_shift_insert" 359 := .of (by kernel_rfl) (by kernel_rfl) (by kernel_rfl) (by decide +kernel)
theorem q_sins (B : Bas (KK w) h₀) {args : List Value} {q r' orig ins : Nat} {flag : Bool} {t' : QS} (gb : Gr h₀ s.heap) (X : QFAt s.heap a F t) (hB : ∀ b ∈ F.wr, h₀.get? b = none) (hq : q < t.N) (hins : ins < t.N) (hs : t.sins q r' orig ins flag = some t')
    (ha : args.map er = [.ref a, vi (q : Int), vi (r' : Int), vi (orig : Int), vi (ins : Int), vi (if flag = true then 1 else 0)]) (hn : 6 ≤ n) :
    MutP prog w n 359 args s F.wr (fun v s' => v = .none ∧ QFAt s'.heap a F t') := by
  obtain ⟨n, rfl⟩ : ∃ m, n = m + 1 := ⟨n - 1, by omega⟩
  obtain ⟨a1, a2, a3, a4, a5, a6, rfl, h1, h2, h3, h4, h5, h6⟩ := m6 ha
  refine mut_enter (k := 3) (nm := ["self", "q", "r", "orig_idx", "insert_idx", "flag", "next_idx", "was_empty", "temp"]) (args2 := [a1, a2, a3, a4, a5, a6]) (avs2 := [.ref a, vi (q : Int), vi (r' : Int), vi (orig : Int), vi (ins : Int), vi (if flag = true then 1 else 0)]) (ρ := .qf a F t)
    B gb X (by rfl) rfl (by kernel_rfl) (.of_eq rfl) (by simp [h1, h2, h3, h4, h5, h6]) (by decide +kernel) (by decide +kernel) (by decide +kernel) ?_
  intro env s1 hs' H A Q r q1 q2
  clear hs'
  have ok : Fok h₀ F.wr s F := fun b hb => ⟨hB b hb, .inl hb⟩
  have C := H.cx
  have X1 : QFAt s1.heap a F t := H.own
  have hN := X.N8
  unfold QS.sins at hs
  refine y_if (c := t.emp ins) H r (eb_val (ev_qemp C X1 (by tm_at "ev") (by tm_at "ev") hins (by omega))) (fun he s1 H1 _ => ?_) fun he s1 H1 _ => ?_
  · rw [if_pos he] at hs
    cases hs
    have C := H1.cx
    have X1 : QFAt s1.heap a F t := H1.own
    refine y_fil (i := ins) (v := r') H1 ok r (by tm_at "ev") (by tm_at "ev") (by tm_at "ev") hins fun s2 H2 _ => ?_
    have C := H2.cx
    have X2 : QFAt s2.heap a F _ := H2.own
    refine y_occ (i := q) (v := true) H2 ok r ev_one (by tm_at "ev") (by tm_at "ev") hq (by omega) fun s3 H3 _ => ?_
    have C := H3.cx
    have X3 : QFAt s3.heap a F _ := H3.own
    refine y_con (i := ins) H3 ok r (ev_ne C (by tm_at "ev") (by tm_at "ev")) (by tm_at "ev") (by tm_at "ev") hins (by omega) fun s4 H4 _ => ?_
    have C := H4.cx
    have X4 : QFAt s4.heap a F _ := H4.own
    refine y_shi (i := ins) H4 ok r (ev_ne C (by tm_at "ev") (by tm_at "ev")) (by tm_at "ev") (by tm_at "ev") hins (by omega) fun s5 H5 _ => ?_
    exact wpAny_execs_nil (wpAny_execs_nil (q2 _ ⟨rfl, H5.own⟩ H5.sx))
  · rw [if_neg (by rw [he]; decide)] at hs
    obtain ⟨t2, hl, hs⟩ := Option.map_eq_some_iff.mp hs
    have C := H1.cx
    have X1 : QFAt s1.heap a F t := H1.own
    refine y_assign (v := vi (t.nx ins : Int)) H1 r (Eva.cast (by tm_at "ev") (congrArg vi (ar_nx t ins))) (by tm_at "at") fun s2 H2 _ => ?_
    clear X1 C H1 X
    refine wpAny_execs_cons (x_while (n := n) (fun m ρ vals => ∃ (t1 : QS) (nx : Nat) (u1 u2 : Option Value), vals = [some (.ref a), some (vi (q : Int)), some (vi (r' : Int)), some (vi (orig : Int)), some (vi (ins : Int)), some (vi (if flag = true then 1 else 0)), some (vi (nx : Int)), u1, u2] ∧ ρ = .qf a F t1 ∧ nx < t.N ∧ t1.q = t.q ∧ QS.sloop ins m t1 nx = some t2) H2 r ⟨t, _, _, _, rfl, rfl, t.nx_lt _, rfl, hl⟩ ?_)
    clear hl he H2 H
    rintro m ρ vals s4 ⟨t1, nx, u1, u2, rfl, rfl, hnx, hq1, hl⟩ H4
    have hN1 : t1.N = t.N := by unfold QS.N; rw [hq1]
    have hnx1 : nx < t1.N := by omega
    have hins1 : ins < t1.N := by omega
    have hqq1 : q < t1.N := by omega
    have hnn1 : t.nx ins < t1.N := by rw [hN1]; exact t.nx_lt ins
    obtain ⟨m, rfl⟩ : ∃ f, m = f + 1 := by cases m with | zero => simp [QS.sloop] at hl | succ f => exact ⟨f, rfl⟩
    simp only [QS.sloop] at hl
    refine ⟨true, eb_wt, (fun q => nomatch q), fun _ s5 H5 => ?_⟩
    have X5 : QFAt s5.heap a F t1 := H5.own
    have C := H5.cx
    refine y_assign (v := .bool (t1.emp nx)) H5 r (ev_qemp C X5 (by tm_at "ev") (by tm_at "ev") (by omega) (by omega)) (by tm_at "at") fun s6 H6 _ => ?_
    have X6 : QFAt s6.heap a F t1 := H6.own
    have C := H6.cx
    refine y_assign (v := vi (if t1.con nx = true then 1 else 0)) H6 r (by tm_at "ev") (by tm_at "at") fun s7 H7 _ => ?_
    have X7 : QFAt s7.heap a F t1 := H7.own
    have C := H7.cx
    refine y_con (i := nx) (v := t1.con ins) H7 ok r (by tm_at "ev") (by tm_at "ev") (by tm_at "ev") (by tm_at "lt") (by omega) fun s8 H8 _ => ?_
    have X8 : QFAt s8.heap a F _ := H8.own
    have C := H8.cx
    refine y_con (i := ins) (v := t1.con nx) H8 ok r (by tm_at "ev") (by tm_at "ev") (by tm_at "ev") (by tm_at "lt") (by omega) fun s9 H9 _ => ?_
    have X9 : QFAt s9.heap a F _ := H9.own
    have C := H9.cx
    refine y_shi (i := nx) (v := true) H9 ok r ev_one (by tm_at "ev") (by tm_at "ev") (by tm_at "lt") (by omega) fun s10 H10 _ => ?_
    have X10 : QFAt s10.heap a F _ := H10.own
    have C := H10.cx
    refine y_assign (v := vi (t1.fil nx : Int)) H10 r (Eva.cast (ev_fil X10 (by tm_at "ev") (by tm_at "ev") (by tm_at "lt")) rfl) (by tm_at "at") fun s11 H11 _ => ?_
    have X11 : QFAt s11.heap a F _ := H11.own
    have C := H11.cx
    refine y_fil (i := nx) (v := t1.fil ins) H11 ok r (Eva.cast (ev_fil X11 (by tm_at "ev") (by tm_at "ev") (by tm_at "lt")) rfl) (by tm_at "ev") (by tm_at "ev") (by tm_at "lt") fun s12 H12 _ => ?_
    have X12 : QFAt s12.heap a F _ := H12.own
    have C := H12.cx
    refine y_fil (i := ins) (v := t1.fil nx) H12 ok r (by tm_at "ev") (by tm_at "ev") (by tm_at "ev") (by tm_at "lt") fun s13 H13 _ => ?_
    have X13 : QFAt s13.heap a F _ := H13.own
    have C := H13.cx
    refine y_if (c := t1.emp nx) H13 r (eb_val (by tm_at "ev")) (fun he s14 H14 _ => ?_) fun he s14 H14 _ => ?_
    · rw [if_pos he] at hl
      cases hl
      refine wpAny_execs_cons (wpAny_Break ?_)
      show wpAny _ _ (execs _ _) _ _ _
      have C := H14.cx
      have X1 : QFAt s14.heap a F _ := H14.own
      refine y_fil (i := ins) (v := r') H14 ok r (by tm_at "ev") (by tm_at "ev") (by tm_at "ev") (by tm_at "lt") fun s2 H2 _ => ?_
      have C := H2.cx
      have X2 : QFAt s2.heap a F _ := H2.own
      refine y_occ (i := q) (v := true) H2 ok r ev_one (by tm_at "ev") (by tm_at "ev") (by tm_at "lt") (by omega) fun s3 H3 _ => ?_
      have C := H3.cx
      have X3 : QFAt s3.heap a F _ := H3.own
      refine y_con (i := ins) H3 ok r (ev_ne C (by tm_at "ev") (by tm_at "ev")) (by tm_at "ev") (by tm_at "ev") (by tm_at "lt") (by omega) fun s4 H4 _ => ?_
      have C := H4.cx
      have X4 : QFAt s4.heap a F _ := H4.own
      refine y_shi (i := ins) H4 ok r (ev_ne C (by tm_at "ev") (by tm_at "ev")) (by tm_at "ev") (by tm_at "ev") (by tm_at "lt") (by omega) fun s5 H5 _ => ?_
      have C := H5.cx
      have X5 : QFAt s5.heap a F _ := H5.own
      refine y_if (c := flag) H5 r (EvB.cast (by tm_at "eb") (bit1 _)) (fun hf s6 H6 _ => ?_) fun hf s6 H6 _ => ?_
      · rw [if_pos hf] at hs
        have C := H6.cx
        have X6 : QFAt s6.heap a F _ := H6.own
        refine y_con (i := t.nx ins) (v := true) H6 ok r ev_one (by tm_at "ev") (Eva.cast (by tm_at "ev") (congrArg vi ?_)) hnn1 (by omega) fun s7 H7 _ => ?_
        · rw [← ar_nx t ins]; unfold QS.N; rw [hq1]
        refine wpAny_execs_nil (wpAny_execs_nil (wpAny_execs_nil (q2 _ ⟨rfl, ?_⟩ H7.sx)))
        rw [← hs]
        have e : (QS.put (t1.sstep ins nx) q r' orig ins).nx ins = t.nx ins := by unfold QS.nx QS.N; show (ins + 1) % 2 ^ t1.q = _; rw [hq1]
        rw [e]
        exact H7.own
      · rw [if_neg (by rw [hf]; decide)] at hs
        refine wpAny_execs_nil (wpAny_execs_nil (wpAny_execs_nil (q2 _ ⟨rfl, ?_⟩ H6.sx)))
        rw [← hs]
        exact H6.own
    · rw [if_neg (by rw [he]; decide)] at hl
      refine wpAny_execs_nil ?_
      show wpAny _ _ (execs _ _) _ _ _
      have C := H14.cx
      have X14 : QFAt s14.heap a F _ := H14.own
      have e : t1.nx nx = t.nx nx := by unfold QS.nx QS.N; rw [hq1]
      rw [e] at hl
      refine y_assign (v := vi (t.nx nx : Int)) H14 r (Eva.cast (by tm_at "ev") (congrArg vi ?_)) (by tm_at "at") fun s15 H15 _ => wpAny_execs_nil ?_
      · rw [← ar_nx t nx]; unfold QS.N; rw [hq1]
      exact ⟨.qf a F (t1.sstep ins nx), _, ⟨m, Nat.lt_succ_self _, t1.sstep ins nx, t.nx nx, _, _, rfl, rfl, t.nx_lt _, hq1, hl⟩, H15⟩
end
end Mine
end
section
open PySem PySem.W PyProof.Rows PySem.Calls
set_option Elab.async false
set_option maxRecDepth 100000
set_option maxHeartbeats 4000000
set_option linter.unusedVariables false
set_option pp.deepTerms false
set_option pp.maxSteps 700
namespace Mine
local macro_rules | `(tactic| tm_at "at") => `(tactic| with_reducible (repeat (first | exact At.head | apply At.tail)))
local macro_rules | `(tactic| tm_at "ok") => `(tactic| first | trivial | assumption | (simp only [okI]; omega) | (simp only [okI]; mul_fits))
local macro_rules | `(tactic| tm_at "bop") => `(tactic| exact fun _ _ => bo_any (by tm_at "ok"))
local macro_rules | `(tactic| tm_at "cm") => `(tactic| exact fun _ _ => co_any rfl)
local macro_rules | `(tactic| tm_at "obj") => `(tactic| first | exact QFAt.ob (by assumption) | assumption)
local macro_rules | `(tactic| tm_at "cls") => `(tactic| first | exact cls_qf _ | exact cls_bit _)
local macro_rules | `(tactic| tm_at "lt") => `(tactic| first | assumption | omega)
local macro_rules | `(tactic| tm_at "bitx") => `(tactic| first | exact QFAt.bo (by assumption) | exact QFAt.bc (by assumption) | exact QFAt.bs (by assumption))
local macro_rules | `(tactic| tm_at "ev") => `(tactic| first
  | with_reducible exact ev_int | with_reducible exact ev_true | with_reducible exact ev_none | with_reducible exact ev_str
  | ((with_reducible refine' ev_loc ?h1 ?h2 ?h3); (case h1 => assumption); (case h2 => tm_at "at"); (case h3 => rfl))
  | ((with_reducible refine' ev_attr (Cx.inK ?h1) ?h2 ?h3 ?h4 ?h5 ?h6 ?h7 ?h8); (case h1 => assumption); (case h4 => tm_at "ev"); (case h3 => tm_at "obj"); (case h2 => tm_at "cls"); (case h5 => tm_at "at"); (case h6 => rfl); (case h7 => rfl); (case h8 => rfl))
  | ((with_reducible refine' ev_bin ?h1 ?h2 ?h3); (case h1 => tm_at "ev"); (case h2 => tm_at "ev"); (case h3 => tm_at "bop"))
  | ((with_reducible refine' ev_bit ?h1 ?h2 ?h3 ?h4 ?h5 ?h6 ?h7 ?h8); (case h1 => assumption); (case h3 => tm_at "ev"); (case h4 => tm_at "ev"); (case h2 => tm_at "bitx"); (case h5 => tm_at "lt"); (case h6 => tm_at "lt"); (case h7 => tm_at "lt"); (case h8 => (intros; rfl)))
  | ((with_reducible refine' ev_un ?h1 ?h2); (case h1 => tm_at "ev"); (case h2 => exact fun _ => uo_any rfl)))
local macro_rules | `(tactic| tm_at "eb") => `(tactic| first
  | ((with_reducible refine' eb_cmp ?h1 ?h2 ?h3 ?h4); (case h1 => tm_at "ev"); (case h2 => tm_at "ev"); (case h3 => tm_at "cm"); (case h4 => rfl))
  | ((with_reducible refine' eb_bool ?h1); (case h1 => tm_at "eb"))
  | ((with_reducible refine' eb_or ?h1 ?h2); (case h1 => tm_at "eb"); (case h2 => tm_at "eb"))
  | ((with_reducible refine' eb_and ?h1 ?h2); (case h1 => tm_at "eb"); (case h2 => tm_at "eb"))
  | with_reducible exact eb_or_nil | with_reducible exact eb_and_nil
  | ((with_reducible refine' eb_not ?h1); (case h1 => tm_at "eb")))
section
variable {prog : Program} {w : World} {n : Nat} {h h₀ : Heap} {env : Env} {nm : List Str} {vals : List (Option Value)} {a : Addr} {F : FP} {t t' : QS} {D : List Addr} {R ρ : Res} {s₀ s s' : Shared} {A : Around} {E : Value → Shared → Prop}
theorem FE.inter {env : Env} {nm} (F : FE env nm) : interactive env = false := by unfold interactive; rw [F.kind]; rfl
/-- a step of the def's own filter, by a call -/
theorem Act.qmuts (H : Act (KK w) h₀ env nm vals D (.qf a F t) R s₀ s) (ok : Fok h₀ D s₀ F) (k : SX F.wr s s') (X : QFAt s'.heap a F t') : Act (KK w) h₀ env nm vals D (.qf a F t') R s₀ s' := by
  refine H.mut k (fun b hb => ?_) X fun b hb => .inl hb
  refine ⟨?_, (ok b hb).1, (ok b hb).2⟩
  show b ∈ F.all a
  simp only [FP.wr, List.mem_cons, List.not_mem_nil, or_false] at hb
  rcases hb with q | q | q | q | q <;> subst q <;> simp
variable {rest : List Stmt} {Q : Flow → Shared → Prop} {o : Expr} {name : Str} {apos pos p2 : Pos} {args : List Expr} {avs : List Value} {f : Addr} {pl : Sem Bool}
/-- a statement that calls a method of an object of the text -/
theorem y_callq {C d a2 : Addr} {fn : List Str} {fv : List Value} (H : Act (KK w) h₀ env nm vals D ρ R s₀ s) (r : Rm n A) (Cl : Cls (KK w) C fn) (O : ObjAt s.heap a2 C d fn fv) (Me : Mth (KK w) C fn name f) (h1 : Eva prog w n s.heap (eval o env) (.ref a2)) (ha : EvL prog w n s.heap pos env args avs)
    (hc : ∀ vs' s', vs'.map er = avs → SX [] s s' → wpAny (model prog w) A (call (.ref f) (.ref a2 :: vs')) (fun _ s'' => wpAny (model prog w) A (execs rest env) Q E s'') E s')
    (hplain : (backTo pos (starEach args env)).any (·.1) = false := by rfl) (h0 : args ≠ [] ∨ avs = [] := by first | exact .inr rfl | exact .inl (by nofun))
    (he : eval (.Call (.Attribute o name apos) args [] pos) env = (do
      let ov ← eval o env
      standAt apos.atName
      let (f, first) ← holding [ov] (getMethod ov name pl)
      callWith pos f first (backTo pos (starEach args env)) []) := by rfl) (hsw : swapsWith (.Call (.Attribute o name apos) args [] pos) none p2.line env = Pure.pure false := by rfl) :
    wpAny (model prog w) A (execs (.Expr (.Call (.Attribute o name apos) args [] pos) p2 :: rest) env) Q E s :=
  wpAny_execs_cons (wpAny_Expr_any (wp_mcall H.cx.inK Cl O Me r (Gr.refl _) h1 ha hc hplain h0 he) H.cx.F.inter hsw)
def f3 (t : QS) (i : Nat) : Int := (if t.occ i = true then 1 else 0) + (if t.con i = true then 1 else 0) + (if t.shi i = true then 1 else 0)
theorem f3_ne (t : QS) (i : Nat) : cmpI .NotEq (f3 t i) 0 = !(t.emp i) := by
  unfold f3 QS.emp
  cases t.occ i <;> cases t.con i <;> cases t.shi i <;> rfl
theorem mth_add_ (w : World) : Mth (KK w) QFc qfNm "_add" 373 := .of (by kernel_rfl) (by kernel_rfl) (by kernel_rfl) (by decide +kernel)
theorem q_add (B : Bas (KK w) h₀) {args : List Value} {q r' : Nat} (gb : Gr h₀ s.heap) (X : QFAt s.heap a F t) (hB : ∀ b ∈ F.wr, h₀.get? b = none) (hq : q < t.N) (hs : t.add q r' = some t')
    (ha : args.map er = [.ref a, vi (q : Int), vi (r' : Int)]) (hn : 8 ≤ n) :
    MutP prog w n 373 args s F.wr (fun v s' => v = .none ∧ QFAt s'.heap a F t') := by
  obtain ⟨n, rfl⟩ : ∃ m, n = m + 1 := ⟨n - 1, by omega⟩
  obtain ⟨a1, a2, a3, rfl, h1, h2, h3⟩ := m3 ha
  refine mut_enter (k := 4) (nm := ["self", "q", "r", "start_idx", "orig_start_idx", "starts", "f"]) (args2 := [a1, a2, a3]) (avs2 := [.ref a, vi (q : Int), vi (r' : Int)]) (ρ := .qf a F t)
    B gb X (by rfl) rfl (by kernel_rfl) (.of_eq rfl) (by simp [h1, h2, h3]) (by decide +kernel) (by decide +kernel) (by decide +kernel) ?_
  intro env s1 hs' H A Q r q1 q2
  clear hs'
  have ok : Fok h₀ F.wr s F := fun b hb => ⟨hB b hb, .inl hb⟩
  have C := H.cx
  have X1 : QFAt s1.heap a F t := H.own
  have hN := X.N8
  unfold QS.add at hs
  refine y_if (c := decide (t.N = t.cnt)) H r (EvB.cast (by tm_at "eb") (bq_nat _ _)) (fun he _ _ _ => ?_) fun he s1 H1 _ => ?_
  · rw [if_pos (of_decide_eq_true he).symm] at hs; cases hs
  rw [if_neg (fun e => of_decide_eq_false he e.symm)] at hs
  obtain ⟨t1, hs1, ht⟩ := Option.map_eq_some_iff.mp hs
  clear hs
  subst ht
  have hs := hs1
  clear hs1
  refine wpAny_execs_nil ?_
  show wpAny _ _ (execs _ _) _ _ _
  suffices key : ∀ s2 vals2, vals2[0]? = some (some (.ref a)) → Act (KK w) h₀ env ["self", "q", "r", "start_idx", "orig_start_idx", "starts", "f"] vals2 F.wr (.qf a F t1) .emp s s2 → wpAny (model prog w) A _ _ _ s2 by
    have C := H1.cx
    have X1 : QFAt s1.heap a F t := H1.own
    refine y_if (c := t.emp q) H1 r (eb_val (ev_qemp C X1 (by tm_at "ev") (by tm_at "ev") hq (by omega))) (fun he s1 H1 _ => ?_) fun he s1 H1 _ => ?_
    · rw [if_pos he] at hs
      cases hs
      have C := H1.cx
      have X1 : QFAt s1.heap a F t := H1.own
      refine y_fil (i := q) (v := r') H1 ok r (by tm_at "ev") (by tm_at "ev") (by tm_at "ev") hq fun s2 H2 _ => ?_
      have C := H2.cx
      have X2 : QFAt s2.heap a F _ := H2.own
      refine y_occ (i := q) (v := true) H2 ok r ev_one (by tm_at "ev") (by tm_at "ev") hq (by omega) fun s3 H3 _ => ?_
      exact wpAny_execs_nil (key s3 _ (by rfl) H3)
    · rw [if_neg (by rw [he]; decide)] at hs
      obtain ⟨j0, hst, hs⟩ := Option.bind_eq_some_iff.mp hs
      have hj0 := t.start_lt hq hst
      have C := H1.cx
      have X1 : QFAt s1.heap a F t := H1.own
      refine y_assign (v := vi (j0 : Int)) H1 r (ev_qstart C X1 (by tm_at "ev") (by tm_at "ev") hq hst (by omega)) (by tm_at "at") fun s2 H2 _ => ?_
      have C := H2.cx
      have X2 : QFAt s2.heap a F t := H2.own
      refine y_if (c := !(t.occ q)) H2 r (EvB.cast (by tm_at "eb") (bit0 _)) (fun he s3 H3 _ => ?_) fun he s3 H3 _ => ?_
      · rw [if_pos (by simpa using he)] at hs
        have C := H3.cx
        have X3 : QFAt s3.heap a F t := H3.own
        refine y_callq H3 r (cls_qf w) X3.ob (mth_sins w) (by tm_at "ev") (el_cons (by tm_at "ev") (el_cons (by tm_at "ev") (el_cons (by tm_at "ev") (el_cons (by tm_at "ev") (el_cons (by tm_at "ev") el_nil))))) fun vs' s4 hv x4 => ?_
        refine (q_sins B (C.gb.trans x4.gr) (X3.gr x4.gr) hB hq hj0 hs (flag := false) (by rw [List.map_cons, hv]; rfl) (by omega)).call r fun v s5 p x5 => ?_
        exact wpAny_execs_nil (wpAny_execs_nil (key s5 _ (by rfl) ((H3.pure x4).qmuts ok x5 p.2)))
      · rw [if_neg (by simpa using he)] at hs
        obtain ⟨⟨j1, st1⟩, hsk, hs⟩ := Option.bind_eq_some_iff.mp hs
        have C := H3.cx
        have X3 : QFAt s3.heap a F t := H3.own
        refine y_assign (v := vi (j0 : Int)) H3 r (by tm_at "ev") (by tm_at "at") fun s4 H4 _ => ?_
        have C := H4.cx
        refine y_assign (v := vi 0) H4 r (by tm_at "ev") (by tm_at "at") fun s5 H5 _ => ?_
        have C := H5.cx
        have X5 : QFAt s5.heap a F t := H5.own
        have chk : ∀ {x : Expr} {h' : Heap} {vv}, Cx (KK w) h₀ env ["self", "q", "r", "start_idx", "orig_start_idx", "starts", "f"] vv h' → True := fun _ => trivial
        refine y_assign (v := vi (f3 t j0)) H5 r (Eva.cast (ev_bin (ev_bin (ev_chk C X5.bo (by tm_at "ev") (by tm_at "ev") hj0 (by omega) (by omega)) (ev_chk C X5.bc (by tm_at "ev") (by tm_at "ev") hj0 (by omega) (by omega)) (by tm_at "bop")) (ev_chk C X5.bs (by tm_at "ev") (by tm_at "ev") hj0 (by omega) (by omega)) (by tm_at "bop")) rfl) (by tm_at "at") fun s6 H6 _ => ?_
        refine wpAny_execs_cons (x_while (n := n) (fun m ρ vals => ∃ (j st : Nat), vals = [some (.ref a), some (vi (q : Int)), some (vi (r' : Int)), some (vi (j : Int)), some (vi (j0 : Int)), some (vi (st : Int)), some (vi (f3 t j))] ∧ ρ = .qf a F t ∧ j < t.N ∧ t.seek r' m j st = some (j1, st1)) H6 r ⟨_, 0, rfl, rfl, hj0, hsk⟩ ?_)
        clear hsk
        rintro m ρ vals s7 ⟨j, st, rfl, rfl, hj, hsk⟩ H7
        obtain ⟨m, rfl⟩ : ∃ f, m = f + 1 := by cases m with | zero => simp [QS.seek] at hsk | succ f => exact ⟨f, rfl⟩
        simp only [QS.seek] at hsk
        have C := H7.cx
        have X7 : QFAt s7.heap a F t := H7.own
        refine ⟨decide (st = 0 ∧ t.emp j = false ∧ t.fil j < r'), EvB.cast (eb_bool (eb_and (by tm_at "eb") (eb_and (by tm_at "eb") (eb_and (eb_cmp (by tm_at "ev") (ev_fil X7 (by tm_at "ev") (by tm_at "ev") hj) (by tm_at "cm")) eb_and_nil)))) ?_, fun he s8 H8 => ?_, fun he s8 H8 => ?_⟩
        · rw [f3_ne, show cmpI .Eq (st : Int) 0 = decide (st = 0) from bq_nat st 0, show cmpI .Gt (r' : Int) (t.fil j : Int) = decide (t.fil j < r') from (by show decide _ = _; simp), Bool.and_true, Bool.decide_and, Bool.decide_and]
          cases t.emp j <;> rfl
        · rw [if_neg (of_decide_eq_false he)] at hsk
          cases hsk
          show wpAny _ _ (execs _ _) _ _ _
          have C := H8.cx
          have X8 : QFAt s8.heap a F t := H8.own
          refine y_if (c := decide (st1 = 1)) H8 r (EvB.cast (by tm_at "eb") (bq_nat _ _)) (fun he s9 H9 _ => ?_) fun he s9 H9 _ => ?_
          · have C := H9.cx
            have X9 : QFAt s9.heap a F t := H9.own
            have e0 : decide (st1 ≠ 1) = false := by rw [decide_not, he]; rfl
            simp only [e0] at hs
            refine y_callq H9 r (cls_qf w) X9.ob (mth_sins w) (by tm_at "ev") (el_cons (by tm_at "ev") (el_cons (by tm_at "ev") (el_cons (by tm_at "ev") (el_cons (by tm_at "ev") (el_cons (by tm_at "ev") el_nil))))) fun vs' s4 hv x4 => ?_
            refine (q_sins B (C.gb.trans x4.gr) (X9.gr x4.gr) hB hq hj hs (flag := false) (by rw [List.map_cons, hv]; rfl) (by omega)).call r fun v s5 p x5 => ?_
            exact wpAny_execs_nil (wpAny_execs_nil (wpAny_execs_nil (key s5 _ (by rfl) ((H9.pure x4).qmuts ok x5 p.2))))
          · have C := H9.cx
            have X9 : QFAt s9.heap a F t := H9.own
            have e0 : decide (st1 ≠ 1) = true := by rw [decide_not, he]; rfl
            simp only [e0] at hs
            refine y_callq H9 r (cls_qf w) X9.ob (mth_sins w) (by tm_at "ev") (el_cons (by tm_at "ev") (el_cons (by tm_at "ev") (el_cons (by tm_at "ev") (el_cons (by tm_at "ev") (el_cons (by tm_at "ev") el_nil))))) fun vs' s4 hv x4 => ?_
            refine (q_sins B (C.gb.trans x4.gr) (X9.gr x4.gr) hB hq hj hs (flag := true) (by rw [List.map_cons, hv]; rfl) (by omega)).call r fun v s5 p x5 => ?_
            exact wpAny_execs_nil (wpAny_execs_nil (wpAny_execs_nil (key s5 _ (by rfl) ((H9.pure x4).qmuts ok x5 p.2))))
        · rw [if_pos (of_decide_eq_true he)] at hsk
          have C := H8.cx
          have hj2 := t.nx_lt j
          refine y_assign (v := vi (t.nx j : Int)) H8 r (Eva.cast (by have X8 : QFAt s8.heap a F t := H8.own; tm_at "ev") (congrArg vi (ar_nx t j))) (by tm_at "at") fun s9 H9 _ => ?_
          have C := H9.cx
          have X9 : QFAt s9.heap a F t := H9.own
          suffices key2 : ∀ (st' : Nat) s6, st' = (if t.con (t.nx j) = true then st else st + 1) → Act (KK w) h₀ env ["self", "q", "r", "start_idx", "orig_start_idx", "starts", "f"] [some (.ref a), some (vi (q : Int)), some (vi (r' : Int)), some (vi (t.nx j : Int)), some (vi (j0 : Int)), some (vi (st' : Int)), some (vi (f3 t j))] F.wr (.qf a F t) .emp s s6 → wpAny (model prog w) A _ _ _ s6 by
            refine y_if (c := !(t.con (t.nx j))) H9 r (EvB.cast (by tm_at "eb") (bit0 _)) (fun hc s6 H6 _ => ?_) fun hc s6 H6 _ => ?_
            · have C := H6.cx
              refine wpAny_execs_cons (x_aug H6 r (by tm_at "at") rfl (by tm_at "ev") (fun _ _ => io_add) fun s7 H7 _ => wpAny_execs_nil ?_)
              exact key2 (st + 1) _ (by rw [if_neg (by simpa using hc)]) (H7.eqv (by simp))
            · exact wpAny_execs_nil (key2 _ _ (by rw [if_pos (by simpa using hc)]) H6)
          intro st' s6 hst' H6
          rw [← hst'] at hsk
          have C := H6.cx
          have X6 : QFAt s6.heap a F t := H6.own
          refine y_assign (v := vi (f3 t (t.nx j))) H6 r (Eva.cast (ev_bin (ev_bin (ev_chk C X6.bo (by tm_at "ev") (by tm_at "ev") hj2 (by omega) (by omega)) (ev_chk C X6.bc (by tm_at "ev") (by tm_at "ev") hj2 (by omega) (by omega)) (by tm_at "bop")) (ev_chk C X6.bs (by tm_at "ev") (by tm_at "ev") hj2 (by omega) (by omega)) (by tm_at "bop")) rfl) (by tm_at "at") fun s9 H9 _ => wpAny_execs_nil ?_
          exact ⟨_, _, ⟨m, Nat.lt_succ_self _, _, _, rfl, rfl, hj2, hsk⟩, H9⟩
  intro s2 vals2 hv0 H2
  have C := H2.cx
  have X2 : QFAt s2.heap a F t1 := H2.own
  refine wpAny_execs_cons (wpAny_AugAssign_AttributeAny ?_)
  refine ev_loc C (by tm_at "at") hv0 A _ _ s2 r (Gr.refl _) fun v s3 pv x3 => ?_
  obtain rfl := er_ref pv
  refine at_get (C.gr x3.gr).inK (cls_qf w) (X2.ob.gr x3.gr) (i := 4) (by tm_at "at") rfl rfl A _ _ s3 r (Gr.refl _) fun v s4 pv x4 => ?_
  refine ev_int A _ _ s4 r (Gr.refl _) fun u s5 pu x5 => ?_
  refine io_add (h := s5.heap) pv pu A _ _ s5 r (Gr.refl _) fun u s6 pu x6 => ?_
  have x := ((x3.trans x4).trans x5).trans x6
  refine wp_setfield (C.gr x.gr).inK (cls_qf w) (X2.ob.gr x.gr) (i := 4) (by tm_at "at") (by decide) pu fun s7 x7 O7 => ?_
  have H7 := (H2.pure x).qmut ok (by simp [FP.wr]) x7 ((X2.gr x.gr).setCnt (c := t1.cnt + 1) x7 O7)
  exact wpAny_execs_nil (q2 _ ⟨rfl, H7.own⟩ H7.sx)
end
end Mine
end
section
open PySem PySem.W PyProof.Rows PySem.Calls
set_option Elab.async false
set_option maxRecDepth 100000
set_option maxHeartbeats 4000000
set_option linter.unusedVariables false
set_option pp.deepTerms false
set_option pp.maxSteps 700
namespace Mine
local macro_rules | `(tactic| tm_at "at") => `(tactic| with_reducible (repeat (first | exact At.head | apply At.tail)))
local macro_rules | `(tactic| tm_at "ok") => `(tactic| first | trivial | assumption | (simp only [okI]; omega) | (simp only [okI]; mul_fits))
local macro_rules | `(tactic| tm_at "bop") => `(tactic| exact fun _ _ => bo_any (by tm_at "ok"))
local macro_rules | `(tactic| tm_at "cm") => `(tactic| exact fun _ _ => co_any rfl)
local macro_rules | `(tactic| tm_at "obj") => `(tactic| first | exact QFAt.ob (by assumption) | assumption)
local macro_rules | `(tactic| tm_at "cls") => `(tactic| first | exact cls_qf _ | exact cls_bit _)
local macro_rules | `(tactic| tm_at "lt") => `(tactic| first | assumption | omega)
local macro_rules | `(tactic| tm_at "bitx") => `(tactic| first | exact QFAt.bo (by assumption) | exact QFAt.bc (by assumption) | exact QFAt.bs (by assumption))
local macro_rules | `(tactic| tm_at "ev") => `(tactic| first
  | with_reducible exact ev_int | with_reducible exact ev_true | with_reducible exact ev_none | with_reducible exact ev_str
  | ((with_reducible refine' ev_loc ?h1 ?h2 ?h3); (case h1 => assumption); (case h2 => tm_at "at"); (case h3 => rfl))
  | ((with_reducible refine' ev_attr (Cx.inK ?h1) ?h2 ?h3 ?h4 ?h5 ?h6 ?h7 ?h8); (case h1 => assumption); (case h4 => tm_at "ev"); (case h3 => tm_at "obj"); (case h2 => tm_at "cls"); (case h5 => tm_at "at"); (case h6 => rfl); (case h7 => rfl); (case h8 => rfl))
  | ((with_reducible refine' ev_bin ?h1 ?h2 ?h3); (case h1 => tm_at "ev"); (case h2 => tm_at "ev"); (case h3 => tm_at "bop"))
  | ((with_reducible refine' ev_bit ?h1 ?h2 ?h3 ?h4 ?h5 ?h6 ?h7 ?h8); (case h1 => assumption); (case h3 => tm_at "ev"); (case h4 => tm_at "ev"); (case h2 => tm_at "bitx"); (case h5 => tm_at "lt"); (case h6 => tm_at "lt"); (case h7 => tm_at "lt"); (case h8 => (intros; rfl)))
  | ((with_reducible refine' ev_un ?h1 ?h2); (case h1 => tm_at "ev"); (case h2 => exact fun _ => uo_any rfl)))
local macro_rules | `(tactic| tm_at "eb") => `(tactic| first
  | ((with_reducible refine' eb_cmp ?h1 ?h2 ?h3 ?h4); (case h1 => tm_at "ev"); (case h2 => tm_at "ev"); (case h3 => tm_at "cm"); (case h4 => rfl))
  | ((with_reducible refine' eb_bool ?h1); (case h1 => tm_at "eb"))
  | ((with_reducible refine' eb_or ?h1 ?h2); (case h1 => tm_at "eb"); (case h2 => tm_at "eb"))
  | ((with_reducible refine' eb_and ?h1 ?h2); (case h1 => tm_at "eb"); (case h2 => tm_at "eb"))
  | with_reducible exact eb_or_nil | with_reducible exact eb_and_nil
  | ((with_reducible refine' eb_not ?h1); (case h1 => tm_at "eb")))
namespace QS
abbrev qr (t : QS) (x : Nat) : Nat := x / 2 ^ (32 - t.q)
abbrev rr (t : QS) (x : Nat) : Nat := x % 2 ^ (32 - t.q)
def lk (t : QS) (x : Nat) : Option Int := t.loc (t.qr x) (t.rr x)
def add1 (t : QS) (x : Nat) : Option QS := (t.lk x).bind fun l => if l = -1 then t.add (t.qr x) (t.rr x) else some t
def grow (t : QS) : Bool := t.auto && decide (85 * t.N ≤ 100 * t.cnt)
theorem qr_lt (t : QS) {x : Nat} (hx : x < 2 ^ 32) (h : t.q ≤ 5) : t.qr x < t.N := by
  have : 2 ^ 32 = 2 ^ t.q * 2 ^ (32 - t.q) := by rw [← Nat.pow_add]; congr 1; omega
  exact Nat.div_lt_of_lt_mul (by rw [Nat.mul_comm, ← this]; exact hx)
end QS
theorem ar_rr (x k : Nat) : arI .BitAnd (x : Int) (arI .Sub (arI .LShift 1 (k : Int)) 1) = ((x % 2 ^ k : Nat) : Int) := by
  have e : arI .Sub (arI .LShift 1 (k : Int)) 1 = ((2 ^ k - 1 : Nat) : Int) := by
    rw [show arI .LShift 1 (k : Int) = _ from shl_nat 1 k, Nat.one_mul]
    have := Nat.one_le_two_pow (n := k)
    show ((2 ^ k : Nat) : Int) - 1 = _
    omega
  rw [e]; exact band_mask _ _
/-- its parts are of the old one, or new -/
def Fnew (a : Addr) (s : Shared) (F F' : FP) : Prop := (∀ b ∈ F'.all a, b ∈ F.all a ∨ s.heap.get? b = none) ∧ ∀ b ∈ F'.wr, b ∈ F.wr ∨ s.heap.get? b = none
theorem Fnew.refl {a s F} : Fnew a s F F := ⟨fun _ => .inl, fun _ => .inl⟩
theorem SX.pre {D s s' b} (x : SX D s s') (e : s'.heap.get? b = Option.none) : b ∈ D ∨ s.heap.get? b = Option.none := by
  by_cases m : b ∈ D
  · exact .inl m
  · exact .inr (x.none e m)
theorem Fnew.trans {a s s' F F' F''} (x : Fnew a s F F') (y : Fnew a s' F' F'') (k : SX F.wr s s') : Fnew a s F F'' := by
  have sub : ∀ b ∈ F.wr, b ∈ F.all a := fun b hb => by
    simp only [FP.wr, List.mem_cons, List.not_mem_nil, or_false] at hb
    rcases hb with q | q | q | q | q <;> subst q <;> simp
  exact ⟨fun b hb => (y.1 b hb).elim (x.1 b) fun e => (k.pre e).imp (sub b) id, fun b hb => (y.2 b hb).elim (x.2 b) fun e => k.pre e⟩
theorem Fnew.pre {a s s' F F'} (x : Fnew a s' F F') (k : SX [] s s') : Fnew a s F F' := Fnew.trans (s' := s') Fnew.refl x (k.mono nofun)
section
variable {prog : Program} {w : World} {n : Nat} {h h₀ : Heap} {env : Env} {nm : List Str} {vals : List (Option Value)} {a : Addr} {F F' : FP} {t t' : QS} {D : List Addr} {R ρ : Res} {s₀ s s' : Shared} {A : Around} {E : Value → Shared → Prop}
theorem Act.qgrow (H : Act (KK w) h₀ env nm vals D (.qf a F t) R s₀ s) (ok : Fok h₀ D s₀ F) (k : SX F.wr s s') (N : Fnew a s F F') (X : QFAt s'.heap a F' t') : Act (KK w) h₀ env nm vals D (.qf a F' t') R s₀ s' := by
  refine H.mut k (fun b hb => ?_) X fun b hb => N.1 b hb
  refine ⟨?_, (ok b hb).1, (ok b hb).2⟩
  show b ∈ F.all a
  simp only [FP.wr, List.mem_cons, List.not_mem_nil, or_false] at hb
  rcases hb with q | q | q | q | q <;> subst q <;> simp
theorem Fok.grow (H : Act (KK w) h₀ env nm vals D ρ R s₀ s) (ok : Fok h₀ D s₀ F) (N : Fnew a s F F') : Fok h₀ D s₀ F' := fun b hb =>
  (N.2 b hb).elim (ok b) fun e => ⟨Gr.none H.cx.gb e, H.sx.pre e⟩
theorem el1 {pos e v} (h1 : Eva prog w n h (eval e env) v) (he : starEach [e] env = (false, eval e env) :: starEach [] env := by rfl) : EvL prog w n h pos env [e] [v] := el_cons h1 el_nil he
theorem mth_resize (w : World) : Mth (KK w) QFc qfNm "resize" 345 := .of (by kernel_rfl) (by kernel_rfl) (by kernel_rfl) (by decide +kernel)
theorem mth_add_alt (w : World) : Mth (KK w) QFc qfNm "add_alt" 295 := .of (by kernel_rfl) (by kernel_rfl) (by kernel_rfl) (by decide +kernel)
theorem mth_check_alt (w : World) : Mth (KK w) QFc qfNm "check_alt" 323 := .of (by kernel_rfl) (by kernel_rfl) (by kernel_rfl) (by decide +kernel)
theorem q_check_alt (B : Bas (KK w) h₀) {args : List Value} {x : Nat} {l : Int} (gb : Gr h₀ h) (X : QFAt h a F t) (hx : x < 2 ^ 32) (hs : t.lk x = some l) (ha : args.map er = [.ref a, vi (x : Int)]) (hn : 8 ≤ n) :
    FunP prog w n h 323 args (fun v _ => er v = .bool (decide (l ≠ -1))) := by
  obtain ⟨n, rfl⟩ : ∃ m, n = m + 1 := ⟨n - 1, by omega⟩
  obtain ⟨a1, a2, rfl, h1, h2⟩ := m2 ha
  refine fun_enter (k := 2) (nm := ["self", "_hash", "key_quotient", "key_remainder"]) (args2 := [a1, a2]) (avs2 := [.ref a, vi (x : Int)]) B gb (by rfl) rfl (by kernel_rfl) (fun _ _ => .of_eq rfl) (by simp [h1, h2]) (by decide +kernel) (by decide +kernel) (by decide +kernel) ?_
  intro env s0 s g hs' H A Q r q1 q2
  clear hs'
  have C := H.cx
  have X1 := X.gr H.own
  have hN := X.q5
  refine y_assign (v := vi (t.qr x : Int)) H r (Eva.cast (by tm_at "ev") (congrArg vi (shr_nat x _))) (by tm_at "at") fun s2 H2 _ => ?_
  have C := H2.cx
  have X2 := X.gr H2.own
  refine y_assign (v := vi (t.rr x : Int)) H2 r (Eva.cast (by tm_at "ev") (congrArg vi (ar_rr x _))) (by tm_at "at") fun s3 H3 _ => ?_
  have C := H3.cx
  have X3 := X.gr H3.own
  refine y_ret H3 r (P := fun v _ => er v = .bool (decide (l ≠ -1))) ?_ fun v s2 p H2 x2 => q1 v s2 p H2.sx
  refine Eva.cast (ev_cmp (ev_mcall C.inK (cls_qf w) X3.ob (mth_cont w) (by tm_at "ev") (el_cons (by tm_at "ev") (el1 (by tm_at "ev"))) fun vs' hv => q_loc C.bs C.gb X3 (t.qr_lt hx hN) hs (by rw [List.map_cons, hv]; rfl) (by omega)) (by tm_at "ev") (by tm_at "cm")) (congrArg Value.bool ?_)
  show (l != -1) = _
  rw [decide_not]; rfl
/-- adding a hash: G tells what is had at the end -/
theorem q_add_alt (B : Bas (KK w) h₀) {args : List Value} {x : Nat} (gb : Gr h₀ s.heap) (X : QFAt s.heap a F t) (hB : ∀ b ∈ F.wr, h₀.get? b = none) (hx : x < 2 ^ 32) (G : QS → Prop)
    (h0 : t.grow = false → ∃ t', t.add1 x = some t' ∧ G t')
    (h1 : t.grow = true → ∀ s1 m, Gr h₀ s1.heap → QFAt s1.heap a F t → n ≤ m + 1 → MutP prog w m 345 [.ref a] s1 F.wr (fun v s' => v = .none ∧ ∃ F1 t1 t', Fnew a s1 F F1 ∧ QFAt s'.heap a F1 t1 ∧ t1.add1 x = some t' ∧ G t'))
    (ha : args.map er = [.ref a, vi (x : Int)]) (hn : 9 ≤ n) :
    MutP prog w n 295 args s F.wr (fun v s' => v = .none ∧ ∃ F' t', Fnew a s F F' ∧ QFAt s'.heap a F' t' ∧ G t') := by
  obtain ⟨n, rfl⟩ : ∃ m, n = m + 1 := ⟨n - 1, by omega⟩
  obtain ⟨a1, a2, rfl, e1, e2⟩ := m2 ha
  refine mut_enter (k := 2) (nm := ["self", "_hash", "key_quotient", "key_remainder"]) (args2 := [a1, a2]) (avs2 := [.ref a, vi (x : Int)]) (ρ := .qf a F t)
    B gb X (by rfl) rfl (by kernel_rfl) (.of_eq rfl) (by simp [e1, e2]) (by decide +kernel) (by decide +kernel) (by decide +kernel) ?_
  intro env s1 hs' H A Q r q1 q2
  clear hs'
  have ok : Fok h₀ F.wr s F := fun b hb => ⟨hB b hb, .inl hb⟩
  suffices key : ∀ F1 t1 t' s2, Fok h₀ F.wr s F1 → Fnew a s F F1 → t1.add1 x = some t' → G t' → Act (KK w) h₀ env ["self", "_hash", "key_quotient", "key_remainder"] ([.ref a, vi (x : Int)].map some ++ List.replicate 2 none) F.wr (.qf a F1 t1) .emp s s2 → wpAny (model prog w) A _ _ _ s2 by
    have C := H.cx
    have X1 : QFAt s1.heap a F t := H.own
    have hN := X1.N8
    refine y_if (c := t.grow) H r (eb_bool (EvB.cast (eb_and (eb_val (by tm_at "ev")) (eb_and (by tm_at "eb") eb_and_nil)) ?_)) (fun he s2 H2 _ => ?_) fun he s2 H2 _ => ?_
    · unfold QS.grow
      rw [Bool.and_true]
      congr 1
      show decide (_ ≤ _) = _
      rw [decide_eq_decide]
      show (85 : Int) * (t.N : Int) ≤ 100 * (t.cnt : Int) ↔ _
      omega
    · have C := H2.cx
      have X2 : QFAt s2.heap a F t := H2.own
      refine y_callq H2 r (cls_qf w) X2.ob (mth_resize w) (by tm_at "ev") el_nil fun vs' s4 hv x4 => ?_
      obtain rfl := m0 hv
      refine (h1 he s4 n (C.gb.trans x4.gr) (X2.gr x4.gr) (Nat.le_refl _)).call r fun v s5 p x5 => ?_
      obtain ⟨_, F1, t1, t', N1, X5, ea, hG⟩ := p
      have H4 := H2.pure x4
      exact wpAny_execs_nil (key F1 t1 t' s5 (Fok.grow H4 ok N1) (Fnew.trans Fnew.refl N1 H4.sx) ea hG (H4.qgrow ok x5 N1 X5))
    · obtain ⟨t', ea, hG⟩ := h0 he
      exact wpAny_execs_nil (key F t t' s2 ok Fnew.refl ea hG H2)
  clear H ok h0 h1
  intro F1 t1 t' s2 ok N1 ea hG H
  have C := H.cx
  have X1 : QFAt s2.heap a F1 t1 := H.own
  have hN := X1.q5
  obtain ⟨l, hl, ea⟩ := Option.bind_eq_some_iff.mp ea
  refine y_assign (v := vi (t1.qr x : Int)) H r (Eva.cast (by tm_at "ev") (congrArg vi (shr_nat x _))) (by tm_at "at") fun s3 H3 _ => ?_
  have C := H3.cx
  have X3 : QFAt s3.heap a F1 t1 := H3.own
  refine y_assign (v := vi (t1.rr x : Int)) H3 r (Eva.cast (by tm_at "ev") (congrArg vi (ar_rr x _))) (by tm_at "at") fun s4 H4 _ => ?_
  have C := H4.cx
  have X4 : QFAt s4.heap a F1 t1 := H4.own
  refine y_if (c := decide (l = -1)) H4 r (EvB.cast (eb_cmp (ev_mcall C.inK (cls_qf w) X4.ob (mth_cont w) (by tm_at "ev") (el_cons (by tm_at "ev") (el1 (by tm_at "ev"))) fun vs' hv => q_loc C.bs C.gb X4 (t1.qr_lt hx hN) hl (by rw [List.map_cons, hv]; rfl) (by omega)) (by tm_at "ev") (by tm_at "cm")) rfl) (fun he s5 H5 _ => ?_) fun he s5 H5 _ => ?_
  · rw [if_pos (of_decide_eq_true he)] at ea
    have C := H5.cx
    have X5 : QFAt s5.heap a F1 t1 := H5.own
    refine y_callq H5 r (cls_qf w) X5.ob (mth_add_ w) (by tm_at "ev") (el_cons (by tm_at "ev") (el1 (by tm_at "ev"))) fun vs' s6 hv x6 => ?_
    refine (q_add B (C.gb.trans x6.gr) (X5.gr x6.gr) (fun b hb => (ok b hb).1) (t1.qr_lt hx hN) ea (by rw [List.map_cons, hv]; rfl) (by omega)).call r fun v s7 p x7 => ?_
    have H7 := (H5.pure x6).qmuts ok x7 p.2
    exact wpAny_execs_nil (wpAny_execs_nil (q2 _ ⟨rfl, F1, t', N1, H7.own, hG⟩ H7.sx))
  · rw [if_neg (of_decide_eq_false he)] at ea
    cases ea
    exact wpAny_execs_nil (wpAny_execs_nil (q2 _ ⟨rfl, F1, t1, N1, H5.own, hG⟩ H5.sx))
end
end Mine
end
section
open PySem PySem.W PyProof.Rows PySem.Calls
set_option Elab.async false
set_option maxRecDepth 100000
set_option maxHeartbeats 4000000
set_option linter.unusedVariables false
set_option pp.deepTerms false
set_option pp.maxSteps 700
namespace Mine
local macro_rules | `(tactic| tm_at "at") => `(tactic| with_reducible (repeat (first | exact At.head | apply At.tail)))
local macro_rules | `(tactic| tm_at "ok") => `(tactic| first | trivial | assumption | (simp only [okI]; omega) | (simp only [okI]; mul_fits))
local macro_rules | `(tactic| tm_at "bop") => `(tactic| exact fun _ _ => bo_any (by tm_at "ok"))
local macro_rules | `(tactic| tm_at "cm") => `(tactic| exact fun _ _ => co_any rfl)
local macro_rules | `(tactic| tm_at "obj") => `(tactic| first | exact QFAt.ob (by assumption) | assumption)
local macro_rules | `(tactic| tm_at "cls") => `(tactic| first | exact cls_qf _ | exact cls_bit _)
local macro_rules | `(tactic| tm_at "lt") => `(tactic| first | assumption | omega)
local macro_rules | `(tactic| tm_at "bitx") => `(tactic| first | exact QFAt.bo (by assumption) | exact QFAt.bc (by assumption) | exact QFAt.bs (by assumption))
local macro_rules | `(tactic| tm_at "ev") => `(tactic| first
  | with_reducible exact ev_int | with_reducible exact ev_true | with_reducible exact ev_none | with_reducible exact ev_str
  | ((with_reducible refine' ev_loc ?h1 ?h2 ?h3); (case h1 => assumption); (case h2 => tm_at "at"); (case h3 => rfl))
  | ((with_reducible refine' ev_attr (Cx.inK ?h1) ?h2 ?h3 ?h4 ?h5 ?h6 ?h7 ?h8); (case h1 => assumption); (case h4 => tm_at "ev"); (case h3 => tm_at "obj"); (case h2 => tm_at "cls"); (case h5 => tm_at "at"); (case h6 => rfl); (case h7 => rfl); (case h8 => rfl))
  | ((with_reducible refine' ev_bin ?h1 ?h2 ?h3); (case h1 => tm_at "ev"); (case h2 => tm_at "ev"); (case h3 => tm_at "bop"))
  | ((with_reducible refine' ev_bit ?h1 ?h2 ?h3 ?h4 ?h5 ?h6 ?h7 ?h8); (case h1 => assumption); (case h3 => tm_at "ev"); (case h4 => tm_at "ev"); (case h2 => tm_at "bitx"); (case h5 => tm_at "lt"); (case h6 => tm_at "lt"); (case h7 => tm_at "lt"); (case h8 => (intros; rfl)))
  | ((with_reducible refine' ev_un ?h1 ?h2); (case h1 => tm_at "ev"); (case h2 => exact fun _ => uo_any rfl)))
local macro_rules | `(tactic| tm_at "eb") => `(tactic| first
  | ((with_reducible refine' eb_cmp ?h1 ?h2 ?h3 ?h4); (case h1 => tm_at "ev"); (case h2 => tm_at "ev"); (case h3 => tm_at "cm"); (case h4 => rfl))
  | ((with_reducible refine' eb_bool ?h1); (case h1 => tm_at "eb"))
  | ((with_reducible refine' eb_or ?h1 ?h2); (case h1 => tm_at "eb"); (case h2 => tm_at "eb"))
  | ((with_reducible refine' eb_and ?h1 ?h2); (case h1 => tm_at "eb"); (case h2 => tm_at "eb"))
  | with_reducible exact eb_or_nil | with_reducible exact eb_and_nil
  | ((with_reducible refine' eb_not ?h1); (case h1 => tm_at "eb")))
section
variable {prog : Program} {w : World} {n : Nat} {h h₀ : Heap} {env : Env} {K : Frag} {nm : List Str} {vals : List (Option Value)} {a : Addr} {F F' : FP} {t t' : QS} {D : List Addr} {R ρ : Res} {s₀ s s' : Shared} {A : Around} {E : Value → Shared → Prop}
theorem tcw (C : Addr) (rest : List Value) (kw : List (Str × Value)) : (Code.builtin "type.__call__" ⟨.ref C :: rest, kw⟩).weight ≤ 1 ∧ (Code.builtin "type.__call__" ⟨.ref C :: rest, kw⟩).cUnits ≤ 1 := by
  have e1 : (Code.builtin "type.__call__" ⟨.ref C :: rest, kw⟩).weight = 1 := by kernel_rfl
  have e2 : (Code.builtin "type.__call__" ⟨.ref C :: rest, kw⟩).cUnits = 1 := by kernel_rfl
  rw [e1, e2]; exact ⟨Nat.le_refl _, Nat.le_refl _⟩
theorem Rm.mkk {C : Addr} {rest : List Value} {kw : List (Str × Value)} (r : Rm (n + 1) A) : Rm n (A.under (.builtin "type.__call__" ⟨.ref C :: rest, kw⟩)) := by
  have h := tcw C rest kw
  refine ⟨r.hd, ?_, ?_⟩
  · have := r.dp; simp only [Around.under]; omega
  · have := r.un; simp only [Around.under]; omega
theorem mk_obj {C fI : Addr} {rest : List Value} {RR : Result → Shared → Prop} (X : K.In s.heap) (hm : makesIn K C = true) (hi : findIn K (.ref C) "__init__" = some (some (.ref fI))) (hf : typeIn K (.ref fI) = some (.type "function")) (r : Rm (n + 1) A)
    (hc : ∀ a d s1, a ≠ d → SX [] s s1 → s.heap.get? a = none → s.heap.get? d = none → ObjAt s1.heap a C d [] [] → ∀ A', Rm n A' → codeAny (model prog w) A' (.call (.ref fI) ⟨.ref a :: rest, []⟩) (InitBack a RR) s1) :
    codeAny (model prog w) A (.call (.ref C) ⟨rest, []⟩) RR s := by
  obtain ⟨hh, g, d, t, os⟩ := s
  refine make_core (makes_of X hm) (looks_findIn X hi) (fun self => bind_fn X self hf) (.inl rfl) ?_
  have k : ∀ b o, hh.get? b = some o → ((hh.push emptyDict).push (instObj C hh.objs.size)).get? b = some o := fun b o e => Heap.get?_push_of_some _ (Heap.get?_push_of_some _ e)
  have hx : ((hh.push emptyDict).push (instObj C hh.objs.size)).get? (hh.objs.size + 1) = some (instObj C hh.objs.size) := by
    have := Heap.get?_push_size (hh.push emptyDict) (o := instObj C hh.objs.size) rfl
    rwa [Heap.size_push] at this
  have hd : ((hh.push emptyDict).push (instObj C hh.objs.size)).get? hh.objs.size = some emptyDict := Heap.get?_push_of_some _ (Heap.get?_push_size hh (o := emptyDict) rfl)
  refine hc (hh.objs.size + 1) hh.objs.size ⟨(hh.push emptyDict).push (instObj C hh.objs.size), g, d, t, os⟩ (Nat.succ_ne_self _) ⟨fun b o _ e => k b o e, .refl _, rfl⟩ ?_ (size_none hh) ⟨hx, [], 0, hd, trivial⟩ _ r.mkk
  exact Heap.get?_none_of_le (Nat.le_succ _)
theorem mul_list' {l : Addr} {items : Array Value} {k : Nat} {x : Int} {u : Tok} {Q : Value → Shared → Prop}
    (hl : s.heap.get? l = some { cls := .type "list", dict := none, data := .seq items k, slots := #[] })
    (hlo : -(2 ^ 63 : Int) ≤ x) (hhi : x < 2 ^ 63) (hsz : items.size * x.toNat ≤ 2 ^ 24)
    (h : Q (.ref s.heap.objs.size) { s with heap := s.heap.push { cls := .type "list", data := .seq (List.foldl (fun x1 x2 => x1 ++ x2) #[] (List.replicate (if items.isEmpty = true then 0 else x.toNat) items)) } }) :
    wpAny (model prog w) A (binaryOp .Mult (.ref l) (.int x u)) Q E s :=
  wpAny_binaryOp_repeat_ref (T := "list") (U := "int") (by decide) ⟨_, hl, rfl⟩ (fun s' => typeIs_int s' x u) noFill_list_mul F.fills_int_mul F.slot_int_rmul repeat_list F.slot_int_index.lookup
    (call_meets F.slot_int_rmul (typeIs_int s x u) F.entry_int_rmul (F.args_int_rmul_2 _ _) (int___rmul___int_list x u l items k)
      ⟨hl, rfl, ⟨_, hl, rfl⟩, call_meets F.slot_list_mul ⟨_, hl, rfl⟩ F.entry_list_mul (F.args_list_mul_2 _ _)
        (AutoListH.list___mul___list_int_3 l items k x u (by simp [Builtin.List.listFitsIndex]; omega) (by omega) (by simp [Builtin.List.listTooLong, sizeLine]; omega))
        ⟨hl, h⟩⟩)
theorem fold_rep (v : Value) (k : Nat) (acc : Array Value) : (List.foldl (fun x1 x2 => x1 ++ x2) acc (List.replicate k #[v])).toList = acc.toList ++ List.replicate k v := by
  induction k generalizing acc with
  | zero => simp
  | succ k ih => rw [List.replicate_succ, List.foldl_cons, ih, List.replicate_succ]; simp
/-- a new list, k times a thing -/
theorem ev_listmul {e1 e2 : Expr} {p1 p2 : Pos} {k : Nat} {v : Value} (C : Cx (KK w) h₀ env nm vals h) (h1 : Eva prog w n h (eval e1 env) v) (h2 : Eva prog w n h (eval e2 env) (vi (k : Int))) (hk : k ≤ 1000) (hst : starEach [e1] env = (false, eval e1 env) :: starEach [] env := by rfl) :
    EvaP prog w n h (eval (.BinOp (.List [e1] p1) .Mult e2 p2) env) fun u h' => ∃ l, u = .ref l ∧ Ls h' l (List.replicate k v) ∧ h.get? l = none := by
  intro A Q E s r g q
  refine wpAny_BinOp (wpAny_List (args_cons (h1 A _ E s r g fun v' s1 ev x1 => args_nil ⟨by simp [sizeLine_eq], ?_⟩) hst))
  have x2 : SX [] s1 { s1 with heap := s1.heap.push { cls := .type "list", data := .seq [v'].toArray } } := SX.heap fun b o _ z => Heap.get?_push_of_some _ z
  have g2 := (g.trans x1.gr).trans x2.gr
  refine h2 A _ E _ r g2 fun u s3 eu x3 => ?_
  obtain ⟨t, rfl⟩ := er_vi eu
  obtain ⟨m, Fm⟩ := (C.gr (g2.trans x3.gr)).fr
  have hl : s3.heap.get? s1.heap.objs.size = some { cls := .type "list", data := .seq [v'].toArray } := x3.gr _ _ (Heap.get?_push_size _ rfl)
  refine mul_list' hl (by omega) (by omega) (by simp; omega) (q _ _ ⟨_, rfl, ⟨_, ⟨_, Heap.get?_push_size _ rfl, rfl, _, rfl⟩, ?_⟩, ?_⟩ (((x1.trans x2).trans x3).trans (SX.heap fun b o _ z => Heap.get?_push_of_some _ z)))
  · rw [fold_rep]
    simp [ev]
  · exact Gr.none (g2.trans x3.gr) (size_none _)
end
end Mine
end
section
open PySem PySem.W PyProof.Rows PySem.Calls
set_option Elab.async false
set_option maxRecDepth 100000
set_option maxHeartbeats 4000000
set_option linter.unusedVariables false
set_option pp.deepTerms false
set_option pp.maxSteps 700
namespace Mine
local macro_rules | `(tactic| tm_at "at") => `(tactic| with_reducible (repeat (first | exact At.head | apply At.tail)))
local macro_rules | `(tactic| tm_at "ok") => `(tactic| first | trivial | assumption | (simp only [okI]; omega) | (simp only [okI]; mul_fits))
local macro_rules | `(tactic| tm_at "bop") => `(tactic| exact fun _ _ => bo_any (by tm_at "ok"))
local macro_rules | `(tactic| tm_at "cm") => `(tactic| exact fun _ _ => co_any rfl)
local macro_rules | `(tactic| tm_at "obj") => `(tactic| first | exact QFAt.ob (by assumption) | assumption)
local macro_rules | `(tactic| tm_at "cls") => `(tactic| first | exact cls_qf _ | exact cls_bit _)
local macro_rules | `(tactic| tm_at "lt") => `(tactic| first | assumption | omega)
local macro_rules | `(tactic| tm_at "bitx") => `(tactic| first | exact QFAt.bo (by assumption) | exact QFAt.bc (by assumption) | exact QFAt.bs (by assumption))
local macro_rules | `(tactic| tm_at "ev") => `(tactic| first
  | with_reducible exact ev_int | with_reducible exact ev_true | with_reducible exact ev_none | with_reducible exact ev_str
  | ((with_reducible refine' ev_loc ?h1 ?h2 ?h3); (case h1 => assumption); (case h2 => tm_at "at"); (case h3 => rfl))
  | ((with_reducible refine' ev_attr (Cx.inK ?h1) ?h2 ?h3 ?h4 ?h5 ?h6 ?h7 ?h8); (case h1 => assumption); (case h4 => tm_at "ev"); (case h3 => tm_at "obj"); (case h2 => tm_at "cls"); (case h5 => tm_at "at"); (case h6 => rfl); (case h7 => rfl); (case h8 => rfl))
  | ((with_reducible refine' ev_bin ?h1 ?h2 ?h3); (case h1 => tm_at "ev"); (case h2 => tm_at "ev"); (case h3 => tm_at "bop"))
  | ((with_reducible refine' ev_bit ?h1 ?h2 ?h3 ?h4 ?h5 ?h6 ?h7 ?h8); (case h1 => assumption); (case h3 => tm_at "ev"); (case h4 => tm_at "ev"); (case h2 => tm_at "bitx"); (case h5 => tm_at "lt"); (case h6 => tm_at "lt"); (case h7 => tm_at "lt"); (case h8 => (intros; rfl)))
  | ((with_reducible refine' ev_un ?h1 ?h2); (case h1 => tm_at "ev"); (case h2 => exact fun _ => uo_any rfl)))
local macro_rules | `(tactic| tm_at "eb") => `(tactic| first
  | ((with_reducible refine' eb_cmp ?h1 ?h2 ?h3 ?h4); (case h1 => tm_at "ev"); (case h2 => tm_at "ev"); (case h3 => tm_at "cm"); (case h4 => rfl))
  | ((with_reducible refine' eb_bool ?h1); (case h1 => tm_at "eb"))
  | ((with_reducible refine' eb_or ?h1 ?h2); (case h1 => tm_at "eb"); (case h2 => tm_at "eb"))
  | ((with_reducible refine' eb_and ?h1 ?h2); (case h1 => tm_at "eb"); (case h2 => tm_at "eb"))
  | with_reducible exact eb_or_nil | with_reducible exact eb_and_nil
  | ((with_reducible refine' eb_not ?h1); (case h1 => tm_at "eb")))
theorem At.of_get {α : Type} {x : α} : ∀ {l : List α} {i : Nat}, l[i]? = some x → At l x i
  | y :: l, 0, e => by cases (by simpa using e : y = x); exact .head
  | y :: l, i + 1, e => .tail (At.of_get (by simpa using e))
theorem Cls.sub {K : Frag} {C : Addr} {fn fn' : List Str} (c : Cls K C fn) (s : ∀ x ∈ fn', x ∈ fn) (nd : fn'.Nodup) : Cls K C fn' :=
  ⟨c.ga, c.gt, c.hd, fun x hx => c.fld x (s x hx), c.sa, c.po, nd⟩
/-- an object whose fields are being set, in order: from none at all, or over old ones -/
def PartAt (h : Heap) (a C d : Addr) (fn : List Str) (fresh : Bool) (old new : List Value) : Prop :=
  ObjAt h a C d (if fresh = true then fn.take new.length else fn) (new ++ if fresh = true then [] else old.drop new.length)
def Res.part (a C d : Addr) (fn : List Str) (fresh : Bool) (old new : List Value) : Res :=
  ⟨fun b => b = a ∨ b = d, fun h => PartAt h a C d fn fresh old new, fun h h' k x => ObjAt.at x (k a · (.inl rfl)) (k d · (.inr rfl)), fun h x b hb => by
    rcases hb with q | q <;> subst q
    · exact ⟨_, x.ho⟩
    · obtain ⟨es, k, e, _⟩ := x.hd; exact ⟨_, e⟩⟩
section
variable {prog : Program} {w : World} {n : Nat} {h h₀ : Heap} {env : Env} {K : Frag} {nm : List Str} {vals : List (Option Value)} {a C d : Addr} {D : List Addr} {R ρ ρx : Res} {s₀ s s' : Shared} {A : Around} {E : Value → Shared → Prop} {fn : List Str} {fresh : Bool} {old new : List Value}
theorem ev_part {x i v o pos} (X : K.In h) (Cl : Cls K C fn) (O : PartAt h a C d fn fresh old new) (h1 : Eva prog w n h (eval o env) (.ref a)) (hx : At fn x i) (hv : new[i]? = some v) (hh : handedIn v = true := by rfl)
    (he : eval (.Attribute o x pos) env = (do let o' ← eval o env; standAt pos.atName; let r ← holding [o'] (getAttr o' x true); letTemporaryGo o o' r; pure r) := by rfl) :
    Eva prog w n h (eval (.Attribute o x pos) env) v := by
  have hl := (List.getElem?_eq_some_iff.mp hv).1
  cases fresh with
  | true =>
    refine ev_attr (i := i) X (Cl.sub (fun y hy => List.mem_of_mem_take hy) (Cl.nd.sublist (List.take_sublist _ _))) O h1 (At.of_get ?_) ?_ hh he
    · rw [List.getElem?_take, if_pos hl]; exact hx.get
    · rw [List.getElem?_append_left hl]; exact hv
  | false =>
    refine ev_attr X Cl O h1 hx ?_ hh he
    rw [List.getElem?_append_left hl]; exact hv
theorem y_part {name : Str} {i : Nat} {o e : Expr} {pos p : Pos} {rest : List Stmt} {P : Value → Heap → Prop} {Q : Flow → Shared → Prop} (H : Act K h₀ env nm vals D ((Res.part a C d fn fresh old new).and ρx) R s₀ s) (r : Rm n A) (Cl : Cls K C fn)
    (he : EvaP prog w n s.heap (eval e env) P) (h1 : ∀ s1, SX [] s s1 → Eva prog w n s1.heap (eval o env) (.ref a)) (hx : At fn name i) (hi : i = new.length) (hold : fresh = false → new.length < old.length) (hsz : fn.length ≤ 900)
    (hd0 : h₀.get? d = none) (hdD : d ∈ D ∨ s₀.heap.get? d = none) (hdx : ¬ ρx.fp d)
    (k : ∀ v s1 s', P v s1.heap → SX [] s s1 → SX [d] s1 s' → (∀ ρn : Res, ρn.I s1.heap → (∀ b, ρn.fp b → s.heap.get? b = none) →
      Act K h₀ env nm vals D ((Res.part a C d fn fresh old (new ++ [er v])).and (ρx.and ρn)) R s₀ s' ∧ ¬ (ρx.and ρn).fp d) → wpAny (model prog w) A (execs rest env) Q E s')
    (hsw : swapsWith e (some (.Attribute o name p)) pos.line env = Pure.pure false := by rfl) :
    wpAny (model prog w) A (execs (.Assign [.Attribute o name p] e pos :: rest) env) Q E s := by
  refine wpAny_execs_cons (plainObj_wpAny_Assign_Attribute (he A _ E s r (Gr.refl _) fun v s1 pv x1 => h1 s1 x1 A _ E s1 r (Gr.refl _) fun o' s2 po x2 => ?_) hsw)
  obtain rfl := er_ref po
  have x := x1.trans x2
  have O : PartAt s2.heap a C d fn fresh old new := Res.I_gr (r := Res.part a C d fn fresh old new) H.own.1 x.gr
  have hdi : ∃ o, s.heap.get? d = some o := (Res.part a C d fn fresh old new).ex _ H.own.1 d (.inr rfl)
  have fin : ∀ s', SX [d] s2 s' → PartAt s'.heap a C d fn fresh old (new ++ [er v]) → wpAny (model prog w) A (execs rest env) Q E s' := fun s' x3 O3 => by
    refine k v s1 s' pv x1 (x2.transL x3) fun ρn hn hf => ?_
    have hdn : ¬ ρn.fp d := fun q => by obtain ⟨o, e⟩ := hdi; rw [hf d q] at e; cases e
    have hdxn : ¬ (ρx.and ρn).fp d := fun q => q.elim hdx hdn
    refine ⟨?_, hdxn⟩
    have H1 : Act K h₀ env nm vals D ((Res.part a C d fn fresh old new).and (ρx.and ρn)) R s₀ s2 :=
      H.mut (D' := []) x (fun b hb => nomatch hb) ⟨O, Res.I_gr H.own.2 x.gr, Res.I_gr hn x2.gr⟩ fun b hb => by
        rcases hb with q | q | q
        · exact .inl (.inl q)
        · exact .inl (.inr q)
        · exact .inr (hf b q)
    refine H1.mut x3 (fun b hb => ?_) ⟨O3, Res.I_off H1.own.2 x3 fun b hb => by rw [List.mem_singleton.mp hb]; exact hdxn⟩ fun b hb => .inl hb
    rw [List.mem_singleton.mp hb]
    exact ⟨.inl (.inr rfl), hd0, hdD⟩
  have Xk := (H.cx.gr x.gr).inK
  subst hi
  cases fresh with
  | true =>
    refine wp_setattr Xk Cl O hx.mem (fun es hsh t En => ?_) ?_ fun s' x3 O3 => fin s' x3 O3
    · have hl : new.length < fn.length := (List.getElem?_eq_some_iff.mp hx.get).1
      have e2 : fn.take (new.length + 1) = fn.take new.length ++ [name] := by
        rw [List.take_add_one, hx.get]; rfl
      have hno : name ∉ fn.take new.length := fun m => by
        have nd := Cl.nd
        rw [← List.take_append_drop (new.length + 1) fn, e2, List.append_assoc] at nd
        have := (List.nodup_append.mp nd).2.2 name m name (List.mem_append_left _ (List.mem_singleton.mpr rfl))
        exact this rfl
      have := Ents.add (hsh := hsh) (t := t) (v := v) (x := name) En (by simpa using hno)
      simp only [if_true, List.append_nil] at this ⊢
      rw [List.length_append, List.length_singleton, e2]
      exact this
    · simp only [if_true, List.length_take]; omega
  | false =>
    refine wp_setattr Xk Cl O hx.mem (fun es hsh t En => ?_) (by simpa using by omega) fun s' x3 O3 => fin s' x3 O3
    have := Ents.put (hsh := hsh) (key := .str name t) (v := v) Cl.nd En hx
    simp only [Bool.false_eq_true, if_false] at this ⊢
    have hlo := hold rfl
    rw [List.set_append_right _ _ (Nat.le_refl _), Nat.sub_self] at this
    rw [List.length_append, List.length_singleton, List.append_assoc]
    have e2 : (old.drop new.length).set 0 (er v) = [er v] ++ old.drop (new.length + 1) := by
      rw [List.drop_eq_getElem_cons hlo]; rfl
    rw [e2] at this
    exact this
end
end Mine
end
section
open PySem PySem.W PyProof.Rows PySem.Calls
set_option Elab.async false
set_option maxRecDepth 100000
set_option maxHeartbeats 4000000
set_option linter.unusedVariables false
set_option pp.deepTerms false
set_option pp.maxSteps 700
namespace Mine
local macro_rules | `(tactic| tm_at "at") => `(tactic| with_reducible (repeat (first | exact At.head | apply At.tail)))
local macro_rules | `(tactic| tm_at "ok") => `(tactic| first | trivial | assumption | (simp only [okI]; omega) | (simp only [okI]; mul_fits))
local macro_rules | `(tactic| tm_at "bop") => `(tactic| exact fun _ _ => bo_any (by tm_at "ok"))
local macro_rules | `(tactic| tm_at "cm") => `(tactic| exact fun _ _ => co_any rfl)
local macro_rules | `(tactic| tm_at "obj") => `(tactic| first | exact QFAt.ob (by assumption) | assumption)
local macro_rules | `(tactic| tm_at "cls") => `(tactic| first | exact cls_qf _ | exact cls_bit _)
local macro_rules | `(tactic| tm_at "lt") => `(tactic| first | assumption | omega)
local macro_rules | `(tactic| tm_at "bitx") => `(tactic| first | exact QFAt.bo (by assumption) | exact QFAt.bc (by assumption) | exact QFAt.bs (by assumption))
local macro_rules | `(tactic| tm_at "ev") => `(tactic| first
  | with_reducible exact ev_int | with_reducible exact ev_true | with_reducible exact ev_none | with_reducible exact ev_str
  | ((with_reducible refine' ev_loc ?h1 ?h2 ?h3); (case h1 => assumption); (case h2 => tm_at "at"); (case h3 => rfl))
  | ((with_reducible refine' ev_attr (Cx.inK ?h1) ?h2 ?h3 ?h4 ?h5 ?h6 ?h7 ?h8); (case h1 => assumption); (case h4 => tm_at "ev"); (case h3 => tm_at "obj"); (case h2 => tm_at "cls"); (case h5 => tm_at "at"); (case h6 => rfl); (case h7 => rfl); (case h8 => rfl))
  | ((with_reducible refine' ev_bin ?h1 ?h2 ?h3); (case h1 => tm_at "ev"); (case h2 => tm_at "ev"); (case h3 => tm_at "bop"))
  | ((with_reducible refine' ev_bit ?h1 ?h2 ?h3 ?h4 ?h5 ?h6 ?h7 ?h8); (case h1 => assumption); (case h3 => tm_at "ev"); (case h4 => tm_at "ev"); (case h2 => tm_at "bitx"); (case h5 => tm_at "lt"); (case h6 => tm_at "lt"); (case h7 => tm_at "lt"); (case h8 => (intros; rfl)))
  | ((with_reducible refine' ev_un ?h1 ?h2); (case h1 => tm_at "ev"); (case h2 => exact fun _ => uo_any rfl)))
local macro_rules | `(tactic| tm_at "eb") => `(tactic| first
  | ((with_reducible refine' eb_cmp ?h1 ?h2 ?h3 ?h4); (case h1 => tm_at "ev"); (case h2 => tm_at "ev"); (case h3 => tm_at "cm"); (case h4 => rfl))
  | ((with_reducible refine' eb_bool ?h1); (case h1 => tm_at "eb"))
  | ((with_reducible refine' eb_or ?h1 ?h2); (case h1 => tm_at "eb"); (case h2 => tm_at "eb"))
  | ((with_reducible refine' eb_and ?h1 ?h2); (case h1 => tm_at "eb"); (case h2 => tm_at "eb"))
  | with_reducible exact eb_or_nil | with_reducible exact eb_and_nil
  | ((with_reducible refine' eb_not ?h1); (case h1 => tm_at "eb")))
section
variable {prog : Program} {w : World} {n : Nat} {h h₀ : Heap} {env : Env} {K : Frag} {nm : List Str} {vals : List (Option Value)} {a C d : Addr} {D : List Addr} {R ρ ρx : Res} {s₀ s s' : Shared} {A : Around} {E : Value → Shared → Prop} {fn : List Str} {fresh : Bool} {old new : List Value}
theorem eb_isint {np ip cp up : Pos} {e : Expr} {k : Int} {whole : Sem Value} (C : Cx K h₀ env nm vals h) (e0 : nsIn K mainGlobals "isinstance" = some Option.none) (e1 : nsIn K mainGlobals "int" = some Option.none) (hx : env.kindOf "isinstance" = some .globalImplicit) (hx1 : env.kindOf "int" = some .globalImplicit)
    (h1 : Eva prog w n h (eval e env) (vi k)) (hst : starEach [e, .Name "int" ip] env = (false, eval e env) :: starEach [.Name "int" ip] env := by rfl)
    (he : eval (.Call (.Name "isinstance" np) [e, .Name "int" ip] [] cp) env = (do callWith cp (← eval (.Name "isinstance" np) env) [] (backTo cp (starEach [e, .Name "int" ip] env)) (backToKw cp (keywordEach [] env))) := by rfl) :
    EvB prog w n h (PySem.isTrue (.UnaryOp .Not (.Call (.Name "isinstance" np) [e, .Name "int" ip] [] cp) up) env whole) false := by
  refine eb_not (b := true) (eb_val ?_)
  intro A Q E s r g q
  refine Call_ (ev_built (v := .builtin "isinstance") (prog := prog) (w := w) (n := n) C e0 (by decide +kernel) hx (by decide) (by decide) A _ E s r g fun f s1 ef x1 => ?_) he
  subst ef
  refine callWith_builtin1 (args_cons (h1 A _ E s1 r (g.trans x1.gr) fun v s2 ev x2 => args_cons (ev_built (v := .type "int") (prog := prog) (w := w) (n := n) C e1 (by decide +kernel) hx1 (by decide) (by decide) A _ E s2 r ((g.trans x1.gr).trans x2.gr) fun f s3 ef x3 => args_nil ?_)) hst) hst
  subst ef
  obtain ⟨t, rfl⟩ := er_vi ev
  exact IsiPair.int_int (q _ _ rfl ((x1.trans x2).trans x3))
theorem bit_init (B : Bas (KK w) h₀) {args : List Value} {k : Nat} (gb : Gr h₀ s.heap) (X : ObjAt s.heap a BA d [] []) (hd0 : h₀.get? d = none) (hk : 1 ≤ k) (hk2 : k ≤ 4)
    (ha : args.map er = [.ref a, vi ((8 * k : Nat) : Int)]) (hn : 4 ≤ n) :
    MutP prog w n 93 args s [d] (fun v s' => v = .none ∧ ∃ l, BitAt s'.heap a d l (8 * k) (fun _ => false) ∧ s.heap.get? l = none) := by
  obtain ⟨n, rfl⟩ : ∃ m, n = m + 1 := ⟨n - 1, by omega⟩
  obtain ⟨a1, a2, rfl, h1, h2⟩ := m2 ha
  refine mut_enter (k := 0) (nm := ["self", "size"]) (args2 := [a1, a2]) (avs2 := [.ref a, vi ((8 * k : Nat) : Int)]) (ρ := (Res.part a BA d bitNm true [] []).and .emp)
    B gb ⟨X, trivial⟩ (by rfl) rfl (by kernel_rfl) (.of_eq rfl) (by simp [h1, h2]) (by decide +kernel) (by decide +kernel) (by decide +kernel) ?_
  intro env s1 hs H A Q r q1 q2
  have C := H.cx
  refine y_if (c := false) H r (eb_isint C (by kernel_rfl) (by kernel_rfl) (kindOf_of hs (by decide +kernel)) (kindOf_of hs (by decide +kernel)) (by tm_at "ev")) (fun q => absurd q (by decide)) fun _ s2 H2 _ => ?_
  refine wpAny_execs_nil ?_
  show wpAny _ _ (execs _ _) _ _ _
  have C := H2.cx
  refine y_if (c := false) H2 r (EvB.cast (by tm_at "eb") (by simp only [cmpI, decide_eq_false_iff_not]; omega)) (fun q => absurd q (by decide)) fun _ s3 H3 _ => ?_
  refine wpAny_execs_nil ?_
  show wpAny _ _ (execs _ _) _ _ _
  have C := H3.cx
  refine y_part (i := 0) H3 r (cls_bit w) (P := fun v _ => er v = vi (k : Int)) (Eva.cast (by tm_at "ev") (congrArg vi ?_)) (fun s1 x1 => have C := H3.cx.gr x1.gr; by tm_at "ev") (by tm_at "at") rfl (by simp) (by decide) hd0 (.inl (by simp)) (by exact id) fun v s4 s5 pv x4 x5 hH => ?_
  · show -(Int.fdiv (-((8 * k : Nat) : Int)) 8) = k
    rw [show -((8 * k : Nat) : Int) = -(k : Int) * 8 by omega, Int.mul_fdiv_cancel _ (by decide)]
    omega
  obtain ⟨H5, hdx⟩ := hH .emp trivial (fun _ q => q.elim)
  rw [pv] at H5
  have C := H5.cx
  have O5 : PartAt s5.heap a BA d bitNm true [] [vi (k : Int)] := H5.own.1
  refine y_part (i := 1) H5 r (cls_bit w) (ev_listmul (k := k) C (by tm_at "ev") (ev_part C.inK (cls_bit w) O5 (by tm_at "ev") (by tm_at "at") rfl) (by omega)) (fun s1 x1 => have C := H5.cx.gr x1.gr; by tm_at "ev") (by tm_at "at") rfl (by simp) (by decide) hd0 (.inl (by simp)) hdx fun v s6 s7 pv x6 x7 hH => ?_
  obtain ⟨l, rfl, L6, hl⟩ := pv
  obtain ⟨H7, hdx⟩ := hH ⟨fun b => b = l, fun h => Ls h l (List.replicate k (vi 0)), fun h h' k x => x.at (k l · rfl), fun h x b hb => hb ▸ x.there⟩ L6 (fun b hb => hb ▸ hl)
  have C := H7.cx
  refine y_part (i := 2) H7 r (cls_bit w) (P := fun v _ => er v = vi ((8 * k : Nat) : Int)) (by tm_at "ev") (fun s1 x1 => have C := H7.cx.gr x1.gr; by tm_at "ev") (by tm_at "at") rfl (by simp) (by decide) hd0 (.inl (by simp)) hdx fun v s8 s9 pv x8 x9 hH => ?_
  obtain ⟨H9, hdx⟩ := hH .emp trivial (fun _ q => q.elim)
  rw [pv] at H9
  refine wpAny_execs_nil (q2 _ ⟨rfl, l, ⟨List.replicate k 0, ?_, ?_, Enc.zero k⟩, ?_⟩ H9.sx)
  · have O := H9.own.1
    have e : 8 * k / 8 = k := by omega
    rw [e]
    exact O
  · rw [List.map_replicate]
    exact H9.own.2.1.2
  · have x : SX [d] s s5 := H5.sx
    rcases x.pre hl with q | q
    · exfalso
      obtain ⟨o, e⟩ := (Res.part a BA d bitNm true [] [vi (k : Int)]).ex _ O5 d (.inr rfl)
      rw [List.mem_singleton.mp q, e] at hl; cases hl
    · exact q
theorem ev_bitnew {np cp : Pos} {e : Expr} {k : Nat} (C : Cx (KK w) h₀ env nm vals h) (hx : env.kindOf "Bitarray" = some .globalImplicit) (h1 : Eva prog w n h (eval e env) (vi ((8 * k : Nat) : Int))) (hk : 1 ≤ k) (hk2 : k ≤ 4) (hn : 5 ≤ n)
    (hst : starEach [e] env = (false, eval e env) :: starEach [] env := by rfl) (hplain : (backTo cp (starEach [e] env)).any (·.1) = false := by rfl)
    (he : eval (.Call (.Name "Bitarray" np) [e] [] cp) env = (do callWith cp (← eval (.Name "Bitarray" np) env) [] (backTo cp (starEach [e] env)) (backToKw cp (keywordEach [] env))) := by rfl) :
    EvaP prog w n h (eval (.Call (.Name "Bitarray" np) [e] [] cp) env) fun v h' => ∃ b d l, v = .ref b ∧ BitAt h' b d l (8 * k) (fun _ => false) ∧ [b, d, l].Nodup ∧ ∀ x ∈ [b, d, l], h.get? x = none := by
  intro A Q E s r g q
  obtain ⟨n, rfl⟩ : ∃ m, n = m + 1 := ⟨n - 1, by omega⟩
  refine Call_ (ev_glob (v := .ref BA) (prog := prog) (w := w) (n := n) C (by kernel_rfl) hx (by decide) A _ E s (r.mono (by omega)) g fun f s1 ef x1 => ?_) he
  obtain rfl := er_ref ef
  refine wp_callWith (n := n + 1) C.inK r (g.trans x1.gr) (by kernel_rfl) (el1 h1 hst) (fun vs' s2 hv x2 => ?_) hplain (.inl (by nofun))
  obtain ⟨u, rfl, hu⟩ := m1 hv
  have g2 := (g.trans x1.gr).trans x2.gr
  refine wpAny_call (mk_obj (fI := 93) (K := KK w) (C.gr g2).inK (by kernel_rfl) (by kernel_rfl) (by kernel_rfl) r fun b d s3 hne x3 hb hd O A' r' => ?_)
  refine bit_init C.bs ((C.gb.trans g2).trans x3.gr) O (Gr.none (C.gb.trans g2) hd) hk hk2 (by show List.map er [_, _] = _; rw [List.map_cons, List.map_cons, hu]; rfl) (by omega) A' _ r' fun v s4 p x4 => ?_
  obtain ⟨rfl, l, X4, hl⟩ := p
  refine And.intro rfl ?_
  have hbl : b ≠ l := fun z => by rw [← z, O.ho] at hl; cases hl
  have hdl : d ≠ l := fun z => by obtain ⟨es, kk, e, _⟩ := O.hd; rw [← z, e] at hl; cases hl
  refine q _ _ ⟨b, d, l, rfl, X4, by simp [hne, hbl, hdl], ?_⟩ (((x1.trans x2).trans x3).step x4 fun y hy => .inr (by rw [List.mem_singleton.mp hy]; exact Gr.none (x1.trans x2).gr hd))
  intro y hy
  simp only [List.mem_cons, List.not_mem_nil, or_false] at hy
  rcases hy with z | z | z <;> subst z
  · exact Gr.none g2 hb
  · exact Gr.none g2 hd
  · exact Gr.none (g2.trans x3.gr) hl
end
end Mine
end
section
open PySem PySem.W PyProof.Rows PySem.Calls
set_option Elab.async false
set_option maxRecDepth 100000
set_option maxHeartbeats 4000000
set_option linter.unusedVariables false
set_option pp.deepTerms false
set_option pp.maxSteps 700
namespace Mine
local macro_rules | `(tactic| tm_at "at") => `(tactic| with_reducible (repeat (first | exact At.head | apply At.tail)))
local macro_rules | `(tactic| tm_at "ok") => `(tactic| first | trivial | assumption | (simp only [okI]; omega) | (simp only [okI]; mul_fits))
local macro_rules | `(tactic| tm_at "bop") => `(tactic| exact fun _ _ => bo_any (by tm_at "ok"))
local macro_rules | `(tactic| tm_at "cm") => `(tactic| exact fun _ _ => co_any rfl)
local macro_rules | `(tactic| tm_at "obj") => `(tactic| first | exact QFAt.ob (by assumption) | assumption)
local macro_rules | `(tactic| tm_at "cls") => `(tactic| first | exact cls_qf _ | exact cls_bit _)
local macro_rules | `(tactic| tm_at "lt") => `(tactic| first | assumption | omega)
local macro_rules | `(tactic| tm_at "bitx") => `(tactic| first | exact QFAt.bo (by assumption) | exact QFAt.bc (by assumption) | exact QFAt.bs (by assumption))
local macro_rules | `(tactic| tm_at "ev") => `(tactic| first
  | with_reducible exact ev_int | with_reducible exact ev_true | with_reducible exact ev_none | with_reducible exact ev_str
  | ((with_reducible refine' ev_loc ?h1 ?h2 ?h3); (case h1 => assumption); (case h2 => tm_at "at"); (case h3 => rfl))
  | ((with_reducible refine' ev_part (Cx.inK ?h1) ?h2 ?h3 ?h4 ?h5 ?h6 ?h7 ?h8); (case h1 => assumption); (case h4 => tm_at "ev"); (case h3 => assumption); (case h2 => tm_at "cls"); (case h5 => tm_at "at"); (case h6 => rfl); (case h7 => rfl); (case h8 => rfl))
  | ((with_reducible refine' ev_attr (Cx.inK ?h1) ?h2 ?h3 ?h4 ?h5 ?h6 ?h7 ?h8); (case h1 => assumption); (case h4 => tm_at "ev"); (case h3 => tm_at "obj"); (case h2 => tm_at "cls"); (case h5 => tm_at "at"); (case h6 => rfl); (case h7 => rfl); (case h8 => rfl))
  | ((with_reducible refine' ev_bin ?h1 ?h2 ?h3); (case h1 => tm_at "ev"); (case h2 => tm_at "ev"); (case h3 => tm_at "bop"))
  | ((with_reducible refine' ev_bit ?h1 ?h2 ?h3 ?h4 ?h5 ?h6 ?h7 ?h8); (case h1 => assumption); (case h3 => tm_at "ev"); (case h4 => tm_at "ev"); (case h2 => tm_at "bitx"); (case h5 => tm_at "lt"); (case h6 => tm_at "lt"); (case h7 => tm_at "lt"); (case h8 => (intros; rfl)))
  | ((with_reducible refine' ev_un ?h1 ?h2); (case h1 => tm_at "ev"); (case h2 => exact fun _ => uo_any rfl)))
local macro_rules | `(tactic| tm_at "eb") => `(tactic| first
  | ((with_reducible refine' eb_cmp ?h1 ?h2 ?h3 ?h4); (case h1 => tm_at "ev"); (case h2 => tm_at "ev"); (case h3 => tm_at "cm"); (case h4 => rfl))
  | ((with_reducible refine' eb_bool ?h1); (case h1 => tm_at "eb"))
  | ((with_reducible refine' eb_or ?h1 ?h2); (case h1 => tm_at "eb"); (case h2 => tm_at "eb"))
  | ((with_reducible refine' eb_and ?h1 ?h2); (case h1 => tm_at "eb"); (case h2 => tm_at "eb"))
  | with_reducible exact eb_or_nil | with_reducible exact eb_and_nil
  | ((with_reducible refine' eb_not ?h1); (case h1 => tm_at "eb")))
def QS.new (q : Nat) (auto : Bool) (hf : Addr) : QS := ⟨q, fun _ => false, fun _ => false, fun _ => false, fun _ => 0, 0, auto, hf⟩
theorem nodup_new {h : Heap} {l1 l2 : List Addr} (e1 : ∀ x ∈ l1, ∃ o, h.get? x = some o) (e2 : ∀ x ∈ l2, h.get? x = none) (n1 : l1.Nodup) (n2 : l2.Nodup) : (l1 ++ l2).Nodup :=
  List.nodup_append.mpr ⟨n1, n2, fun x hx y hy e => by subst e; obtain ⟨o, z⟩ := e1 x hx; rw [e2 x hy] at z; cases z⟩
section
variable {prog : Program} {w : World} {n : Nat} {h h₀ : Heap} {env : Env} {K : Frag} {nm : List Str} {vals : List (Option Value)} {a C d : Addr} {D : List Addr} {R ρ ρx : Res} {s₀ s s' : Shared} {A : Around} {E : Value → Shared → Prop} {fn : List Str} {fresh : Bool} {old new : List Value}
theorem q_params (B : Bas (KK w) h₀) {args : List Value} {q : Nat} {auto : Bool} {hf : Addr} (gb : Gr h₀ s.heap) (X : PartAt s.heap a QFc d qfNm fresh old []) (hold : fresh = false → old.length = 13) (hd0 : h₀.get? d = none) (h3 : 3 ≤ q) (h5 : q ≤ 5)
    (ha : args.map er = [.ref a, vi (q : Int), .bool auto, .ref hf]) (hn : 6 ≤ n) :
    MutP prog w n 209 args s [d] (fun v s' => v = .none ∧ ∃ F, F.d = d ∧ QFAt s'.heap a F (.new q auto hf) ∧ ∀ b ∈ F.all a, b = a ∨ b = d ∨ s.heap.get? b = none) := by
  obtain ⟨n, rfl⟩ : ∃ m, n = m + 1 := ⟨n - 1, by omega⟩
  obtain ⟨a1, a2, a3, a4, rfl, e1, e2, e3, e4⟩ := m4 ha
  refine mut_enter (k := 0) (nm := ["self", "quotient", "auto_expand", "hash_function"]) (args2 := [a1, a2, a3, a4]) (avs2 := [.ref a, vi (q : Int), .bool auto, .ref hf]) (ρ := (Res.part a QFc d qfNm fresh old []).and .emp)
    B gb ⟨X, trivial⟩ (by rfl) rfl (by kernel_rfl) (.of_eq rfl) (by simp [e1, e2, e3, e4]) (by decide +kernel) (by decide +kernel) (by decide +kernel) ?_
  intro env s1 hs H A Q r q1 q2
  have hN : (2 : Nat) ^ q = 8 * 2 ^ (q - 3) := by rw [show (8 : Nat) = 2 ^ 3 from rfl, ← Nat.pow_add]; congr 1; omega
  have hq : q - 3 = 0 ∨ q - 3 = 1 ∨ q - 3 = 2 := by omega
  have hk1 : 1 ≤ 2 ^ (q - 3) := Nat.one_le_two_pow
  have hk4 : 2 ^ (q - 3) ≤ 4 := by rcases hq with z | z | z <;> rw [z] <;> decide
  have C := H.cx
  refine y_part (i := 0) H r (cls_qf w) (P := fun v _ => er v = vi (q : Int)) (by tm_at "ev") (fun s1 x1 => have C := H.cx.gr x1.gr; by tm_at "ev") (by tm_at "at") rfl (fun e => by simp [hold e]) (by decide) hd0 (.inl (by simp)) (by exact id) fun v _ s2 pv _ _ hH => ?_
  obtain ⟨H2, hdx⟩ := hH .emp trivial (fun _ q => q.elim)
  rw [pv] at H2
  clear hH
  have C := H2.cx
  refine y_part (i := 1) H2 r (cls_qf w) (P := fun v _ => er v = vi ((32 - q : Nat) : Int)) (Eva.cast (by tm_at "ev") (congrArg vi (by show (32 : Int) - q = _; omega))) (fun s1 x1 => have C := H2.cx.gr x1.gr; by tm_at "ev") (by tm_at "at") rfl (fun e => by simp [hold e]) (by decide) hd0 (.inl (by simp)) hdx fun v _ s3 pv _ _ hH => ?_
  obtain ⟨H3, hdx⟩ := hH .emp trivial (fun _ q => q.elim)
  rw [pv] at H3
  clear hH
  have C := H3.cx
  have O : PartAt s3.heap a QFc d qfNm fresh old [vi (q : Int), vi ((32 - q : Nat) : Int)] := H3.own.1
  refine y_part (i := 2) H3 r (cls_qf w) (P := fun v _ => er v = vi ((2 ^ q : Nat) : Int)) (Eva.cast (by tm_at "ev") (congrArg vi (by rw [show arI .LShift 1 (q : Int) = _ from shl_nat 1 q, Nat.one_mul]))) (fun s1 x1 => have C := H3.cx.gr x1.gr; by tm_at "ev") (by tm_at "at") rfl (fun e => by simp [hold e]) (by decide) hd0 (.inl (by simp)) hdx fun v _ s4 pv _ _ hH => ?_
  obtain ⟨H4, hdx⟩ := hH .emp trivial (fun _ q => q.elim)
  rw [pv] at H4
  clear hH
  have C := H4.cx
  have O : PartAt s4.heap a QFc d qfNm fresh old [vi (q : Int), vi ((32 - q : Nat) : Int), vi ((2 ^ q : Nat) : Int)] := H4.own.1
  refine y_part (i := 3) H4 r (cls_qf w) (P := fun v _ => er v = vi ((2 ^ q - 1 : Nat) : Int)) (Eva.cast (by tm_at "ev") (congrArg vi (by have := Nat.one_le_two_pow (n := q); show ((2 ^ q : Nat) : Int) - 1 = _; omega))) (fun s1 x1 => have C := H4.cx.gr x1.gr; by tm_at "ev") (by tm_at "at") rfl (fun e => by simp [hold e]) (by decide) hd0 (.inl (by simp)) hdx fun v _ s5 pv _ _ hH => ?_
  obtain ⟨H5, hdx⟩ := hH .emp trivial (fun _ q => q.elim)
  rw [pv] at H5
  clear hH
  have C := H5.cx
  refine y_part (i := 4) H5 r (cls_qf w) (P := fun v _ => er v = vi 0) (by tm_at "ev") (fun s1 x1 => have C := H5.cx.gr x1.gr; by tm_at "ev") (by tm_at "at") rfl (fun e => by simp [hold e]) (by decide) hd0 (.inl (by simp)) hdx fun v _ s6 pv _ _ hH => ?_
  obtain ⟨H6, hdx⟩ := hH .emp trivial (fun _ q => q.elim)
  rw [pv] at H6
  clear hH
  have C := H6.cx
  refine y_part (i := 5) H6 r (cls_qf w) (P := fun v _ => er v = .bool auto) (by tm_at "ev") (fun s1 x1 => have C := H6.cx.gr x1.gr; by tm_at "ev") (by tm_at "at") rfl (fun e => by simp [hold e]) (by decide) hd0 (.inl (by simp)) hdx fun v _ s7 pv _ _ hH => ?_
  obtain ⟨H7, hdx⟩ := hH .emp trivial (fun _ q => q.elim)
  rw [pv] at H7
  clear hH
  have C := H7.cx
  refine y_part (i := 6) H7 r (cls_qf w) (P := fun v _ => er v = .ref hf) (ev_ifexp (c := false) (eb_cmp (x := .ref hf) (y := .none) (by tm_at "ev") (by tm_at "ev") (fun x' y' ex ey => by rw [er_ref ex, er_none ey]; exact co_is (x := .none) (y := .none) rfl rfl)) (fun q => nomatch q) (fun _ => by tm_at "ev")) (fun s1 x1 => have C := H7.cx.gr x1.gr; by tm_at "ev") (by tm_at "at") rfl (fun e => by simp [hold e]) (by decide) hd0 (.inl (by simp)) hdx fun v _ s8 pv _ _ hH => ?_
  obtain ⟨H8, hdx⟩ := hH .emp trivial (fun _ q => q.elim)
  rw [pv] at H8
  clear hH
  have C := H8.cx
  have O : PartAt s8.heap a QFc d qfNm fresh old [vi (q : Int), vi ((32 - q : Nat) : Int), vi ((2 ^ q : Nat) : Int), vi ((2 ^ q - 1 : Nat) : Int), vi 0, .bool auto, .ref hf] := H8.own.1
  refine y_if (c := false) H8 r (EvB.cast (by tm_at "eb") (by simp only [cmpI, decide_eq_false_iff_not]; omega)) (fun q => nomatch q) fun _ s9 H9 _ => ?_
  have C := H9.cx
  have O : PartAt s9.heap a QFc d qfNm fresh old [vi (q : Int), vi ((32 - q : Nat) : Int), vi ((2 ^ q : Nat) : Int), vi ((2 ^ q - 1 : Nat) : Int), vi 0, .bool auto, .ref hf] := H9.own.1
  refine y_if (c := false) H9 r (EvB.cast (by tm_at "eb") (by simp only [cmpI, decide_eq_false_iff_not]; omega)) (fun q => nomatch q) fun _ s10 H10 _ => ?_
  have C := H10.cx
  refine y_part (i := 7) H10 r (cls_qf w) (P := fun v _ => er v = vs "L") (by tm_at "ev") (fun s1 x1 => have C := H10.cx.gr x1.gr; by tm_at "ev") (by tm_at "at") rfl (fun e => by simp [hold e]) (by decide) hd0 (.inl (by simp)) hdx fun v _ s11 pv _ _ hH => ?_
  obtain ⟨H11, hdx⟩ := hH .emp trivial (fun _ q => q.elim)
  rw [pv] at H11
  clear hH
  have C := H11.cx
  refine y_part (i := 8) H11 r (cls_qf w) (P := fun v _ => er v = vi 32) (by tm_at "ev") (fun s1 x1 => have C := H11.cx.gr x1.gr; by tm_at "ev") (by tm_at "at") rfl (fun e => by simp [hold e]) (by decide) hd0 (.inl (by simp)) hdx fun v _ s12 pv _ _ hH => ?_
  obtain ⟨H12, hdx⟩ := hH .emp trivial (fun _ q => q.elim)
  rw [pv] at H12
  clear hH
  refine wpAny_execs_nil (wpAny_execs_nil ?_)
  show wpAny _ _ (execs _ _) _ _ _
  have C := H12.cx
  have O : PartAt s12.heap a QFc d qfNm fresh old [vi (q : Int), vi ((32 - q : Nat) : Int), vi ((2 ^ q : Nat) : Int), vi ((2 ^ q - 1 : Nat) : Int), vi 0, .bool auto, .ref hf, vs "L", vi 32] := H12.own.1
  refine y_part (i := 9) H12 r (cls_qf w) (ev_bitnew (k := 2 ^ (q - 3)) C (kindOf_of hs (by decide +kernel)) (Eva.cast (by tm_at "ev") (by rw [hN])) hk1 hk4 (by omega)) (fun s1 x1 => have C := H12.cx.gr x1.gr; by tm_at "ev") (by tm_at "at") rfl (fun e => by simp [hold e]) (by decide) hd0 (.inl (by simp)) hdx fun v _ s13 pv _ _ hH => ?_
  obtain ⟨bo, bod, bol, rfl, X13, nd1, nw1⟩ := pv
  obtain ⟨H13, hdx⟩ := hH (.bit bo bod bol (8 * 2 ^ (q - 3)) fun _ => false) X13 nw1
  clear hH
  have C := H13.cx
  have O : PartAt s13.heap a QFc d qfNm fresh old [vi (q : Int), vi ((32 - q : Nat) : Int), vi ((2 ^ q : Nat) : Int), vi ((2 ^ q - 1 : Nat) : Int), vi 0, .bool auto, .ref hf, vs "L", vi 32, .ref bo] := H13.own.1
  refine y_part (i := 10) H13 r (cls_qf w) (ev_bitnew (k := 2 ^ (q - 3)) C (kindOf_of hs (by decide +kernel)) (Eva.cast (by tm_at "ev") (by rw [hN])) hk1 hk4 (by omega)) (fun s1 x1 => have C := H13.cx.gr x1.gr; by tm_at "ev") (by tm_at "at") rfl (fun e => by simp [hold e]) (by decide) hd0 (.inl (by simp)) hdx fun v _ s14 pv _ _ hH => ?_
  obtain ⟨bc, bcd, bcl, rfl, X14, nd2, nw2⟩ := pv
  obtain ⟨H14, hdx⟩ := hH (.bit bc bcd bcl (8 * 2 ^ (q - 3)) fun _ => false) X14 nw2
  clear hH
  have C := H14.cx
  have O : PartAt s14.heap a QFc d qfNm fresh old [vi (q : Int), vi ((32 - q : Nat) : Int), vi ((2 ^ q : Nat) : Int), vi ((2 ^ q - 1 : Nat) : Int), vi 0, .bool auto, .ref hf, vs "L", vi 32, .ref bo, .ref bc] := H14.own.1
  refine y_part (i := 11) H14 r (cls_qf w) (ev_bitnew (k := 2 ^ (q - 3)) C (kindOf_of hs (by decide +kernel)) (Eva.cast (by tm_at "ev") (by rw [hN])) hk1 hk4 (by omega)) (fun s1 x1 => have C := H14.cx.gr x1.gr; by tm_at "ev") (by tm_at "at") rfl (fun e => by simp [hold e]) (by decide) hd0 (.inl (by simp)) hdx fun v _ s15 pv _ _ hH => ?_
  obtain ⟨bs, bsd, bsl, rfl, X15, nd3, nw3⟩ := pv
  obtain ⟨H15, hdx⟩ := hH (.bit bs bsd bsl (8 * 2 ^ (q - 3)) fun _ => false) X15 nw3
  clear hH
  have C := H15.cx
  have O : PartAt s15.heap a QFc d qfNm fresh old [vi (q : Int), vi ((32 - q : Nat) : Int), vi ((2 ^ q : Nat) : Int), vi ((2 ^ q - 1 : Nat) : Int), vi 0, .bool auto, .ref hf, vs "L", vi 32, .ref bo, .ref bc, .ref bs] := H15.own.1
  refine y_part (i := 12) H15 r (cls_qf w) (ev_listmul (k := 2 ^ q) C (by tm_at "ev") (by tm_at "ev") (by omega)) (fun s1 x1 => have C := H15.cx.gr x1.gr; by tm_at "ev") (by tm_at "at") rfl (fun e => by simp [hold e]) (by decide) hd0 (.inl (by simp)) hdx fun v _ s16 pv _ _ hH => ?_
  obtain ⟨fl, rfl, L16, nw4⟩ := pv
  obtain ⟨H16, hdx⟩ := hH ⟨fun b => b = fl, fun h => Ls h fl (List.replicate (2 ^ q) (vi 0)), fun h h' k x => x.at (k fl · rfl), fun h x b hb => hb ▸ x.there⟩ L16 (fun b hb => hb ▸ nw4)
  clear hH
  refine wpAny_execs_nil (q2 _ ⟨rfl, ⟨d, bo, bod, bol, bc, bcd, bcl, bs, bsd, bsl, fl⟩, rfl, ⟨?_, ?_, ?_, ?_, ?_, ?_, h3, h5⟩, ?_⟩ H16.sx)
  · have O := H16.own.1
    cases fresh with
    | true => exact O
    | false =>
      have e : old.drop 13 = [] := List.drop_eq_nil_of_le (Nat.le_of_eq (hold rfl))
      have O2 : ObjAt s16.heap a QFc d qfNm ([vi (q : Int), vi ((32 - q : Nat) : Int), vi ((2 ^ q : Nat) : Int), vi ((2 ^ q - 1 : Nat) : Int), vi 0, .bool auto, .ref hf, vs "L", vi 32, .ref bo, .ref bc, .ref bs, .ref fl] ++ old.drop 13) := O
      rw [e] at O2
      exact O2
  · have := H16.own.2.1.1.1.2; show BitAt _ _ _ _ (2 ^ q) _; rw [hN]; exact this
  · have := H16.own.2.1.1.2; show BitAt _ _ _ _ (2 ^ q) _; rw [hN]; exact this
  · have := H16.own.2.1.2; show BitAt _ _ _ _ (2 ^ q) _; rw [hN]; exact this
  · have := H16.own.2.2
    show Ls _ _ ((List.range (2 ^ q)).map fun _ => vi ((0 : Nat) : Int))
    rw [List.map_const', List.length_range]
    exact this
  · have hne : a ≠ d := ObjAt.ne H12.own.1
    have pa : ∀ {s : Shared} {new}, PartAt s.heap a QFc d qfNm fresh old new → ∀ x ∈ [a, d], ∃ o, s.heap.get? x = some o := fun O x hx => (Res.part a QFc d qfNm fresh old _).ex _ O x (by show x = a ∨ x = d; simpa using hx)
    have bt : ∀ {s : Shared} {b d l : Addr}, BitAt s.heap b d l (8 * 2 ^ (q - 3)) (fun _ => false) → ∀ x ∈ [b, d, l], ∃ o, s.heap.get? x = some o := fun X x hx => (Res.bit _ _ _ _ _).ex _ X x hx
    have m : ∀ {P : Addr → Prop} {l1 l2 : List Addr}, (∀ x ∈ l1, P x) → (∀ x ∈ l2, P x) → ∀ x ∈ l1 ++ l2, P x := fun h1 h2 x hx => (List.mem_append.mp hx).elim (h1 x) (h2 x)
    have n1 : ([a, d] ++ [bo, bod, bol]).Nodup := nodup_new (pa H12.own.1) nw1 (by simp [hne]) nd1
    have n2 : (([a, d] ++ [bo, bod, bol]) ++ [bc, bcd, bcl]).Nodup := nodup_new (m (pa H13.own.1) (bt H13.own.2.2)) nw2 n1 nd2
    have n3 : ((([a, d] ++ [bo, bod, bol]) ++ [bc, bcd, bcl]) ++ [bs, bsd, bsl]).Nodup := nodup_new (m (m (pa H14.own.1) (bt H14.own.2.1.2)) (bt H14.own.2.2)) nw3 n2 nd3
    exact nodup_new (l2 := [fl]) (m (m (m (pa H15.own.1) (bt H15.own.2.1.1.2)) (bt H15.own.2.1.2)) (bt H15.own.2.2)) (fun x hx => by rw [List.mem_singleton.mp hx]; exact nw4) n3 (by simp)
  · have m : ∀ {P : Addr → Prop} {l1 l2 : List Addr}, (∀ x ∈ l1, P x) → (∀ x ∈ l2, P x) → ∀ x ∈ l1 ++ l2, P x := fun h1 h2 x hx => (List.mem_append.mp hx).elim (h1 x) (h2 x)
    have pre : ∀ {sk : Shared} {x : Addr}, SX [d] s sk → sk.heap.get? x = none → x = a ∨ x = d ∨ s.heap.get? x = none := fun k e => .inr ((k.pre e).imp (fun z => by simpa using z) id)
    have f0 : ∀ x ∈ [a, d], x = a ∨ x = d ∨ s.heap.get? x = none := fun x hx => by
      simp only [List.mem_cons, List.not_mem_nil, or_false] at hx
      exact hx.imp id .inl
    exact m (l2 := [fl]) (m (m (m f0 fun x hx => pre H12.sx (nw1 x hx)) fun x hx => pre H13.sx (nw2 x hx)) fun x hx => pre H14.sx (nw3 x hx)) fun x hx => by rw [List.mem_singleton.mp hx]; exact pre H15.sx nw4
end
end Mine
end
section
open PySem PySem.W PyProof.Rows PySem.Calls
set_option Elab.async false
set_option maxRecDepth 100000
set_option maxHeartbeats 4000000
set_option linter.unusedVariables false
set_option pp.deepTerms false
set_option pp.maxSteps 700
namespace Mine
local macro_rules | `(tactic| tm_at "at") => `(tactic| with_reducible (repeat (first | exact At.head | apply At.tail)))
local macro_rules | `(tactic| tm_at "ok") => `(tactic| first | trivial | assumption | (simp only [okI]; omega) | (simp only [okI]; mul_fits))
local macro_rules | `(tactic| tm_at "bop") => `(tactic| exact fun _ _ => bo_any (by tm_at "ok"))
local macro_rules | `(tactic| tm_at "cm") => `(tactic| exact fun _ _ => co_any rfl)
local macro_rules | `(tactic| tm_at "obj") => `(tactic| first | exact QFAt.ob (by assumption) | assumption)
local macro_rules | `(tactic| tm_at "cls") => `(tactic| first | exact cls_qf _ | exact cls_bit _)
local macro_rules | `(tactic| tm_at "lt") => `(tactic| first | assumption | omega)
local macro_rules | `(tactic| tm_at "bitx") => `(tactic| first | exact QFAt.bo (by assumption) | exact QFAt.bc (by assumption) | exact QFAt.bs (by assumption))
local macro_rules | `(tactic| tm_at "ev") => `(tactic| first
  | with_reducible exact ev_int | with_reducible exact ev_true | with_reducible exact ev_none | with_reducible exact ev_str
  | ((with_reducible refine' ev_loc ?h1 ?h2 ?h3); (case h1 => assumption); (case h2 => tm_at "at"); (case h3 => rfl))
  | ((with_reducible refine' ev_attr (Cx.inK ?h1) ?h2 ?h3 ?h4 ?h5 ?h6 ?h7 ?h8); (case h1 => assumption); (case h4 => tm_at "ev"); (case h3 => tm_at "obj"); (case h2 => tm_at "cls"); (case h5 => tm_at "at"); (case h6 => rfl); (case h7 => rfl); (case h8 => rfl))
  | ((with_reducible refine' ev_bin ?h1 ?h2 ?h3); (case h1 => tm_at "ev"); (case h2 => tm_at "ev"); (case h3 => tm_at "bop"))
  | ((with_reducible refine' ev_bit ?h1 ?h2 ?h3 ?h4 ?h5 ?h6 ?h7 ?h8); (case h1 => assumption); (case h3 => tm_at "ev"); (case h4 => tm_at "ev"); (case h2 => tm_at "bitx"); (case h5 => tm_at "lt"); (case h6 => tm_at "lt"); (case h7 => tm_at "lt"); (case h8 => (intros; rfl)))
  | ((with_reducible refine' ev_un ?h1 ?h2); (case h1 => tm_at "ev"); (case h2 => exact fun _ => uo_any rfl)))
local macro_rules | `(tactic| tm_at "eb") => `(tactic| first
  | ((with_reducible refine' eb_cmp ?h1 ?h2 ?h3 ?h4); (case h1 => tm_at "ev"); (case h2 => tm_at "ev"); (case h3 => tm_at "cm"); (case h4 => rfl))
  | ((with_reducible refine' eb_bool ?h1); (case h1 => tm_at "eb"))
  | ((with_reducible refine' eb_or ?h1 ?h2); (case h1 => tm_at "eb"); (case h2 => tm_at "eb"))
  | ((with_reducible refine' eb_and ?h1 ?h2); (case h1 => tm_at "eb"); (case h2 => tm_at "eb"))
  | with_reducible exact eb_or_nil | with_reducible exact eb_and_nil
  | ((with_reducible refine' eb_not ?h1); (case h1 => tm_at "eb")))
theorem Prp.of {K : Frag} {C : Addr} {name : Str} {f : Addr} (p : Addr) (h1 : findIn K (.ref C) name = some (some (.ref p))) (h2 : specialIn K (.ref p) "__get__" = some (some (.builtin "property.__get__"))) (h3 : takesIn K (.ref p) = some true) (h4 : (recIn K p "property").bind List.head? = some (.ref f)) : Prp K C name f := by
  cases q : recIn K p "property" with
  | none => rw [q] at h4; cases h4
  | some l =>
    rw [q] at h4
    cases l with
    | nil => cases h4
    | cons x l => cases h4; exact ⟨p, l, h1, h2, h3, q⟩
theorem prp_quotient (w : World) : Prp (KK w) QFc "quotient" 223 := .of 224 (by kernel_rfl) (by kernel_rfl) (by kernel_rfl) (by kernel_rfl)
theorem prp_remainder (w : World) : Prp (KK w) QFc "remainder" 231 := .of 232 (by kernel_rfl) (by kernel_rfl) (by kernel_rfl) (by kernel_rfl)
theorem prp_num (w : World) : Prp (KK w) QFc "num_elements" 239 := .of 240 (by kernel_rfl) (by kernel_rfl) (by kernel_rfl) (by kernel_rfl)
theorem prp_added (w : World) : Prp (KK w) QFc "elements_added" 247 := .of 248 (by kernel_rfl) (by kernel_rfl) (by kernel_rfl) (by kernel_rfl)
theorem prp_bits (w : World) : Prp (KK w) QFc "bits_per_elm" 255 := .of 256 (by kernel_rfl) (by kernel_rfl) (by kernel_rfl) (by kernel_rfl)
theorem prp_size (w : World) : Prp (KK w) QFc "size" 263 := .of 264 (by kernel_rfl) (by kernel_rfl) (by kernel_rfl) (by kernel_rfl)
theorem prp_auto (w : World) : Prp (KK w) QFc "auto_expand" 271 := .of 281 (by kernel_rfl) (by kernel_rfl) (by kernel_rfl) (by kernel_rfl)
section
variable {prog : Program} {w : World} {n : Nat} {h h₀ : Heap} {env : Env} {nm : List Str} {vals : List (Option Value)} {a d : Addr} {F F' : FP} {t t' : QS} {D : List Addr} {R ρ : Res} {s₀ s s' : Shared} {A : Around} {E : Value → Shared → Prop}
theorem handed_ref {v : Value} {u : Value} (e : er v = u) (hu : handedIn u = true := by rfl) : handedIn v = true := handed_er e hu
theorem q_quotient (B : Bas (KK w) h₀) (gb : Gr h₀ h) (X : QFAt h a F t) : FunP prog w (n + 1) h 223 [.ref a] (fun v _ => er v = vi (t.q : Int)) := by
  refine fun_enter (k := 0) (nm := ["self"]) (args2 := [.ref a]) (avs2 := [.ref a]) B gb (by rfl) rfl (by kernel_rfl) (fun _ _ => .of_eq rfl) rfl (by decide +kernel) (by decide +kernel) (by decide +kernel) ?_
  intro env s0 s g hs' H A Q r q1 q2
  have C := H.cx
  have X1 := X.gr H.own
  exact y_ret H r (P := fun v _ => er v = _) (by tm_at "ev") fun v s2 p H2 x2 => q1 v s2 p H2.sx
theorem q_remainder (B : Bas (KK w) h₀) (gb : Gr h₀ h) (X : QFAt h a F t) : FunP prog w (n + 1) h 231 [.ref a] (fun v _ => er v = vi ((32 - t.q : Nat) : Int)) := by
  refine fun_enter (k := 0) (nm := ["self"]) (args2 := [.ref a]) (avs2 := [.ref a]) B gb (by rfl) rfl (by kernel_rfl) (fun _ _ => .of_eq rfl) rfl (by decide +kernel) (by decide +kernel) (by decide +kernel) ?_
  intro env s0 s g hs' H A Q r q1 q2
  have C := H.cx
  have X1 := X.gr H.own
  exact y_ret H r (P := fun v _ => er v = _) (by tm_at "ev") fun v s2 p H2 x2 => q1 v s2 p H2.sx
theorem q_num (B : Bas (KK w) h₀) (gb : Gr h₀ h) (X : QFAt h a F t) : FunP prog w (n + 1) h 239 [.ref a] (fun v _ => er v = vi (t.N : Int)) := by
  refine fun_enter (k := 0) (nm := ["self"]) (args2 := [.ref a]) (avs2 := [.ref a]) B gb (by rfl) rfl (by kernel_rfl) (fun _ _ => .of_eq rfl) rfl (by decide +kernel) (by decide +kernel) (by decide +kernel) ?_
  intro env s0 s g hs' H A Q r q1 q2
  have C := H.cx
  have X1 := X.gr H.own
  exact y_ret H r (P := fun v _ => er v = _) (by tm_at "ev") fun v s2 p H2 x2 => q1 v s2 p H2.sx
theorem q_added (B : Bas (KK w) h₀) (gb : Gr h₀ h) (X : QFAt h a F t) : FunP prog w (n + 1) h 247 [.ref a] (fun v _ => er v = vi (t.cnt : Int)) := by
  refine fun_enter (k := 0) (nm := ["self"]) (args2 := [.ref a]) (avs2 := [.ref a]) B gb (by rfl) rfl (by kernel_rfl) (fun _ _ => .of_eq rfl) rfl (by decide +kernel) (by decide +kernel) (by decide +kernel) ?_
  intro env s0 s g hs' H A Q r q1 q2
  have C := H.cx
  have X1 := X.gr H.own
  exact y_ret H r (P := fun v _ => er v = _) (by tm_at "ev") fun v s2 p H2 x2 => q1 v s2 p H2.sx
theorem q_bits (B : Bas (KK w) h₀) (gb : Gr h₀ h) (X : QFAt h a F t) : FunP prog w (n + 1) h 255 [.ref a] (fun v _ => er v = vi 32) := by
  refine fun_enter (k := 0) (nm := ["self"]) (args2 := [.ref a]) (avs2 := [.ref a]) B gb (by rfl) rfl (by kernel_rfl) (fun _ _ => .of_eq rfl) rfl (by decide +kernel) (by decide +kernel) (by decide +kernel) ?_
  intro env s0 s g hs' H A Q r q1 q2
  have C := H.cx
  have X1 := X.gr H.own
  exact y_ret H r (P := fun v _ => er v = _) (by tm_at "ev") fun v s2 p H2 x2 => q1 v s2 p H2.sx
theorem q_size (B : Bas (KK w) h₀) (gb : Gr h₀ h) (X : QFAt h a F t) : FunP prog w (n + 1) h 263 [.ref a] (fun v _ => er v = vi (t.N : Int)) := by
  refine fun_enter (k := 0) (nm := ["self"]) (args2 := [.ref a]) (avs2 := [.ref a]) B gb (by rfl) rfl (by kernel_rfl) (fun _ _ => .of_eq rfl) rfl (by decide +kernel) (by decide +kernel) (by decide +kernel) ?_
  intro env s0 s g hs' H A Q r q1 q2
  have C := H.cx
  have X1 := X.gr H.own
  exact y_ret H r (P := fun v _ => er v = _) (by tm_at "ev") fun v s2 p H2 x2 => q1 v s2 p H2.sx
theorem q_auto (B : Bas (KK w) h₀) (gb : Gr h₀ h) (X : QFAt h a F t) : FunP prog w (n + 1) h 271 [.ref a] (fun v _ => er v = .bool t.auto) := by
  refine fun_enter (k := 0) (nm := ["self"]) (args2 := [.ref a]) (avs2 := [.ref a]) B gb (by rfl) rfl (by kernel_rfl) (fun _ _ => .of_eq rfl) rfl (by decide +kernel) (by decide +kernel) (by decide +kernel) ?_
  intro env s0 s g hs' H A Q r q1 q2
  have C := H.cx
  have X1 := X.gr H.own
  exact y_ret H r (P := fun v _ => er v = _) (by tm_at "ev") fun v s2 p H2 x2 => q1 v s2 p H2.sx
/-- a property read, for every property of a filter -/
theorem ev_qprop {x : Str} {f : Addr} {o : Expr} {pos : Pos} {u : Value} (C : Cx (KK w) h₀ env nm vals h) (X : QFAt h a F t) (Pr : Prp (KK w) QFc x f) (hc : ∀ n, FunP prog w (n + 1) h f [.ref a] (fun v _ => er v = u)) (h1 : Eva prog w n h (eval o env) (.ref a)) (hn : 2 ≤ n) (hu : handedIn u = true := by rfl)
    (he : eval (.Attribute o x pos) env = (do let o' ← eval o env; standAt pos.atName; let r ← holding [o'] (getAttr o' x true); letTemporaryGo o o' r; pure r) := by rfl) : Eva prog w n h (eval (.Attribute o x pos) env) u := by
  obtain ⟨n, rfl⟩ : ∃ m, n = m + 1 + 1 := ⟨n - 2, by omega⟩
  exact ev_prop C.inK (cls_qf w) X.ob Pr h1 (hc n) (fun v _ e => handed_er e hu) he
theorem mth_params (w : World) : Mth (KK w) QFc [] "_QuotientFilter__set_params" 209 := .of (by kernel_rfl) (by kernel_rfl) (by kernel_rfl) (by decide +kernel)
theorem q_init (B : Bas (KK w) h₀) {args : List Value} {q : Nat} {auto : Bool} {hf : Addr} (gb : Gr h₀ s.heap) (X : ObjAt s.heap a QFc d [] []) (hd0 : h₀.get? d = none) (h3 : 3 ≤ q) (h5 : q ≤ 5)
    (ha : args.map er = [.ref a, vi (q : Int), .bool auto, .ref hf]) (hn : 7 ≤ n) :
    MutP prog w n 202 args s [d] (fun v s' => v = .none ∧ ∃ F, F.d = d ∧ QFAt s'.heap a F (.new q auto hf) ∧ ∀ b ∈ F.all a, b = a ∨ b = d ∨ s.heap.get? b = none) := by
  obtain ⟨n, rfl⟩ : ∃ m, n = m + 1 := ⟨n - 1, by omega⟩
  obtain ⟨a1, a2, a3, a4, rfl, e1, e2, e3, e4⟩ := m4 ha
  refine mut_enter (k := 0) (nm := ["self", "quotient", "auto_expand", "hash_function"]) (args2 := [a1, a2, a3, a4]) (avs2 := [.ref a, vi (q : Int), .bool auto, .ref hf]) (ρ := Res.part a QFc d qfNm true [] [])
    B gb X (by rfl) rfl (by kernel_rfl) (binds_K (B.inK.keeps gb) rfl (by rfl) rfl rfl rfl) (by simp [e1, e2, e3, e4]) (by decide +kernel) (by decide +kernel) (by decide +kernel) ?_
  intro env s1 hs H A Q r q1 q2
  clear hs
  have C := H.cx
  refine y_if (c := false) H r (EvB.cast (by tm_at "eb") (by simp only [cmpI, Bool.or_false, Bool.or_eq_false_iff, decide_eq_false_iff_not]; omega)) (fun q => nomatch q) fun _ s2 H2 _ => ?_
  refine wpAny_execs_nil ?_
  show wpAny _ _ (execs _ _) _ _ _
  have C := H2.cx
  have O : ObjAt s2.heap a QFc d [] [] := H2.own
  refine y_callq H2 r (Cls.sub (cls_qf w) (by simp) (by simp)) O (mth_params w) (by tm_at "ev") (el_cons (by tm_at "ev") (el_cons (by tm_at "ev") (el1 (by tm_at "ev")))) fun vs' s3 hv x3 => ?_
  refine (q_params (fresh := true) (old := []) B (C.gb.trans x3.gr) (O.gr x3.gr) (fun q => nomatch q) hd0 h3 h5 (by rw [List.map_cons, hv]; rfl) (by omega)).call r fun v s4 p x4 => ?_
  obtain ⟨_, F, hF, X4, hw⟩ := p
  have k : SX [d] s s3 := H2.sx.transR x3
  refine wpAny_execs_nil (q2 _ ⟨rfl, F, hF, X4, fun b hb => ?_⟩ (k.trans x4))
  rcases hw b hb with z | z | z
  · exact .inl z
  · exact .inr (.inl z)
  · exact .inr ((k.pre z).imp (fun z => by simpa using z) id)
theorem ev_qfnew {np cp : Pos} {e1 e2 e3 : Expr} {q : Nat} {auto : Bool} {hf : Addr} (C : Cx (KK w) h₀ env nm vals h) (hx : env.kindOf "QuotientFilter" = some .globalImplicit) (h1 : Eva prog w n h (eval e1 env) (vi (q : Int))) (h2 : Eva prog w n h (eval e2 env) (.bool auto)) (h3 : Eva prog w n h (eval e3 env) (.ref hf)) (hq3 : 3 ≤ q) (hq5 : q ≤ 5) (hn : 8 ≤ n)
    (hst : starEach [e1, e2, e3] env = (false, eval e1 env) :: starEach [e2, e3] env := by rfl) (hst2 : starEach [e2, e3] env = (false, eval e2 env) :: starEach [e3] env := by rfl) (hst3 : starEach [e3] env = (false, eval e3 env) :: starEach [] env := by rfl) (hplain : (backTo cp (starEach [e1, e2, e3] env)).any (·.1) = false := by rfl)
    (he : eval (.Call (.Name "QuotientFilter" np) [e1, e2, e3] [] cp) env = (do callWith cp (← eval (.Name "QuotientFilter" np) env) [] (backTo cp (starEach [e1, e2, e3] env)) (backToKw cp (keywordEach [] env))) := by rfl) :
    EvaP prog w n h (eval (.Call (.Name "QuotientFilter" np) [e1, e2, e3] [] cp) env) fun v h' => ∃ a F, v = .ref a ∧ QFAt h' a F (.new q auto hf) ∧ ∀ x ∈ F.all a, h.get? x = none := by
  intro A Q E s r g q
  obtain ⟨n, rfl⟩ : ∃ m, n = m + 1 := ⟨n - 1, by omega⟩
  refine Call_ (ev_glob (v := .ref QFc) (prog := prog) (w := w) (n := n) C (by kernel_rfl) hx (by decide) A _ E s (r.mono (by omega)) g fun f s1 ef x1 => ?_) he
  obtain rfl := er_ref ef
  refine wp_callWith (n := n + 1) C.inK r (g.trans x1.gr) (by kernel_rfl) (el_cons h1 (el_cons h2 (el_cons h3 el_nil hst3) hst2) hst) (fun vs' s2 hv x2 => ?_) hplain (.inl (by nofun))
  have g2 := (g.trans x1.gr).trans x2.gr
  refine wpAny_call (mk_obj (fI := 202) (K := KK w) (C.gr g2).inK (by kernel_rfl) (by kernel_rfl) (by kernel_rfl) r fun b d s3 hne x3 hb hd O A' r' => ?_)
  refine q_init C.bs ((C.gb.trans g2).trans x3.gr) O (Gr.none (C.gb.trans g2) hd) hq3 hq5 (by show List.map er (_ :: vs') = _; rw [List.map_cons, hv]; rfl) (by omega) A' _ r' fun v s4 p x4 => ?_
  obtain ⟨rfl, F, hF, X4, hw⟩ := p
  refine And.intro rfl ?_
  refine q _ _ ⟨b, F, rfl, X4, fun y hy => ?_⟩ (((x1.trans x2).trans x3).step x4 fun y hy => .inr (by rw [List.mem_singleton.mp hy]; exact Gr.none (x1.trans x2).gr hd))
  rcases hw y hy with z | z | z
  · rw [z]; exact Gr.none g2 hb
  · rw [z]; exact Gr.none g2 hd
  · exact Gr.none (g2.trans x3.gr) z
/-! the hash function -/
def HashF (prog : Program) (w : World) (n : Nat) (hf : Addr) (Rf : Res) (f : Str → Nat) : Prop := ∀ h, Rf.I h → (∃ o fd, h.get? hf = some o ∧ o.data = .func fd) ∧ ∀ x args, args.map er = [vs x, vi 0] → FunP prog w n h hf args (fun v _ => er v = vi (f x : Int))
theorem ev_hash {o e1 e2 : Expr} {apos pos : Pos} {Rf : Res} {f : Str → Nat} {x : Str} {pl : Sem Bool} (C : Cx (KK w) h₀ env nm vals h) (X : QFAt h a F t) (hI : Rf.I h) (hF : HashF prog w n t.hf Rf f) (h0 : Eva prog w n h (eval o env) (.ref a)) (h1 : Eva prog w n h (eval e1 env) (vs x)) (h2 : Eva prog w n h (eval e2 env) (vi 0))
    (hst : starEach [e1, e2] env = (false, eval e1 env) :: starEach [e2] env := by rfl) (hst2 : starEach [e2] env = (false, eval e2 env) :: starEach [] env := by rfl) (hplain : (backTo pos (starEach [e1, e2] env)).any (·.1) = false := by rfl)
    (he : eval (.Call (.Attribute o "_hash_func" apos) [e1, e2] [] pos) env = (do
      let ov ← eval o env
      standAt apos.atName
      let (f, first) ← holding [ov] (getMethod ov "_hash_func" pl)
      callWith pos f first (backTo pos (starEach [e1, e2] env)) []) := by rfl) :
    Eva prog w n h (eval (.Call (.Attribute o "_hash_func" apos) [e1, e2] [] pos) env) (vi (f x : Int)) := by
  intro A Q E s r g q
  refine MethodCall_ (h0 A _ E s r g fun v' s1 p x1 => ?_) he
  obtain rfl := er_ref p
  have k1 := g.trans x1.gr
  obtain ⟨es, kk, I, En⟩ := (X.ob.gr k1).inst
  refine method_usual (C.gr k1).inK I (cls_qf w).ga (cls_qf w).gt ((cls_qf w).fld _ (by decide +kernel)) rfl ?_
  refine at_get (C.gr k1).inK (cls_qf w) (X.ob.gr k1) (i := 6) (by tm_at "at") rfl rfl A _ E s1 r (Gr.refl _) fun v s2 pv x2 => ?_
  obtain rfl := er_ref pv
  have k2 := k1.trans x2.gr
  obtain ⟨⟨o, fd, e1, e2⟩, hc⟩ := hF _ (Res.I_gr hI k2)
  refine callWith_function (o := o) (fd := fd) (cw_args hplain ?_ (fun q => nomatch q))
  refine el_cons h1 (el_cons h2 el_nil hst2) hst A _ E s2 r k2 fun vs s3 pv x3 => ⟨⟨x3.gr _ _ e1, e2⟩, ?_⟩
  exact (hc x vs pv).call A Q E s3 r x3.gr fun v s4 p x4 => q v s4 p ((x1.trans x2).trans (x3.trans x4))
theorem q_check (B : Bas (KK w) h₀) {args : List Value} {k : Str} {l : Int} {Rf : Res} {f : Str → Nat} (gb : Gr h₀ h) (X : QFAt h a F t) (hI : Rf.I h) (hF : ∀ n, 7 ≤ n → HashF prog w n t.hf Rf f) (hx : f k < 2 ^ 32) (hs : t.lk (f k) = some l) (ha : args.map er = [.ref a, vs k]) (hn : 9 ≤ n) :
    FunP prog w n h 316 args (fun v _ => er v = .bool (decide (l ≠ -1))) := by
  obtain ⟨n, rfl⟩ : ∃ m, n = m + 1 := ⟨n - 1, by omega⟩
  obtain ⟨a1, a2, rfl, h1, h2⟩ := m2 ha
  refine fun_enter (k := 1) (nm := ["self", "key", "_hash"]) (args2 := [a1, a2]) (avs2 := [.ref a, vs k]) B gb (by rfl) rfl (by kernel_rfl) (fun _ _ => .of_eq rfl) (by simp [h1, h2]) (by decide +kernel) (by decide +kernel) (by decide +kernel) ?_
  intro env s0 s g hs' H A Q r q1 q2
  clear hs'
  have C := H.cx
  have X1 := X.gr H.own
  refine y_assign (v := vi (f k : Int)) H r (ev_hash C X1 (Res.I_gr hI H.own) (hF n (by omega)) (by tm_at "ev") (by tm_at "ev") (by tm_at "ev")) (by tm_at "at") fun s2 H2 _ => ?_
  have C := H2.cx
  have X2 := X.gr H2.own
  refine y_ret H2 r (P := fun v _ => er v = .bool (decide (l ≠ -1))) ?_ fun v s2 p H2 x2 => q1 v s2 p H2.sx
  exact ev_mcall C.inK (cls_qf w) X2.ob (mth_check_alt w) (by tm_at "ev") (el1 (by tm_at "ev")) fun vs' hv => q_check_alt C.bs C.gb X2 hx hs (by rw [List.map_cons, hv]; rfl) (by omega)
theorem mth_check (w : World) : Mth (KK w) QFc qfNm "check" 316 := .of (by kernel_rfl) (by kernel_rfl) (by kernel_rfl) (by decide +kernel)
theorem mth_addk (w : World) : Mth (KK w) QFc qfNm "add" 288 := .of (by kernel_rfl) (by kernel_rfl) (by kernel_rfl) (by decide +kernel)
theorem q_contains (B : Bas (KK w) h₀) {args : List Value} {k : Str} {l : Int} {Rf : Res} {f : Str → Nat} (gb : Gr h₀ h) (X : QFAt h a F t) (hI : Rf.I h) (hF : ∀ n, 7 ≤ n → HashF prog w n t.hf Rf f) (hx : f k < 2 ^ 32) (hs : t.lk (f k) = some l) (ha : args.map er = [.ref a, vs k]) (hn : 10 ≤ n) :
    FunP prog w n h 216 args (fun v _ => er v = .bool (decide (l ≠ -1))) := by
  obtain ⟨n, rfl⟩ : ∃ m, n = m + 1 := ⟨n - 1, by omega⟩
  obtain ⟨a1, a2, rfl, h1, h2⟩ := m2 ha
  refine fun_enter (k := 0) (nm := ["self", "val"]) (args2 := [a1, a2]) (avs2 := [.ref a, vs k]) B gb (by rfl) rfl (by kernel_rfl) (fun _ _ => .of_eq rfl) (by simp [h1, h2]) (by decide +kernel) (by decide +kernel) (by decide +kernel) ?_
  intro env s0 s g hs' H A Q r q1 q2
  clear hs'
  have C := H.cx
  have X1 := X.gr H.own
  refine y_ret H r (P := fun v _ => er v = .bool (decide (l ≠ -1))) ?_ fun v s2 p H2 x2 => q1 v s2 p H2.sx
  exact ev_mcall C.inK (cls_qf w) X1.ob (mth_check w) (by tm_at "ev") (el1 (by tm_at "ev")) fun vs' hv => q_check C.bs C.gb X1 (Res.I_gr hI H.own) hF hx hs (by rw [List.map_cons, hv]; rfl) (by omega)
/-- adding a key -/
theorem q_addk (B : Bas (KK w) h₀) {args : List Value} {k : Str} {Rf : Res} {f : Str → Nat} (gb : Gr h₀ s.heap) (X : QFAt s.heap a F t) (hB : ∀ b ∈ F.wr, h₀.get? b = none) (hI : Rf.I s.heap) (hdj : ∀ b ∈ F.wr, ¬ Rf.fp b) (hF : ∀ n, 7 ≤ n → HashF prog w n t.hf Rf f) (G : QS → Prop)
    (hc : ∀ s1 m args, Gr h₀ s1.heap → QFAt s1.heap a F t → n ≤ m + 1 → args.map er = [.ref a, vi (f k : Int)] → MutP prog w m 295 args s1 F.wr (fun v s' => v = .none ∧ ∃ F' t', Fnew a s1 F F' ∧ QFAt s'.heap a F' t' ∧ G t'))
    (ha : args.map er = [.ref a, vs k]) (hn : 8 ≤ n) :
    MutP prog w n 288 args s F.wr (fun v s' => v = .none ∧ ∃ F' t', Fnew a s F F' ∧ QFAt s'.heap a F' t' ∧ G t') := by
  obtain ⟨n, rfl⟩ : ∃ m, n = m + 1 := ⟨n - 1, by omega⟩
  obtain ⟨a1, a2, rfl, e1, e2⟩ := m2 ha
  refine mut_enter (k := 1) (nm := ["self", "key", "_hash"]) (args2 := [a1, a2]) (avs2 := [.ref a, vs k]) (ρ := .qf a F t)
    B gb X (by rfl) rfl (by kernel_rfl) (.of_eq rfl) (by simp [e1, e2]) (by decide +kernel) (by decide +kernel) (by decide +kernel) ?_
  intro env s1 hs' H A Q r q1 q2
  clear hs'
  have ok : Fok h₀ F.wr s F := fun b hb => ⟨hB b hb, .inl hb⟩
  have C := H.cx
  have X1 : QFAt s1.heap a F t := H.own
  have hI1 : Rf.I s1.heap := Res.I_off hI H.sx hdj
  refine y_assign (v := vi (f k : Int)) H r (ev_hash C X1 hI1 (hF n (by omega)) (by tm_at "ev") (by tm_at "ev") (by tm_at "ev")) (by tm_at "at") fun s2 H2 _ => ?_
  have C := H2.cx
  have X2 : QFAt s2.heap a F t := H2.own
  refine y_callq H2 r (cls_qf w) X2.ob (mth_add_alt w) (by tm_at "ev") (el1 (by tm_at "ev")) fun vs' s3 hv x3 => ?_
  refine (hc s3 n _ (C.gb.trans x3.gr) (X2.gr x3.gr) (Nat.le_refl _) (by rw [List.map_cons, hv]; rfl)).call r fun v s4 p x4 => ?_
  obtain ⟨_, F1, t1, N1, X4, hG⟩ := p
  have H3 := H2.pure x3
  have H4 := H3.qgrow ok x4 N1 X4
  exact wpAny_execs_nil (q2 _ ⟨rfl, F1, t1, Fnew.trans Fnew.refl N1 H3.sx, H4.own, hG⟩ H4.sx)
end
end Mine
end
section
open PySem PySem.W PyProof.Rows PySem.Calls
set_option Elab.async false
set_option maxRecDepth 100000
set_option maxHeartbeats 4000000
set_option linter.unusedVariables false
set_option pp.deepTerms false
set_option pp.maxSteps 700
namespace Mine
/-! a generator's own run: what holds where it yields or ends -/
def Sg (M : Model) (A : Around) (c : Code) (t : Sem Fin) (fs : List Frame) (s : Shared) (Φ : End → Shared → Prop) : Prop :=
  ∀ Γ p, Γ.code = c → Γ.Woken A → ∃ e s', Runs M Γ p t fs s e s' ∧ Φ e s'
section
variable {M : Model} {A : Around} {c : Code} {fs : List Frame} {s : Shared} {Φ : End → Shared → Prop} {α β : Type} {env : Env}
theorem sg_wrap {m : Sem α} {K : α → Sem Fin} {H : Value → Sem Fin} {gd lv} (h : wpAny M (A.over c fs) m (fun a s' => Sg M A c (K a) fs s' Φ) (fun _ _ => False) s) : Sg M A c (m.wrap K H gd lv) fs s Φ := by
  rintro Γ p rfl hΓ
  exact runs_wrap_of_wp K H gd lv m (h (Γ.over fs) p (hΓ.over fs)) (fun a p' s' h' => h' Γ p' rfl hΓ) (fun x p' s' h' => h'.elim)
theorem sg_bind {m : Sem α} {K : α → Sem β} {K' : β → Sem Fin} {H' : Value → Sem Fin} {gd lv} (h : wpAny M (A.over c fs) m (fun a s' => Sg M A c ((K a).wrap K' H' gd lv) fs s' Φ) (fun _ _ => False) s) : Sg M A c ((m >>= K).wrap K' H' gd lv) fs s Φ := by
  rw [Sem.bind_eq_wrap', Sem.wrap_wrap]; exact sg_wrap h
theorem sg_at {p' : Pos} {k : Unit → Sem Fin} (h : Sg M A c (k ()) fs s Φ) : Sg M A c (.at p' k) fs s Φ :=
  sg_wrap (m := standAt p') (K := k) (H := .raise) (gd := id) (lv := id) (wpAny_standAt h)
theorem sg_point {l : List Value} {k : Unit → Sem Fin} (h : Sg M A c (k ()) fs s Φ) : Sg M A c (.point l k) fs s Φ :=
  sg_wrap (m := point) (K := k) (H := .raise) (gd := id) (lv := fun _ => l) (wpAny_point h)
theorem sg_call {c' : Code} {h g l} {k : Result → Sem Fin} (hc : ∀ p, Sg M A c' (M.den c') (.ret k h g l c p [] :: fs) s Φ) : Sg M A c (.call c' h g l k) fs s Φ := by
  rintro Γ p rfl hΓ
  obtain ⟨e, s', hr, he⟩ := hc p (Γ.goto c') p rfl (hΓ.goto c')
  exact ⟨e, s', runs_call_seg hr, he⟩
theorem sg_leaf {k h g l c₁ p₁ kp} (r : Result) (hk : Sg M A c₁ (k r) fs s Φ) : Sg M A c (leafOf r) (.ret k h g l c₁ p₁ kp :: fs) s Φ := by
  rintro Γ p rfl hΓ
  obtain ⟨e, s', hr, he⟩ := hk (Γ.goto c₁) p₁ rfl (hΓ.goto c₁)
  exact ⟨e, s', Runs.pop r hr, he⟩
theorem sg_again {c' : Code} (hq : c'.quiet = true) (hc : Sg M A c' (M.den c') fs s Φ) : Sg M A c (.pure (.again c')) fs s Φ := by
  rintro Γ p rfl hΓ
  obtain ⟨e, s', hr, he⟩ := hc (Γ.goto c') p rfl (hΓ.goto c')
  exact ⟨e, s', Runs.head (c₁ := c') (fun _ _ x => .again hq x) hr, he⟩
theorem sg_end (r : Result) (h : Φ (.ret r) s) : Sg M A c (leafOf r) [] s Φ := by
  rintro Γ p rfl _
  exact ⟨.ret r, s, Runs.leaf r, h⟩
theorem sg_stmt {st : Stmt} {rest : List Stmt} {K : Flow → Sem Fin} {H : Value → Sem Fin} {gd lv}
    (h : wpAny M (A.over c fs) (exec st env) (fun f s' => match f with | .next => Sg M A c ((execs rest env).wrap K H gd lv) fs s' Φ | f => Sg M A c (K f) fs s' Φ) (fun _ _ => False) s) :
    Sg M A c ((execs (st :: rest) env).wrap K H gd lv) fs s Φ := by
  rw [execs_cons_wrap]
  exact sg_wrap (wpAny_mono h (fun f s' h' => by cases f <;> exact h') fun _ _ x => x)
theorem sg_nil {K : Flow → Sem Fin} {H : Value → Sem Fin} {gd lv} (h : Sg M A c (K .next) fs s Φ) : Sg M A c ((execs [] env).wrap K H gd lv) fs s Φ := h
/-- a yield as a statement of its own -/
theorem sg_Yield {e : Expr} {ypos pos : Pos} {rest : List Stmt} {K : Flow → Sem Fin} {H : Value → Sem Fin} {gd lv} (hfs : splitAtGen fs = none) (hgd : gd false = false) (hfg : fs.any Frame.guarded = false)
    (h : wpAny M (A.over c fs) (eval e env) (fun v s' => ∀ g l k p, (End.susp v g l k c p fs).quiet = true →
        (∀ s'' Φ', Sg M A c ((execs rest env).wrap K H gd lv) fs s'' Φ' → Sg M A c (k (.send .none)) fs s'' Φ') → Φ (.susp v g l k c p fs) s')
      (fun _ _ => False) s) (hco : env.scope.isCoroutine = false) (hi : interactive env = false) :
    Sg M A c ((execs (.Expr (.Yield (some e) ypos) pos :: rest) env).wrap K H gd lv) fs s Φ := by
  rw [execs_cons_wrap, exec_Expr env _ pos hi rfl]
  show Sg M A c (.at pos fun _ => ((eval e env >>= fun v => (standAt ypos >>= fun _ => yieldOut env v)) >>= fun x =>
    dropValue (.Yield (some e) ypos) pos x).wrap _ H gd lv) fs s Φ
  have hy : ∀ v, yieldOut env v = yieldValue v := fun v => by simp only [yieldOut, hco, Bool.false_eq_true, if_false]
  simp only [hy]
  refine sg_at ?_
  rw [Sem.bind_eq_wrap', Sem.bind_eq_wrap', Sem.wrap_wrap, Sem.wrap_wrap]
  refine sg_wrap (wpAny_mono h (fun v s' h' => ?_) fun _ _ x => x)
  refine sg_at ?_
  rintro Γ p rfl hΓ
  exact ⟨_, s', Runs.yield' fs hfs, h' _ _ _ _ (by simp [End.quiet, hgd, hfg]) fun s'' Φ' hx => hx⟩
theorem sg_For {target iter : Expr} {body orelse : List Stmt} {pos : Pos} {rest : List Stmt} {K : Flow → Sem Fin} {H : Value → Sem Fin} {gd lv}
    (h : wpAny M (A.over c fs) (eval iter env) (fun x s1 => wpAny M (A.over c fs) (pyIter x) (fun it s2 => ∀ k g l p, (∀ f, k (.ok f) = (match f with | .next => (execs rest env).wrap K H gd lv | f => K f)) → g = gd false →
      Sg M A (.forLoop target it body orelse env) (M.den (.forLoop target it body orelse env)) (.ret k none g l c p [] :: fs) s2 Φ) (fun _ _ => False) s1) (fun _ _ => False) s)
    (hf : ∀ x, foldedSetIterable iter env x = Pure.pure x := by intros; rfl) :
    Sg M A c ((execs (.For target iter body orelse pos :: rest) env).wrap K H gd lv) fs s Φ := by
  rw [execs_cons_wrap, exec_For]
  refine sg_bind (wpAny_standAt ?_)
  refine sg_bind (wpAny_mono h (fun x s1 h1 => ?_) fun _ _ x => x)
  rw [hf]
  refine sg_bind (wpAny_pure (sg_bind (wpAny_standAt (sg_bind (wpAny_holding (wpAny_mono h1 (fun it s2 h2 => ?_) fun _ _ x => x))))))
  exact sg_call fun p => h2 _ _ _ _ (fun f => by cases f <;> rfl) rfl

theorem run_cons {gens : Array GenState} {g : Nat} : True := trivial
end
section
variable {prog : Program} {w : World} {A : Around} {fs : List Frame} {s : Shared} {Φ : End → Shared → Prop} {env : Env} {E : Value → Shared → Prop}
theorem sg_forLoop {x : Str} {px : Pos} {it : Value} {body : List Stmt}
    (h : wpAny (model prog w) (A.over (.forLoop (.Name x px) it body [] env) fs) (pyNext it) (fun r s1 => match r with
      | none => ∀ c', Sg (model prog w) A c' (leafOf (.ok .next)) fs s1 Φ
      | some v => wpAny (model prog w) (A.over (.forLoop (.Name x px) it body [] env) fs) (storeName env x v) (fun _ s2 => ∀ H : Value → Sem Fin,
          Sg (model prog w) A (.forLoop (.Name x px) it body [] env) ((execs body env).wrap (fun f => match f with
            | .next | .cont => .pure (.again (.forLoop (.Name x px) it body [] env))
            | .brk => .pure (.done .next)
            | .ret v => .pure (.done (.ret v))) H id id) fs s2 Φ) (fun _ _ => False) s1) (fun _ _ => False) s) :
    Sg (model prog w) A (.forLoop (.Name x px) it body [] env) ((model prog w).den (.forLoop (.Name x px) it body [] env)) fs s Φ := by
  show Sg _ A _ ((forTurn (.Name x px) it body [] env).onRaise (fun x => do noteFrame x env; theTreesLotGoes x)) fs s Φ
  unfold forTurn
  rw [Sem.onRaise_eq_wrap]
  refine sg_bind (wpAny_standAt (sg_bind (wpAny_onRaise (wpAny_mono h (fun r s1 h1 => ?_) fun _ _ q => q.elim))))
  cases r with
  | none =>
    show Sg _ A _ (.pure (.again (.block [] env))) fs s1 Φ
    exact sg_again rfl (h1 _)
  | some v =>
    refine sg_bind (wpAny_of_eq (rfl : letOwnedTupleGo (.Name x px) it v = pure ()) ?_)
    refine sg_bind (wpAny_assign_Name (wpAny_mono h1 (fun u s2 h2 => ?_) fun _ _ q => q))
    rw [Sem.bind_eq_wrap', Sem.wrap_wrap]
    rw [Sem.wrap_congr (execs body env) _ _ (K' := fun f => match f with
            | .next | .cont => .pure (.again (.forLoop (.Name x px) it body [] env))
            | .brk => .pure (.done .next)
            | .ret v => .pure (.done (.ret v))) (H' := fun e => Sem.wrap Sem.pure _ id id (Sem.raise e))
        (fun f => by cases f <;> rfl) (fun e => rfl)]
    exact h2 _
theorem sg_func {body : List Stmt}
    (h : ∀ H : Value → Sem Fin, Sg (model prog w) A (.func body env) ((execs body env).wrap (fun f => .pure (.done (.ret (match f with | .ret v => v | _ => .none)))) H id id) fs s Φ) :
    Sg (model prog w) A (.func body env) ((model prog w).den (.func body env)) fs s Φ := by
  show Sg (model prog w) A _ (.point [] fun _ => ((execs body env).onRaise (leaving env)) >>= _) fs s Φ
  refine sg_point ?_
  rw [Sem.onRaise_eq_wrap, Sem.bind_eq_wrap', Sem.wrap_wrap]
  rw [Sem.wrap_congr (execs body env) _ _ (K' := fun f => .pure (.done (.ret (match f with | .ret v => v | _ => .none))))
    (fun f => by cases f <;> rfl) (fun e => rfl)]
  exact h _

/-! waking it -/
def Wk (M : Model) (A : Around) (gs : GenState) (s : Shared) (Φ : End → Shared → Prop) : Prop := match gs with
  | .fresh c => Sg M A c (M.den c) [] s Φ
  | .suspended k _ c _ fs _ => Sg M A c (k (.send .none)) fs s Φ
  | _ => False
theorem wp_resume {M : Model} {A : Around} {Φ : End → Shared → Prop} {s : Shared} {g : Nat} {gs : GenState} {l : List Value} {α : Type} {k : GenResult → Sem α} {Q : α → Shared → Prop} (hg : s.gens[g]? = some gs)
    (hgo : Wk M A gs (s.setGen g .running) Φ)
    (hΦ : ∀ e s₁, Φ e s₁ → e.quiet = true ∧ wpAny M A (k e.result) Q E (s₁.setGen g e.genState)) : wpAny M A (.resume g (.send .none) l k) Q E s := by
  intro Γ p hΓ
  rw [Sem.wp_resume]
  have hB : ∀ c, (Γ.wake c p).Woken A := fun c => hΓ.wake c p
  cases gs with
  | fresh c =>
    obtain ⟨e₁, s₁, hr, he⟩ := hgo (Γ.wake c p) p rfl (hB c)
    exact ⟨_, _, by unfold Wakes; rw [hg]; exact ⟨e₁, s₁, hr, (hΦ _ _ he).1, rfl, rfl⟩, (hΦ _ _ he).2 Γ p hΓ⟩
  | suspended k₀ l₀ c₀ p₀ fs₀ =>
    obtain ⟨e₁, s₁, hr, he⟩ := hgo (Γ.wake c₀ p) p₀ rfl (hB c₀)
    exact ⟨_, _, by unfold Wakes; rw [hg]; exact ⟨e₁, s₁, hr, (hΦ _ _ he).1, rfl, rfl⟩, (hΦ _ _ he).2 Γ p hΓ⟩
  | running => exact hgo.elim
  | finished => exact hgo.elim
theorem wp_next {a : Addr} {g : Nat} {gs : GenState} {Q : Option Value → Shared → Prop} {Φ : End → Shared → Prop} (hh : A.handled = none) (hl : s.heap.NoLimit) (hroom : A.depth < recursionLimit)
    (hg : s.heap.IsGen a g) (hgs : s.gens[g]? = some gs) (hgo : Wk (model prog w) A.in1 gs (s.setGen g .running) Φ)
    (hΦ : ∀ e s₁, Φ e s₁ → e.quiet = true ∧ match e with
      | .ret r => r = .ok (.ret .none) ∧ ∀ h', (∀ b o, s₁.heap.get? b = some o → h'.get? b = some o) → Q none { s₁.setGen g .finished with heap := h' }
      | .susp v _ _ _ _ _ _ => Q (some v) (s₁.setGen g e.genState)) :
    wpAny (model prog w) A (pyNext (.ref a)) Q E s := by
  unfold pyNext
  refine wpAny_bind (wpAny_attempt (wpAny_callSpecial?_slot (name := Str.ofString "__next__") hg.typeIs slot_gen_next
    (wpAny_call_entry slot_gen_next hg.typeIs entry_gen_next ?_ (args_gen_next _))))
  show wpAny _ A.in1 (Builtin.Generator.genWake (.ref a) (.send .none)) _ _ s
  unfold Builtin.Generator.genWake
  refine wpAny_bind (wpAny_holding (wpAny_genNumber hg (wpAny_bind (wpAny_genState hgs ?_))))
  cases gs with
  | running => exact hgo.elim
  | finished => exact hgo.elim
  | _ =>
    refine wpAny_bind (wpAny_roomToWake hl hroom ?_)
    show wpAny _ A.in1 (.resume g (.send .none) [] _) _ _ s
    refine wp_resume hgs hgo fun e s₁ he => ?_
    obtain ⟨hq, he⟩ := hΦ e s₁ he
    refine ⟨hq, ?_⟩
    cases e with
    | ret r =>
      obtain ⟨rfl, hp⟩ := he
      show wpAny _ A.in1 (newExc (.type "StopIteration") [] >>= _) _ _ _
      refine wpAny_bind ?_
      simp only [newExc, newTuple]
      refine wpAny_bind (wpAny_newObj_type ?_ (by size_fits))
      refine wpAny_bind (m := firstArgMember _ _) (wpAny_of_eq (a := Value.none) (by first | rfl | (simp only [firstArgMember]; rfl)) ?_)
      refine wpAny_newObj_type ?_ (by size_fits)
      simp only [raiseNew]
      refine wpAny_bind (wpAny_bind (wpAny_handled ?_))
      first | rw [show A.in1.handled = none from hh] | rw [hh]
      refine wpAny_throw ?_
      refine wpAny_bind (wpAny_isInstance (T := "StopIteration") (b := true) ⟨_, Heap.get?_push_size _ rfl, rfl⟩ isSubtype_stop ?_)
      exact wpAny_pure (hp _ fun b o hb => Heap.get?_push_of_some _ (Heap.get?_push_of_some _ hb))
    | susp v g₀ l₀ k₀ c₀ p₀ fs₀ => exact wpAny_pure ⟨v, rfl, wpAny_pure he⟩
end
end Mine
end
section
open PySem PySem.W PyProof.Rows PySem.Calls
set_option Elab.async false
set_option maxRecDepth 100000
set_option maxHeartbeats 4000000
set_option linter.unusedVariables false
set_option pp.deepTerms false
set_option pp.maxSteps 700
namespace Mine
/-- what a step of generator g may have changed -/
structure Stp (g : Nat) (D : List Addr) (s s' : Shared) : Prop where
  hp : ∀ b o, b ∉ D → s.heap.get? b = some o → s'.heap.get? b = some o
  gn : ∀ (i : Nat) (x : GenState), i ≠ g → s.gens[i]? = some x → s'.gens[i]? = some x
  br : AllBare s.gens → AllBare s'.gens
  os : s'.os = s.os
theorem Stp.refl {g D s} : Stp g D s s := ⟨fun _ _ _ e => e, fun _ _ _ e => e, id, rfl⟩
theorem Stp.trans {g D D' s s' s''} (x : Stp g D s s') (y : Stp g D' s' s'') (h : ∀ b ∈ D', b ∈ D ∨ s.heap.get? b = none) : Stp g D s s'' :=
  ⟨fun b o n e => y.hp b o (fun m => (h b m).elim n fun q => by rw [q] at e; cases e) (x.hp b o n e), fun i z n e => y.gn i z n (x.gn i z n e), fun q => y.br (x.br q), y.os.trans x.os⟩
theorem Stp.pre {g D s s' b} (x : Stp g D s s') (e : s'.heap.get? b = Option.none) : b ∈ D ∨ s.heap.get? b = Option.none := by
  by_cases m : b ∈ D
  · exact .inl m
  · right
    cases q : s.heap.get? b with
    | none => rfl
    | some o => rw [x.hp b o m q] at e; cases e
theorem Stp.sx {g D s₀ s s' D'} (x : SX D s₀ s) (y : Stp g D' s s') (hD : ∀ b ∈ D', b ∈ D ∨ s₀.heap.get? b = none) (hg : s₀.gens[g]? = none) : SX D s₀ s' :=
  ⟨fun b o n e => y.hp b o (fun m => (hD b m).elim n fun q => by rw [q] at e; cases e) (x.hp b o n e),
   ⟨fun i z e => y.gn i z (fun q => by rw [q, hg] at e; cases e) (x.gn.1 i z e), fun q => y.br (x.gn.2 q)⟩, y.os.trans x.os⟩
theorem AllBare.setGen {s : Shared} {g : Nat} {x : GenState} (h : AllBare s.gens) (hx : x.bare = true) : AllBare (s.setGen g x).gens := by
  intro y hy
  simp only [Shared.setGen] at hy
  rcases Array.mem_or_eq_of_mem_setIfInBounds hy with q | q
  · exact h y q
  · rw [q]; exact hx
/-- its values to come, one by one -/
def RunP (M : Model) (A : Around) (h₀ : Heap) : List Nat → List Addr → Res → GenState → Prop
  | [], D, ρ, gs => ∀ s, ρ.I s.heap → Wk M A gs s fun e s' => e = .ret (.ok (.ret .none)) ∧ SX D s s'
  | x :: xs, D, ρ, gs => ∀ s, ρ.I s.heap → Wk M A gs s fun e s' => e.quiet = true ∧ SX D s s' ∧ ∃ v g l k c p fs, e = .susp v g l k c p fs ∧ er v = vi (x : Int) ∧ ∃ D' ρ', ρ'.I s'.heap ∧ (∀ b ∈ D', ρ'.fp b) ∧
      (∀ b ∈ D', h₀.get? b = none) ∧ (∀ b ∈ D', b ∈ D ∨ s.heap.get? b = none) ∧ (∀ b, ρ'.fp b → ρ.fp b ∨ s.heap.get? b = none) ∧ RunP M A h₀ xs D' ρ' e.genState
structure GenSt (prog : Program) (w : World) (A : Around) (h₀ : Heap) (a : Addr) (g : Nat) (xs : List Nat) (D : List Addr) (ρ : Res) (s : Shared) : Prop where
  ig : s.heap.IsGen a g
  gs : ∃ gs, s.gens[g]? = some gs ∧ RunP (model prog w) A.in1 h₀ xs D ρ gs
  I : ρ.I s.heap
  na : a ∉ D
  sub : ∀ b ∈ D, ρ.fp b
  dn : ∀ b ∈ D, h₀.get? b = none
section
variable {prog : Program} {w : World} {A : Around} {h₀ : Heap} {a : Addr} {g : Nat} {x : Nat} {xs : List Nat} {D : List Addr} {ρ : Res} {s s' : Shared} {E : Value → Shared → Prop} {Q : Option Value → Shared → Prop}
theorem GenSt.frame (G : GenSt prog w A h₀ a g xs D ρ s) (k : ∀ b o, (ρ.fp b ∨ b = a) → s.heap.get? b = some o → s'.heap.get? b = some o) (kg : ∀ x, s.gens[g]? = some x → s'.gens[g]? = some x) : GenSt prog w A h₀ a g xs D ρ s' :=
  ⟨let ⟨o, nm, qn, ho, r⟩ := G.ig; ⟨o, nm, qn, k _ _ (.inr rfl) ho, r⟩, let ⟨gs, h1, h2⟩ := G.gs; ⟨gs, kg _ h1, h2⟩, ρ.st _ _ (fun b o f e => k b o (.inl f) e) G.I, G.na, G.sub, G.dn⟩
theorem gen_next (G : GenSt prog w A h₀ a g (x :: xs) D ρ s) (hh : A.handled = none) (hl : s.heap.NoLimit) (hroom : A.depth < recursionLimit)
    (hQ : ∀ v s' D' ρ', er v = vi (x : Int) → GenSt prog w A h₀ a g xs D' ρ' s' → Stp g D s s' → (∀ b ∈ D', b ∈ D ∨ s.heap.get? b = none) → (∀ b, ρ'.fp b → ρ.fp b ∨ s.heap.get? b = none) → Q (some v) s') :
    wpAny (model prog w) A (pyNext (.ref a)) Q E s := by
  obtain ⟨gs, hgs, hr⟩ := G.gs
  refine wp_next hh hl hroom G.ig hgs (hr (s.setGen g .running) G.I) fun e s₁ he => ?_
  obtain ⟨hq, k, v, g', l, kk, c, p, fs, rfl, hv, D', ρ', hI, h1, h2, h3, h4, hR⟩ := he
  refine ⟨hq, ?_⟩
  have hgr : s₁.gens[g]? = some .running := k.gn.1 g _ (setGen_self hgs)
  have St : Stp g D s (s₁.setGen g (End.susp v g' l kk c p fs).genState) := by
    refine ⟨k.hp, fun i z hi e => ?_, fun b => AllBare.setGen (k.gn.2 (AllBare.setGen b rfl)) (End.bare_of_quiet hq), k.os⟩
    have e1 : (s.setGen g .running).gens[i]? = some z := by simp [Shared.setGen, Ne.symm hi, e]
    have e2 := k.gn.1 i z e1
    simp [Shared.setGen, Ne.symm hi, e2]
  refine hQ v _ D' ρ' hv ⟨?_, ⟨_, setGen_self hgr, hR⟩, hI, fun m => ?_, h1, h2⟩ St h3 h4
  · obtain ⟨o, nm, qn, ho, r⟩ := G.ig
    exact ⟨o, nm, qn, k.hp _ _ G.na ho, r⟩
  · rcases h3 a m with z | z
    · exact G.na z
    · obtain ⟨o, nm, qn, ho, r⟩ := G.ig
      rw [show s.heap.get? a = none from z] at ho; cases ho
theorem gen_done (G : GenSt prog w A h₀ a g [] D ρ s) (hh : A.handled = none) (hl : s.heap.NoLimit) (hroom : A.depth < recursionLimit)
    (hQ : ∀ s', Stp g D s s' → Q none s') : wpAny (model prog w) A (pyNext (.ref a)) Q E s := by
  obtain ⟨gs, hgs, hr⟩ := G.gs
  refine wp_next hh hl hroom G.ig hgs (hr (s.setGen g .running) G.I) fun e s₁ he => ?_
  obtain ⟨rfl, k⟩ := he
  refine ⟨rfl, rfl, fun h' hk => hQ _ ⟨fun b o n e => hk b o (k.hp b o n e), fun i z hi e => ?_, fun b => AllBare.setGen (k.gn.2 (AllBare.setGen b rfl)) rfl, k.os⟩⟩
  have e1 : (s.setGen g .running).gens[i]? = some z := by simp [Shared.setGen, Ne.symm hi, e]
  have e2 := k.gn.1 i z e1
  show (s₁.setGen g .finished).gens[i]? = some z
  simp [Shared.setGen, Ne.symm hi, e2]

theorem ext_loop (hh : A.handled = none) (hroom : A.depth < recursionLimit) (hl₀ : h₀.NoLimit) (S : Addr) (res : Value) {R : Result → Shared → Prop} : ∀ (xs : List Nat) (D : List Addr) (ρ : Res) (s : Shared) (acc : Array Value) (c : Nat), GenSt prog w A.in1 h₀ a g xs D ρ s → Gr h₀ s.heap → h₀.get? S = none →
    S ∉ D → ¬ ρ.fp S → S ≠ a → s.heap.get? S = some { cls := .type "list", dict := none, data := .seq acc c, slots := #[] } → acc.size + xs.length ≤ 1000 →
    (∀ s' acc' c', Stp g (S :: D) s s' → Gr h₀ s'.heap → s'.heap.get? S = some { cls := .type "list", dict := none, data := .seq acc' c', slots := #[] } → acc'.toList.map er = acc.toList.map er ++ xs.map (fun (x : Nat) => vi (x : Int)) → R (.ok (.ret res)) s') →
    codeAny (model prog w) A (.builtin "list.extend.loop" ⟨[.ref S, .ref a, res], []⟩) R s
  | [], D, ρ, s, acc, c, G, g0, hS0, hSD, hSf, hSa, hS, hsz, hR => by
    refine codeAny_builtin F.entry_extend_loop ?_
    rw [Around.under_plainId F.plain_extend_loop _]
    show wpAny _ A.in1 (pyNext (.ref a) >>= _) _ _ s
    refine wpAny_bind (gen_done G hh (hl₀.keeps g0) hroom fun s' St => ?_)
    exact wpAny_pure (hR s' acc c ⟨fun b o n e => St.hp b o (fun m => n (List.mem_cons_of_mem _ m)) e, St.gn, St.br, St.os⟩ (fun b o e => St.hp b o (fun m => by rw [G.dn b m] at e; cases e) (g0 b o e)) (St.hp _ _ hSD hS) (by simp))
  | x :: xs, D, ρ, s, acc, c, G, g0, hS0, hSD, hSf, hSa, hS, hsz, hR => by
    refine codeAny_builtin F.entry_extend_loop ?_
    rw [Around.under_plainId F.plain_extend_loop _]
    show wpAny _ A.in1 (pyNext (.ref a) >>= _) _ _ s
    refine wpAny_bind (gen_next G hh (hl₀.keeps g0) hroom fun v s' D' ρ' hv G' St hD hf => ?_)
    have hS' := St.hp _ _ hSD hS
    have g1 : Gr h₀ s'.heap := fun b o e => St.hp b o (fun m => by rw [G.dn b m] at e; cases e) (g0 b o e)
    have hno : s.heap.get? S ≠ none := by rw [hS]; nofun
    have hSD' : S ∉ D' := fun m => (hD S m).elim hSD hno
    have hSf' : ¬ ρ'.fp S := fun m => (hf S m).elim hSf hno
    have hz : acc.size + (xs.length + 1) ≤ 1000 := hsz
    show wpAny _ A.in1 (updateSeq S (·.push v) >>= _) _ _ _
    refine wpAny_bind ?_
    have oth : ∀ b o, b ≠ S → s'.heap.get? b = some o → (s'.heap.update S (Obj.mapSeq (·.push v))).get? b = some o := fun b o hb e => (Heap.get?_update_other _ _ (Ne.symm hb)).trans e
    refine wpAny_updateSeq hS' rfl (wpAny_pure ⟨plainId_quiet F.plain_extend_loop _, ext_loop hh hroom hl₀ S res xs D' ρ' _ (acc.push v) _ (G'.frame (fun b o hb e => oth b o (fun q => ?_) e) fun _ e => e) (fun b o e => oth b o (fun q => ?_) (g1 b o e)) hS0 hSD' hSf' hSa (Heap.get?_update_self _ hS' rfl) ?_ fun s'' acc' c' St' g2 hS'' hacc' => ?_⟩)
      (by rw [sizeLine_eq]; omega) (by show (acc.push v).size ≤ sizeLine + 1; rw [Array.size_push, sizeLine_eq]; omega)
    · subst q
      rcases hb with z | z
      · exact hSf' z
      · exact hSa z
    · subst q; rw [hS0] at e; cases e
    · rw [Array.size_push]; omega
    · refine hR s'' acc' c' ⟨fun b o n e => ?_, fun i z n e => St'.gn i z n (St.gn i z n e), fun q => St'.br (St.br q), St'.os.trans St.os⟩ g2 hS'' ?_
      · have nS : b ≠ S := fun q => n (q ▸ List.mem_cons_self)
        have nD : b ∉ D := fun m => n (List.mem_cons_of_mem _ m)
        refine St'.hp b o (fun m => ?_) (oth b o nS (St.hp b o nD e))
        rcases List.mem_cons.mp m with z | z
        · exact nS z
        · rcases hD b z with y | y
          · exact nD y
          · rw [y] at e; cases e
      · rw [hacc', Array.toList_push]; simp [hv]
theorem wp_listgen {Q : Value → Shared → Prop} (G : GenSt prog w A.in1.in1 h₀ a g xs D ρ s) (hh : A.handled = none) (hroom : A.depth < recursionLimit) (hl₀ : h₀.NoLimit) (g0 : Gr h₀ s.heap) (hsz : xs.length ≤ 1000)
    (hQ : ∀ l s', Stp g D s s' → s.heap.get? l = none → Ls s'.heap l (xs.map fun (x : Nat) => vi (x : Int)) → Q (.ref l) s') :
    wpAny (model prog w) A (call (.type "list") [.ref a]) Q E s := by
  have no : ∀ {o : Obj}, s.heap.get? s.heap.objs.size = some o → False := fun z => by rw [size_none] at z; cases z
  have hSf : ¬ ρ.fp s.heap.objs.size := fun m => (ρ.ex _ G.I _ m).elim fun o z => no z
  have hSD : s.heap.objs.size ∉ D := fun m => hSf (G.sub _ m)
  have hSa : s.heap.objs.size ≠ a := fun q => by obtain ⟨o, nm, qn, ho, r⟩ := G.ig; rw [← q] at ho; exact no ho
  have hS0 : h₀.get? s.heap.objs.size = none := Gr.none g0 (size_none _)
  have hT : s.TypeIs (.ref a) "generator" := G.ig.typeIs
  refine callType_codes (Q₁ := fun obj s₁ => obj = .ref s.heap.objs.size ∧ s₁ = { s with heap := s.heap.push { cls := .type "list", data := .seq #[] } }) F.called_list (F.typeCall_list_1 _) F.entry_list_init
    (code_list_new _ ⟨rfl, rfl⟩) fun obj s₁ h₁ => ?_
  obtain ⟨rfl, rfl⟩ := h₁
  have hS : (s.heap.push { cls := .type "list", data := .seq #[] }).get? s.heap.objs.size = some { cls := .type "list", data := .seq #[] } := Heap.get?_push_size _ rfl
  have ps : ∀ b o, s.heap.get? b = some o → (s.heap.push { cls := .type "list", data := .seq #[] }).get? b = some o := fun b o e => Heap.get?_push_of_some _ e
  have G1 : GenSt prog w A.in1.in1 h₀ a g xs D ρ { s with heap := s.heap.push { cls := .type "list", data := .seq #[] } } := G.frame (fun b o _ e => ps b o e) fun _ e => e
  refine ⟨⟨_, hS, rfl⟩, F.args_list_init_2 _ _, ?_⟩
  generalize hS1 : s.heap.objs.size = S at *
  show wpAny _ A.in1.in1 (do let old ← Builtin.List.listItems (.ref S); Builtin.List.listUpdate (.ref S) (fun _ => #[]); letGo old.toList.reverse; Builtin.List.listExtendWith (.ref S) (.ref a) .none) _ _ _
  refine wpAny_bind ?_
  unfold Builtin.List.listItems
  refine wpAny_bind (wpAny_seqItems hS rfl (wpAny_pure ?_))
  show wpAny _ A.in1.in1 (updateSeq S (fun _ => #[]) >>= fun _ => letGo (#[] : Array Value).toList.reverse >>= fun _ => Builtin.List.listExtendWith (.ref S) (.ref a) .none) _ _ _
  refine wpAny_bind (wpAny_updateSeq hS rfl ?_)
  have hS₂ := Heap.get?_update_self (Obj.mapSeq (fun _ => (#[] : Array Value))) hS rfl
  have oth : ∀ b o, b ≠ S → (s.heap.push { cls := .type "list", data := .seq #[] }).get? b = some o → ((s.heap.push { cls := .type "list", data := .seq #[] }).update S (Obj.mapSeq (fun _ => (#[] : Array Value)))).get? b = some o :=
    fun b o hb e => (Heap.get?_update_other _ _ (Ne.symm hb)).trans e
  refine wpAny_bind (wpAny_letGo ?_)
  have nf : ∀ b, (ρ.fp b ∨ b = a) → b ≠ S := fun b hb q => by
    subst q
    rcases hb with z | z
    · exact hSf z
    · exact hSa z
  have G2 := G1.frame (s' := { s with heap := (s.heap.push { cls := .type "list", data := .seq #[] }).update S (Obj.mapSeq (fun _ => (#[] : Array Value))) }) (fun b o hb e => oth b o (nf b hb) e) fun _ e => e
  have T2 := G2.ig.typeIs
  unfold Builtin.List.listExtendWith
  refine wpAny_bind (wpAny_typeOf T2 ?_)
  have h1 : Builtin.List.listSameRef (.ref S) (.ref a) = false := by simp [Builtin.List.listSameRef, hSa]
  have h2 : (Value.type "generator" == Value.type "list") = false := by decide
  have h3 : (Value.type "generator" == Value.type "tuple") = false := by decide
  simp only [h1, h2, h3, Bool.or_false, Bool.false_eq_true, if_false]
  refine wpAny_bind (wpAny_pyIter_gen G2.ig ?_)
  refine wpAny_bind (wpAny_holding ?_)
  unfold Builtin.List.listLengthHint
  refine wpAny_bind (wpAny_specialOf T2 F.gen_no_len ?_)
  show wpAny _ A.in1.in1 (specialOf (Value.ref a) (Str.ofString "__length_hint__") >>= _) _ _ _
  refine wpAny_bind (wpAny_specialOf T2 F.gen_no_hint ?_)
  refine wpAny_pure ?_
  show wpAny _ A.in1.in1 (rule "list.extend.makes-room" >>= fun _ => Builtin.List.listTouch (.ref S) >>= fun _ =>
    again (.builtin "list.extend.loop" ⟨[.ref S, .ref a, .none], []⟩)) _ _ _
  refine wpAny_bind (wpAny_rule ?_)
  refine wpAny_bind ?_
  show wpAny _ A.in1.in1 (updateSeq S (·.push .none) >>= fun _ => updateSeq S (·.pop)) _ _ _
  refine wpAny_bind (wpAny_updateSeq hS₂ rfl ?_)
  have hS₃ := Heap.get?_update_self (Obj.mapSeq (·.push Value.none)) hS₂ rfl
  refine wpAny_updateSeq (hz := by seq_fits) hS₃ rfl ?_
  have hS₄ := Heap.get?_update_self (Obj.mapSeq (·.pop)) hS₃ rfl
  have oth2 : ∀ b o, b ≠ S → (s.heap.push { cls := .type "list", data := .seq #[] }).get? b = some o → ((((s.heap.push { cls := .type "list", data := .seq #[] }).update S (Obj.mapSeq (fun _ => (#[] : Array Value)))).update S (Obj.mapSeq (·.push Value.none))).update S (Obj.mapSeq (·.pop))).get? b = some o :=
    fun b o hb e => (Heap.get?_update_other _ _ (Ne.symm hb)).trans ((Heap.get?_update_other _ _ (Ne.symm hb)).trans (oth b o hb e))
  refine wpAny_pure ⟨plainId_quiet F.plain_extend_loop _, ext_loop (A := A.in1) hh hroom hl₀ S .none xs D ρ _ _ _ (G1.frame (fun b o hb e => oth2 b o (nf b hb) e) fun _ e => e) (fun b o e => oth2 b o (fun q => ?_) (ps b o (g0 b o e))) hS0 hSD hSf hSa hS₄ (by simpa using hsz) fun s' acc' c' St g2 hS' hacc => ?_⟩
  · subst q; rw [hS0] at e; cases e
  · refine ⟨rfl, hQ S s' ⟨fun b o n e => ?_, St.gn, St.br, St.os⟩ (hS1 ▸ size_none _) ⟨acc', ⟨_, hS', rfl, _, rfl⟩, by rw [hacc]; rfl⟩⟩
    have nS : b ≠ S := fun q => no (o := o) (by rw [← q]; exact e)
    exact St.hp b o (fun m => (List.mem_cons.mp m).elim nS n) (oth2 b o nS (ps b o e))
end
end Mine
end
section
open PySem PySem.W PyProof.Rows PySem.Calls
set_option Elab.async false
set_option maxRecDepth 100000
set_option maxHeartbeats 4000000
set_option linter.unusedVariables false
set_option pp.deepTerms false
set_option pp.maxSteps 700
namespace Mine
local macro_rules | `(tactic| tm_at "at") => `(tactic| with_reducible (repeat (first | exact At.head | apply At.tail)))
local macro_rules | `(tactic| tm_at "ok") => `(tactic| first | trivial | assumption | (simp only [okI]; omega) | (simp only [okI]; mul_fits))
local macro_rules | `(tactic| tm_at "bop") => `(tactic| exact fun _ _ => bo_any (by tm_at "ok"))
local macro_rules | `(tactic| tm_at "cm") => `(tactic| exact fun _ _ => co_any rfl)
local macro_rules | `(tactic| tm_at "obj") => `(tactic| first | exact QFAt.ob (by assumption) | assumption)
local macro_rules | `(tactic| tm_at "cls") => `(tactic| first | exact cls_qf _ | exact cls_bit _)
local macro_rules | `(tactic| tm_at "lt") => `(tactic| first | assumption | omega)
local macro_rules | `(tactic| tm_at "bitx") => `(tactic| first | exact QFAt.bo (by assumption) | exact QFAt.bc (by assumption) | exact QFAt.bs (by assumption))
local macro_rules | `(tactic| tm_at "ev") => `(tactic| first
  | with_reducible exact ev_int | with_reducible exact ev_true | with_reducible exact ev_none | with_reducible exact ev_str
  | ((with_reducible refine' ev_loc ?h1 ?h2 ?h3); (case h1 => assumption); (case h2 => tm_at "at"); (case h3 => rfl))
  | ((with_reducible refine' ev_attr (Cx.inK ?h1) ?h2 ?h3 ?h4 ?h5 ?h6 ?h7 ?h8); (case h1 => assumption); (case h4 => tm_at "ev"); (case h3 => tm_at "obj"); (case h2 => tm_at "cls"); (case h5 => tm_at "at"); (case h6 => rfl); (case h7 => rfl); (case h8 => rfl))
  | ((with_reducible refine' ev_bin ?h1 ?h2 ?h3); (case h1 => tm_at "ev"); (case h2 => tm_at "ev"); (case h3 => tm_at "bop"))
  | ((with_reducible refine' ev_bit ?h1 ?h2 ?h3 ?h4 ?h5 ?h6 ?h7 ?h8); (case h1 => assumption); (case h3 => tm_at "ev"); (case h4 => tm_at "ev"); (case h2 => tm_at "bitx"); (case h5 => tm_at "lt"); (case h6 => tm_at "lt"); (case h7 => tm_at "lt"); (case h8 => (intros; rfl)))
  | ((with_reducible refine' ev_un ?h1 ?h2); (case h1 => tm_at "ev"); (case h2 => exact fun _ => uo_any rfl)))
local macro_rules | `(tactic| tm_at "eb") => `(tactic| first
  | ((with_reducible refine' eb_cmp ?h1 ?h2 ?h3 ?h4); (case h1 => tm_at "ev"); (case h2 => tm_at "ev"); (case h3 => tm_at "cm"); (case h4 => rfl))
  | ((with_reducible refine' eb_bool ?h1); (case h1 => tm_at "eb"))
  | ((with_reducible refine' eb_or ?h1 ?h2); (case h1 => tm_at "eb"); (case h2 => tm_at "eb"))
  | ((with_reducible refine' eb_and ?h1 ?h2); (case h1 => tm_at "eb"); (case h2 => tm_at "eb"))
  | with_reducible exact eb_or_nil | with_reducible exact eb_and_nil
  | ((with_reducible refine' eb_not ?h1); (case h1 => tm_at "eb")))
/-- a plain list -/
def Lp (h : Heap) (a : Addr) (vals : List Value) : Prop := ∃ (its : Array Value) (n : Nat), h.get? a = some { cls := .type "list", dict := none, data := .seq its n, slots := #[] } ∧ its.toList.map er = vals
theorem Lp.at {h h' : Heap} {a vals} (x : Lp h a vals) (k : ∀ o, h.get? a = some o → h'.get? a = some o) : Lp h' a vals := let ⟨its, n, e, r⟩ := x; ⟨its, n, k _ e, r⟩
theorem Lp.gr {h h' : Heap} {a vals} (x : Lp h a vals) (k : Gr h h') : Lp h' a vals := x.at (k _)
theorem Lp.there {h : Heap} {a vals} (x : Lp h a vals) : ∃ o, h.get? a = some o := let ⟨_, _, e, _⟩ := x; ⟨_, e⟩
theorem Lp.ls {h : Heap} {a vals} (x : Lp h a vals) : Ls h a vals := let ⟨its, n, e, r⟩ := x; ⟨its, ⟨_, e, rfl, n, rfl⟩, r⟩
def Res.lp (l : Addr) (vals : List Value) : Res := ⟨fun b => b = l, fun h => Lp h l vals, fun h h' k x => x.at (k l · rfl), fun h x b hb => hb ▸ x.there⟩
theorem getMethod_list {M : Model} {A : Around} {E : Value → Shared → Prop} {s : Shared} {l : Addr} {name : Str} {id : String} {vals : List Value} {pl : Sem Bool} {Q : Value × List Value → Shared → Prop} (L : Lp s.heap l vals) (hs : typeLookup (.type "list") name = Pure.pure (some (.builtin id))) (ht : typeOf (.builtin id) = Pure.pure (.type "method_descriptor"))
    (h : Q (.builtin id, [.ref l]) s) : wpAny M A (getMethod (.ref l) name pl) Q E s := by
  obtain ⟨its, n, ho, _⟩ := L
  have hT : s.TypeIs (.ref l) "list" := ⟨_, ho, rfl⟩
  unfold getMethod
  refine wpAny_bind (wpAny_specialOf hT list_getattribute ?_)
  show wpAny M A (if (Manifest.canonical "list.__getattribute__" != "object.__getattribute__") = true then _ else _) Q E s
  rw [canon_list_getattribute, if_neg Bool.false_ne_true]
  refine wpAny_bind (wpAny_specialOf hT list_getattr_none ?_)
  refine wpAny_bind (wpAny_specialOf hT hs ?_)
  refine wpAny_bind (wpAny_of_eq ht ?_)
  refine wpAny_bind (wpAny_load ho ?_)
  exact wpAny_bind (wpAny_rule (wpAny_pure h))
section
variable {prog : Program} {w : World} {n : Nat} {h h₀ : Heap} {K : Frag} {env : Env} {nm : List Str} {vals : List (Option Value)} {l : Addr} {D : List Addr} {R ρ : Res} {s₀ s s' : Shared} {A : Around} {E : Value → Shared → Prop} {vs : List Value}
theorem wp_append {v : Value} {Q : Value → Shared → Prop} (L : Lp s.heap l vs) (hsz : vs.length ≤ 1000) (hQ : ∀ s', SX [l] s s' → Lp s'.heap l (vs ++ [er v]) → Q .none s') : wpAny (model prog w) A (call (.builtin "list.append") [.ref l, v]) Q E s := by
  obtain ⟨its, k, ho, hv⟩ := L
  have hl : its.size ≤ 1000 := by rw [← hv, List.length_map] at hsz; simpa using hsz
  refine wpAny_call_entry slot_list_append ⟨_, ho, rfl⟩ entry_list_append ?_ (args_list_append _ _)
  show wpAny _ _ (updateSeq l (·.push v) >>= fun _ => ret .none) _ _ s
  refine wpAny_bind ?_
  refine wpAny_updateSeq ho rfl (wpAny_pure ⟨.none, rfl, hQ _ (SX.heap fun b o nb e => (Heap.get?_update_other _ _ (Ne.symm (by simpa using nb))).trans e) ⟨_, _, Heap.get?_update_self _ ho rfl, ?_⟩⟩) (by rw [sizeLine_eq]; omega) (by show (its.push v).size ≤ sizeLine + 1; rw [Array.size_push, sizeLine_eq]; omega)
  rw [Array.toList_push, List.map_append, hv]; rfl
theorem x_append {o e : Expr} {apos pos p2 : Pos} {v : Value} {pl : Sem Bool} {Q : Flow → Shared → Prop} (F : FE env nm) (r : Rm n A) (h1 : Eva prog w n s.heap (eval o env) (.ref l)) (h2 : Eva prog w n s.heap (eval e env) v) (L : Lp s.heap l vs) (hsz : vs.length ≤ 1000)
    (k : ∀ s', SX [l] s s' → Lp s'.heap l (vs ++ [v]) → Q .next s')
    (hst : starEach [e] env = (false, eval e env) :: starEach [] env := by rfl)
    (he : eval (.Call (.Attribute o "append" apos) [e] [] pos) env = (do
      let ov ← eval o env
      standAt apos.atName
      let (f, first) ← holding [ov] (getMethod ov "append" pl)
      callWith pos f first (backTo pos (starEach [e] env)) []) := by rfl) (hsw : swapsWith (.Call (.Attribute o "append" apos) [e] [] pos) none p2.line env = Pure.pure false := by rfl) :
    wpAny (model prog w) A (exec (.Expr (.Call (.Attribute o "append" apos) [e] [] pos) p2) env) Q E s := by
  refine wpAny_Expr_any (MethodCall_ (h1 A _ E s r (Gr.refl _) fun v' s1 p x1 => ?_) he) F.inter hsw
  obtain rfl := er_ref p
  refine getMethod_list (L.gr x1.gr) slot_list_append.lookup type_list_append ?_
  rw [hst]
  refine Calls.callWith_builtin rfl (Calls.evalArgs_plain (Calls.spliced_cons (h2 A _ E s1 r x1.gr fun v2 s2 p2 x2 => Calls.spliced_nil ?_)))
  refine wp_append (L.gr (x1.trans x2).gr) hsz fun s3 x3 L3 => k s3 ((x1.trans x2).transL x3) ?_
  rw [p2] at L3; exact L3
theorem wp_pop0 {o : Expr} {kk : Nat} {cp apos pos : Pos} {v : Value} {pl : Sem Bool} {Q : Value → Shared → Prop} (r : Rm n A) (h1 : Eva prog w n s.heap (eval o env) (.ref l)) (L : Lp s.heap l (v :: vs)) (hsz : vs.length ≤ 900)
    (k : ∀ v' s', er v' = v → SX [l] s s' → Lp s'.heap l vs → Q v' s')
    (he : eval (.Call (.Attribute o "pop" apos) [.Constant (.int 0) kk cp] [] pos) env = (do
      let ov ← eval o env
      standAt apos.atName
      let (f, first) ← holding [ov] (getMethod ov "pop" pl)
      callWith pos f first (backTo pos (starEach [.Constant (.int 0) kk cp] env)) []) := by rfl) :
    wpAny (model prog w) A (eval (.Call (.Attribute o "pop" apos) [.Constant (.int 0) kk cp] [] pos) env) Q E s := by
  refine MethodCall_ (h1 A _ E s r (Gr.refl _) fun v' s1 p x1 => ?_) he
  obtain rfl := er_ref p
  refine getMethod_list (L.gr x1.gr) F.slot_list_pop.lookup F.type_list_pop ?_
  refine Calls.callWith_builtin rfl (Calls.evalArgs_plain (Calls.spliced_cons (ev_int (k := kk) (pos := cp) (h := s1.heap) (n := n) A _ E s1 r (Gr.refl _) fun v2 s2 p2 x2 => Calls.spliced_nil ?_)))
  obtain ⟨t, rfl⟩ := er_vi p2
  obtain ⟨its, m, ho, hv⟩ := L.gr (x1.trans x2).gr
  have hlen : its.size = vs.length + 1 := by have := congrArg List.length hv; simpa using this
  have hne : 0 < its.size := by omega
  have h0 : its[0]? = some its[0] := Array.getElem?_eq_getElem hne
  have hv0 : its.toList = its[0] :: its.toList.tail := by
    cases q : its.toList with
    | nil => rw [← Array.length_toList, q] at hne; cases hne
    | cons y ys => simp [← Array.getElem_toList, q]
  have hcons : er its[0] = v ∧ its.toList.tail.map er = vs := by
    rw [hv0, List.map_cons] at hv
    exact List.cons.inj hv
  refine call_meets F.slot_list_pop ⟨_, ho, rfl⟩ F.entry_list_pop (F.args_list_pop_2 _ _) (PySem.MeetsSeq.list_pop_at l its m 0 t 0 its[0] (by decide) ?_ h0 (by rw [sizeLine_eq]; omega)) ⟨ho, ?_⟩
  · unfold seqIndex?
    have e1 : ¬ ((0 : Int) < 0) := by decide
    have e2 : (0 : Int) < (its.size : Int) := by omega
    simp only [e1, if_false, e2, decide_true, Int.le_refl, Bool.and_self, if_true, Int.toNat_zero]
  · refine k _ _ hcons.1 ((x1.trans x2).transL (SX.heap (tk := s2.toks) fun b o nb e => (Heap.get?_update_other _ _ (Ne.symm (by simpa using nb))).trans e)) ⟨_, _, Heap.get?_update_self _ ho rfl, ?_⟩
    rw [← hcons.2]
    congr 1
    simp [Array.eraseIdxIfInBounds, hne]
theorem ev_len {np cp : Pos} {e : Expr} (C : Cx K h₀ env nm vals h) (e0 : nsIn K mainGlobals "len" = some Option.none) (hx : env.kindOf "len" = some .globalImplicit) (h1 : Eva prog w n h (eval e env) (.ref l)) (L : Ls h l vs) (hsz : vs.length ≤ 1000)
    (hst : starEach [e] env = (false, eval e env) :: starEach [] env := by rfl)
    (he : eval (.Call (.Name "len" np) [e] [] cp) env = (do callWith cp (← eval (.Name "len" np) env) [] (backTo cp (starEach [e] env)) (backToKw cp (keywordEach [] env))) := by rfl) :
    Eva prog w n h (eval (.Call (.Name "len" np) [e] [] cp) env) (vi (vs.length : Int)) := by
  intro A Q E s r g q
  refine Call_ (ev_built (v := .builtin "len") (prog := prog) (w := w) (n := n) C e0 (by decide +kernel) hx (by decide) (by decide) A _ E s r g fun f s1 ef x1 => ?_) he
  subst ef
  refine PyProof.Rows.callWith_builtin1 (args_cons (h1 A _ E s1 r (g.trans x1.gr) fun v s2 ev x2 => args_nil ?_) hst) hst
  obtain rfl := er_ref ev
  obtain ⟨its, L1, L2⟩ := L.gr ((g.trans x1.gr).trans x2.gr)
  have e : its.size = vs.length := by rw [← L2]; simp
  refine Calls.call_len_list L1 (by omega) (q _ _ ?_ ((x1.trans x2).trans .tok))
  rw [e]; rfl
end
end Mine
end
section
open PySem PySem.W PyProof.Rows PySem.Calls
set_option Elab.async false
set_option maxRecDepth 100000
set_option maxHeartbeats 4000000
set_option linter.unusedVariables false
set_option pp.deepTerms false
set_option pp.maxSteps 700
namespace Mine
local macro_rules | `(tactic| tm_at "at") => `(tactic| with_reducible (repeat (first | exact At.head | apply At.tail)))
local macro_rules | `(tactic| tm_at "ok") => `(tactic| first | trivial | assumption | (simp only [okI]; omega) | (simp only [okI]; mul_fits))
local macro_rules | `(tactic| tm_at "bop") => `(tactic| exact fun _ _ => bo_any (by tm_at "ok"))
local macro_rules | `(tactic| tm_at "cm") => `(tactic| exact fun _ _ => co_any rfl)
local macro_rules | `(tactic| tm_at "obj") => `(tactic| first | exact QFAt.ob (by assumption) | assumption)
local macro_rules | `(tactic| tm_at "cls") => `(tactic| first | exact cls_qf _ | exact cls_bit _)
local macro_rules | `(tactic| tm_at "lt") => `(tactic| first | assumption | omega)
local macro_rules | `(tactic| tm_at "bitx") => `(tactic| first | exact QFAt.bo (by assumption) | exact QFAt.bc (by assumption) | exact QFAt.bs (by assumption))
local macro_rules | `(tactic| tm_at "ev") => `(tactic| first
  | with_reducible exact ev_int | with_reducible exact ev_true | with_reducible exact ev_none | with_reducible exact ev_str
  | ((with_reducible refine' ev_loc ?h1 ?h2 ?h3); (case h1 => assumption); (case h2 => tm_at "at"); (case h3 => rfl))
  | ((with_reducible refine' ev_attr (Cx.inK ?h1) ?h2 ?h3 ?h4 ?h5 ?h6 ?h7 ?h8); (case h1 => assumption); (case h4 => tm_at "ev"); (case h3 => tm_at "obj"); (case h2 => tm_at "cls"); (case h5 => tm_at "at"); (case h6 => rfl); (case h7 => rfl); (case h8 => rfl))
  | ((with_reducible refine' ev_bin ?h1 ?h2 ?h3); (case h1 => tm_at "ev"); (case h2 => tm_at "ev"); (case h3 => tm_at "bop"))
  | ((with_reducible refine' ev_bit ?h1 ?h2 ?h3 ?h4 ?h5 ?h6 ?h7 ?h8); (case h1 => assumption); (case h3 => tm_at "ev"); (case h4 => tm_at "ev"); (case h2 => tm_at "bitx"); (case h5 => tm_at "lt"); (case h6 => tm_at "lt"); (case h7 => tm_at "lt"); (case h8 => (intros; rfl)))
  | ((with_reducible refine' ev_un ?h1 ?h2); (case h1 => tm_at "ev"); (case h2 => exact fun _ => uo_any rfl)))
local macro_rules | `(tactic| tm_at "eb") => `(tactic| first
  | ((with_reducible refine' eb_cmp ?h1 ?h2 ?h3 ?h4); (case h1 => tm_at "ev"); (case h2 => tm_at "ev"); (case h3 => tm_at "cm"); (case h4 => rfl))
  | ((with_reducible refine' eb_bool ?h1); (case h1 => tm_at "eb"))
  | ((with_reducible refine' eb_or ?h1 ?h2); (case h1 => tm_at "eb"); (case h2 => tm_at "eb"))
  | ((with_reducible refine' eb_and ?h1 ?h2); (case h1 => tm_at "eb"); (case h2 => tm_at "eb"))
  | with_reducible exact eb_or_nil | with_reducible exact eb_and_nil
  | ((with_reducible refine' eb_not ?h1); (case h1 => tm_at "eb")))
namespace QS
def firstEmp (t : QS) : Nat → Nat → Option Nat
  | 0, _ => none
  | f + 1, j => if t.emp j = true then some j else t.firstEmp f (j + 1)
def hl (t : QS) (st : Nat) : Nat → Nat → List Nat → Nat → Option (List Nat)
  | 0, _, _, _ => some []
  | f + 1, k, qu, cur =>
    let idx := (st + k) % t.N
    if t.emp idx = true then (if qu = [] then t.hl st f (k + 1) [] cur else none) else
      let q1 := if t.occ idx = true then qu ++ [idx] else qu
      if (!(t.con idx) && (t.occ idx || t.shi idx)) = true then
        match q1 with
        | [] => none
        | c :: q2 => (t.hl st f (k + 1) q2 c).map fun ys => (c * 2 ^ (32 - t.q) + t.fil idx) :: ys
      else (t.hl st f (k + 1) q1 cur).map fun ys => (cur * 2 ^ (32 - t.q) + t.fil idx) :: ys
def hashes (t : QS) : Option (List Nat) := (t.firstEmp t.N 0).bind fun st => t.hl st t.N 0 [] 0
end QS
def Res.keep (h : Heap) (D : List Addr) : Res := ⟨fun b => b ∉ D ∧ ∃ o, h.get? b = some o, fun h' => ∀ b o, b ∉ D → h.get? b = some o → h'.get? b = some o, fun h1 h2 k x b o n e => k b o ⟨n, o, e⟩ (x b o n e), fun h1 x b ⟨n, o, e⟩ => ⟨o, x b o n e⟩⟩
def Res.loc (L : Addr) (nm : List Str) (vals : List (Option Value)) : Res := ⟨fun b => b = L, fun h => Locs h L nm vals, fun h h' k x => x.at (k L · rfl), fun h x b hb => hb ▸ x.there⟩
def Res.ri (it : Addr) (a b : Int) : Res := ⟨fun x => x = it, fun h => IsRangeIter h it a b 1, fun h h' k x => k it _ rfl x, fun h x b hb => hb ▸ ⟨_, x⟩⟩
theorem Act.swap {K h₀ env nm vals D ρ R s₀ s} (H : Act K h₀ env nm vals D ρ R s₀ s) : Act K h₀ env nm vals D R ρ s₀ s := ⟨H.cx, H.sx, H.fr, H.rest, H.own, fun b q1 q2 => H.dj b q2 q1, H.lr, H.lo⟩
def EndP (M : Model) (A : Around) (h₀ : Heap) : List Nat → List Addr → Res → Shared → End → Shared → Prop
  | [], D, ρ, s => fun e s' => e = .ret (.ok (.ret .none)) ∧ SX D s s'
  | x :: xs, D, ρ, s => fun e s' => e.quiet = true ∧ SX D s s' ∧ ∃ v g l k c p fs, e = .susp v g l k c p fs ∧ er v = vi (x : Int) ∧ ∃ D' ρ', ρ'.I s'.heap ∧ (∀ b ∈ D', ρ'.fp b) ∧
      (∀ b ∈ D', h₀.get? b = none) ∧ (∀ b ∈ D', b ∈ D ∨ s.heap.get? b = none) ∧ (∀ b, ρ'.fp b → ρ.fp b ∨ s.heap.get? b = none) ∧ RunP M A h₀ xs D' ρ' e.genState
theorem RunP.of {M A h₀ xs D ρ gs} (h : ∀ s, ρ.I s.heap → Wk M A gs s (EndP M A h₀ xs D ρ s)) : RunP M A h₀ xs D ρ gs := by cases xs <;> exact h
section
variable {prog : Program} {w : World} {n : Nat} {h h₀ : Heap} {env : Env} {nm : List Str} {vals : List (Option Value)} {a : Addr} {F : FP} {t : QS} {D : List Addr} {R ρ : Res} {s₀ s s' : Shared} {A : Around} {E : Value → Shared → Prop}
theorem Rm.func {body : List Stmt} (r : Rm (n + 1) A) : Rm n (A.over (.func body env) []) := by
  have e1 : (A.over (.func body env) []).depth = A.depth + 0 + 1 := rfl
  have e2 : (A.over (.func body env) []).units = A.units + 0 + 3 := rfl
  refine ⟨r.hd, ?_, ?_⟩
  · rw [e1]; have := r.dp; omega
  · rw [e2]; have := r.un; omega
theorem Rm.loop {body body' : List Stmt} {tg : Expr} {it : Value} {k : Result → Sem Fin} {g : Bool} {l : List Value} {p : Pos} (r : Rm (n + 1) A) : Rm n (A.over (.forLoop tg it body' [] env) [.ret k none g l (.func body env) p []]) := by
  have e1 : (A.over (.forLoop tg it body' [] env) [.ret k none g l (.func body env) p []]).depth = A.depth + 1 + 0 := by rfl
  have e2 : (A.over (.forLoop tg it body' [] env) [.ret k none g l (.func body env) p []]).units = A.units + 3 + 0 := by rfl
  refine ⟨?_, ?_, ?_⟩
  · show (marksOver _ (A.handled, A.handled)).1 = none
    rw [r.hd]; rfl
  · rw [e1]; have := r.dp; omega
  · rw [e2]; have := r.un; omega

abbrev hNm : List Str := ["self", "queue", "start", "cur_quot", "i", "idx", "is_occupied", "is_continuation", "is_shifted"]
theorem ev_nil {pos : Pos} : EvaP prog w n h (eval (.List [] pos) env) fun v h' => ∃ q, v = .ref q ∧ Lp h' q [] ∧ h.get? q = none :=
  fun A Q E s r g q => wpAny_List (args_nil ⟨by simp, q _ _ ⟨_, rfl, ⟨_, _, Heap.get?_push_size _ rfl, rfl⟩, Gr.none g (size_none _)⟩ (SX.heap fun b o _ z => Heap.get?_push_of_some _ z)⟩)
theorem f3_eq (t : QS) (i : Nat) : (f3 t i == 0) = t.emp i := by
  unfold f3 QS.emp
  cases t.occ i <;> cases t.con i <;> cases t.shi i <;> rfl
theorem FE.new {nm : List Str} {sc : Scope} {L g bu : Addr} {cl : List (Str × Addr)} {qual : Str} {func : Option Addr} {code : Value} (k : sc.kind = .function) (a : (nm.all fun x => sc.names.lookup x == some .local && !(x == ("__debug__" : Str))) = true) (d : (decide nm.Nodup) = true)
    (hg : g = mainGlobals) (hb : bu = builtinsNs) : FE (newEnv sc L g cl qual func code none bu) nm := FE.of k a d hg hb
theorem kind_new {x : Str} {k : NameKind} {sc : Scope} {L g bu : Addr} {cl : List (Str × Addr)} {qual : Str} {func : Option Addr} {code : Value} (h : sc.names.lookup x = some k) : (newEnv sc L g cl qual func code none bu).kindOf x = some k := h
theorem co_new {sc : Scope} {L g bu : Addr} {cl : List (Str × Addr)} {qual : Str} {func : Option Addr} {code : Value} (h : sc.isCoroutine = false) : (newEnv sc L g cl qual func code none bu).scope.isCoroutine = false := h
theorem EvaP.go {α : Type} {t : Sem α} {P : α → Heap → Prop} (x : EvaP prog w n h t P) (A : Around) (Q : α → Shared → Prop) (E : Value → Shared → Prop) (s : Shared) (r : Rm n A) (g : Gr h s.heap) (k : ∀ a s', P a s'.heap → SX [] s s' → Q a s') : wpAny (model prog w) A t Q E s := x A Q E s r g k
theorem cells_none {l : List (Str × NameKind)} (h : (l.all fun x => x.2 != .cell) = true) : ∀ x ∈ l, x.2 ≠ .cell := fun x hx => by simpa using List.all_eq_true.mp h x hx
/-- the generator of the hashes, made -/
theorem q_hashes (B : Bas (KK w) h₀) {xs : List Nat} {RR : Result → Shared → Prop} (gb : Gr h₀ s.heap) (X : QFAt s.heap a F t) (hs : t.hashes = some xs) (r : Rm 1 A)
    (hR : ∀ ga g L ρ s', SX [] s s' → s.heap.get? ga = none → s.heap.get? L = none → ga ≠ L → s.gens[g]? = none → (∀ b, ρ.fp b → b = L ∨ b ∈ F.all a ∨ ∃ o, h₀.get? b = some o) →
      (∀ A', Rm 12 A' → GenSt prog w A' h₀ ga g xs [L] ρ s') → RR (.ok (.ret (.ref ga))) s') :
    codeAny (model prog w) A (.call (.ref 330) ⟨[.ref a], []⟩) RR s := by
  have hN := X.N8
  have hcd : ∀ {fd : FuncData}, codeIn (KK w) fd.code fd.qualname = true → s.heap.CodeRec fd.code fd.qualname := fun e => codeRec_of (B.inK.keeps gb) e
  refine codeAny_call_generator r.room ((B.inK.keeps gb) 330 _ (by rfl)) rfl rfl rfl rfl (hcd (by kernel_rfl)) (BindsTo.of_eq (binds := [("self", .ref a)]) rfl _ _ _ _ ?_)
  refine wpAny_newFunctionEnv (fun x hx => ?_) (fun x hx => ?_) (fun h' hn' hs' => ⟨(B.nl.keeps gb).fresh _ hs', ?_⟩)
  · exact cells_none (l := _) (by decide +kernel) x hx
  · rw [List.mem_singleton.mp hx]; rfl
  have nL : ∀ {o : Obj}, s.heap.get? s.heap.objs.size = some o → False := fun z => by rw [size_none] at z; cases z
  have up : Gr s.heap h' := fun b o e => hs'.extBut b o (fun q => nL (q ▸ e)) (Heap.get?_push_of_some _ e)
  have hLF : s.heap.objs.size ∉ F.all a := fun m => (X.there _ m).elim fun o z => nL z
  have hszL : s.heap.objs.size < h'.objs.size := by rw [hs'.1, Heap.size_push]; exact Nat.lt_succ_self _
  have hL0 : h₀.get? s.heap.objs.size = none := Gr.none gb (size_none _)
  refine hR h'.objs.size s.gens.size s.heap.objs.size ((Res.loc s.heap.objs.size hNm ([Value.ref a].map some ++ List.replicate 8 none)).and ((Res.qf a F t).and (Res.gr h₀))) _ ⟨fun b o _ e => Heap.get?_push_of_some _ (up b o e), ⟨fun i x e => ?_, fun b => b.push rfl⟩, rfl⟩ ?_ (size_none _) (Nat.ne_of_gt hszL) ?_ (fun b hb => hb) fun A' rA => ?_
  · have hi : i < s.gens.size := (Array.getElem?_eq_some_iff.mp e).1
    show (s.gens.push _)[i]? = some x
    rw [Array.getElem?_push_lt hi]
    exact (Array.getElem?_eq_getElem hi) ▸ e
  · exact Gr.none up (size_none _)
  · exact Array.getElem?_eq_none (Nat.le_refl _)
  refine ⟨⟨_, _, _, Heap.get?_push_size _ rfl, rfl, rfl, rfl⟩, ⟨_, Array.getElem?_push_size .., RunP.of fun s1 hI => ?_⟩, ⟨?_, (X.gr up).gr fun b o e => Heap.get?_push_of_some _ e, fun b o e => Heap.get?_push_of_some _ (up b o (gb b o e))⟩, fun m => Nat.ne_of_gt hszL (List.mem_singleton.mp m), fun b hb => .inl (List.mem_singleton.mp hb), fun b hb => by rw [List.mem_singleton.mp hb]; exact hL0⟩
  rotate_left
  · exact Locs.gr (locs_binds (nm := hNm) (args := [.ref a]) (by decide +kernel) rfl hn') fun b o e => Heap.get?_push_of_some _ e
  refine sg_func fun H => ?_
  generalize hLe : s.heap.objs.size = L at *
  obtain ⟨st, hst, hs⟩ := Option.bind_eq_some_iff.mp hs
  have hab : h₀.objs.size ≤ L := hLe ▸ B.ab gb
  generalize henv : newEnv _ L _ _ _ _ _ _ _ = env at *
  have Fe : FE env hNm := by rw [← henv]; exact FE.new rfl (by decide +kernel) (by decide +kernel) rfl rfl
  have hkr : env.kindOf "range" = some .globalImplicit := by rw [← henv]; exact kind_new (by decide +kernel)
  have hkl : env.kindOf "len" = some .globalImplicit := by rw [← henv]; exact kind_new (by decide +kernel)
  have hco : env.scope.isCoroutine = false := by rw [← henv]; exact co_new rfl
  have hel : env.locals = L := by rw [← henv]; rfl
  have X1 : QFAt s1.heap a F t := hI.2.1
  have H0 : Act (KK w) h₀ env hNm ([Value.ref a].map some ++ List.replicate 8 none) [] .emp (Res.keep s1.heap [L]) { s1 with heap := h₀ } s1 :=
    ⟨⟨Fe, by rw [hel]; exact hI.1, B, hI.2.2, by rw [hel]; exact hab⟩, ⟨fun b o _ e => hI.2.2 b o e, .refl _, rfl⟩, by rw [hel]; exact hL0, trivial, fun b o _ e => e, fun b q _ => q, id, fun q => q.1 (by rw [hel]; simp)⟩
  have rf : ∀ {body : List Stmt}, Rm 10 (A'.in1.over (.func body env) []) := Rm.func (rA.in1.mono (Nat.le_refl _))
  have xq : ∀ {s' : Shared}, (Res.keep s1.heap [L]).I s'.heap → QFAt s'.heap a F t := fun k => X1.at fun b hb o e => k b o (fun m => hLF (List.mem_singleton.mp m ▸ hb)) e
  refine sg_stmt (x_assignP (i := 1) H0 rf ev_nil (by tm_at "at") fun v s2 s3 pv x2 x3 H3 => ?_)
  obtain ⟨qa, rfl, Lq, hqa⟩ := pv
  have hqL : qa ≠ L := fun q => by
    obtain ⟨o, z⟩ := hI.1.there
    rw [q, z] at hqa; cases hqa
  have H3' : Act (KK w) h₀ env hNm _ [] (.lp qa []) (Res.keep s1.heap [L]) { s1 with heap := h₀ } s3 :=
    H3.as (Lq.at fun o e => x3.hp _ o (by rw [hel]; simpa using hqL) e) H3.rest (fun b q1 q2 => by obtain ⟨o, z⟩ := q2.2; rw [show b = qa from q1, hqa] at z; cases z) (fun q => hqL (by rw [← hel]; exact q.symm)) H3.lr
  refine sg_stmt (x_assign (i := 2) (v := vi ((0 : Nat) : Int)) H3' rf ev_int (by tm_at "at") fun s4 H4 _ => ?_)
  refine sg_stmt (x_while (n := 10) (fun m ρ vals => ∃ j : Nat, vals = [some (.ref a), some (.ref qa), some (vi (j : Int)), none, none, none, none, none, none] ∧ ρ = .lp qa [] ∧ t.firstEmp m j = some st ∧ j + m = t.N) H4 rf ⟨0, rfl, rfl, hst, by omega⟩ ?_)
  rintro m ρ vals s5 ⟨j, rfl, rfl, hj, hjm⟩ H5
  obtain ⟨m, rfl⟩ : ∃ f, m = f + 1 := by cases m with | zero => simp [QS.firstEmp] at hj | succ f => exact ⟨f, rfl⟩
  simp only [QS.firstEmp] at hj
  have X5 := xq H5.rest
  have C := H5.cx
  refine ⟨!(t.emp j), eb_not (eb_val (ev_qemp C X5 (by tm_at "ev") (by tm_at "ev") (by omega) (by omega))), fun he s6 H6 => ?_, fun he s6 H6 => ?_⟩
  rotate_left
  · rw [if_neg (by simpa using he)] at hj
    have C := H6.cx
    refine wpAny_execs_cons (x_aug H6 rf (by tm_at "at") rfl (by tm_at "ev") (fun _ _ => io_add) fun s7 H7 _ => wpAny_execs_nil ?_)
    exact ⟨_, _, ⟨m, Nat.lt_succ_self _, j + 1, rfl, rfl, hj, by omega⟩, H7⟩
  rw [if_pos (by simpa using he)] at hj
  cases hj
  refine sg_stmt (x_assign (i := 3) (v := vi ((0 : Nat) : Int)) H6 rf ev_int (by tm_at "at") fun s7 H7 _ => ?_)
  have X7 := xq H7.rest
  have C := H7.cx
  refine sg_For (EvaP.go (ev_range2 (a := (st : Int)) (b := ((t.N + st : Nat) : Int)) C (by kernel_rfl) hkr (by tm_at "ev") (Eva.cast (by tm_at "ev") (congrArg vi (by show (t.N : Int) + st = _; omega)))) _ _ _ s7 rf (Gr.refl _) fun v s8 pv x8 => ?_)
  obtain ⟨rg, t1, u, v', rfl, hr⟩ := pv
  refine wpAny_pyIter_range hr (small1 (by omega) (by omega) (by omega) (by omega)) ?_
  rw [size1 t.N (by omega)]
  have H8 := H7.pure x8
  have hit0 := size_none s8.heap
  have x9 : SX [] s8 { s8 with heap := s8.heap.push { cls := Value.type "range_iterator", data := Data.fields #[rawInt (st : Int), rawInt (t.N : Int), rawInt 1] } } := SX.heap fun b o _ q => Heap.get?_push_of_some _ q
  have hit0 := size_none s8.heap
  generalize hite : s8.heap.objs.size = it at *
  obtain ⟨s9, hs9⟩ : ∃ s9 : Shared, s9 = { s8 with heap := s8.heap.push { cls := Value.type "range_iterator", data := Data.fields #[rawInt (st : Int), rawInt (t.N : Int), rawInt 1] } } := ⟨_, rfl⟩
  have hnew : IsRangeIter s9.heap it (st : Int) (t.N : Int) 1 := by
    rw [hs9, ← hite]
    have := Heap.get?_push_size s8.heap (o := { cls := Value.type "range_iterator", data := Data.fields #[rawInt (st : Int), rawInt (t.N : Int), rawInt 1] }) rfl
    simpa [IsRangeIter] using this
  rw [← hs9] at x9
  show ∀ k g l p, _ → _ → Sg _ _ _ _ _ { s8 with heap := _ } _
  rw [← hs9]
  have H9 := H8.pure x9
  have hqF : qa ∉ F.all a := fun m => by obtain ⟨o, z⟩ := X1.there _ m; rw [hqa] at z; cases z
  have hitF : it ∉ F.all a := fun m => by obtain ⟨o, z⟩ := (xq H8.rest).there _ m; rw [hit0] at z; cases z
  have hiq : qa ≠ it := fun q => by obtain ⟨o, z⟩ := (Res.lp qa []).ex _ H8.own qa rfl; rw [q, hit0] at z; cases z
  have hiL : it ≠ L := fun q => by obtain ⟨o, z⟩ := H8.there; rw [hel, ← q, hit0] at z; cases z
  have hq0 : h₀.get? qa = none := Gr.none hI.2.2 hqa
  have hi0 : h₀.get? it = none := Gr.none H8.cx.gb hit0
  have hs1i : s1.heap.get? it = none := by
    cases q : s1.heap.get? it with
    | none => rfl
    | some o => have := H8.rest it o (by simpa using hiL) q; rw [hit0] at this; cases this
  intro kk g l p hk hg
  subst hg
  have hk0 : kk (.ok .next) = leafOf (.ok (.ret .none)) := (hk .next).trans rfl
  have rl : ∀ {tg b b2}, Rm 10 (A'.in1.over (.forLoop tg (.ref it) b [] env) [.ret kk none (id false) l (.func b2 env) p []]) := Rm.loop (rA.in1.mono (Nat.le_refl _))
  suffices key : ∀ (f k : Nat) (qu : List Nat) (cur : Nat) (xs : List Nat) (D : List Addr) (ρ0 : Res) (sr s : Shared) (u1 u2 u3 u4 u5 : Option Value), t.hl st f k qu cur = some xs → k + f = t.N → qu.length ≤ k → cur < t.N → (∀ x ∈ qu, x < t.N) → (∀ b ∈ D, b = L ∨ b = qa ∨ b = it) → L ∈ D → (qa ∈ D ∨ sr.heap.get? qa = none) → (it ∈ D ∨ sr.heap.get? it = none) →
      (∀ b ∈ D, ρ0.fp b) → (∀ b ∈ F.all a, ρ0.fp b) → (∀ b o, h₀.get? b = some o → ρ0.fp b) → QFAt sr.heap a F t →
      Act (KK w) h₀ env hNm [some (.ref a), some (.ref qa), some (vi (st : Int)), some (vi (cur : Int)), u1, u2, u3, u4, u5] [] (Res.lp qa (qu.map fun (x : Nat) => vi (x : Int))) ((Res.keep sr.heap D).and (Res.ri it ((st + k : Nat) : Int) (f : Int))) { sr with heap := h₀ } s →
      Sg (model prog w) A'.in1 _ _ _ s (EndP (model prog w) A'.in1 h₀ xs D ρ0 sr) by
    refine key t.N 0 [] 0 xs [L] _ s1 s9 none none none none none hs (by omega) (by simp) (by omega) (by simp) (fun b hb => .inl (List.mem_singleton.mp hb)) (by simp) (.inr hqa) (.inr hs1i) (fun b hb => .inl (List.mem_singleton.mp hb)) (fun b hb => .inr (.inl hb)) (fun b o e => .inr (.inr ⟨o, e⟩)) X1 ?_
    exact H9.as H9.own ⟨H9.rest, hnew⟩ (fun b q1 q2 => q2.elim (H9.dj b q1) fun q => hiq ((show qa = b from q1.symm).trans q)) H9.lo fun q => q.elim H9.lr fun q => hiL (by rw [← hel]; exact q.symm)
  clear H9 hnew H8 H7 H6 H5 H4 H3' H3 H0 X7 X5 hr x9
  intro f
  induction f with
  | zero =>
    intro k qu cur xs D ρ0 sr s u1 u2 u3 u4 u5 hhl hkf hql hcu hqu hD hLD hqD hiD hρ1 hρ2 hρ3 Xr H
    simp only [QS.hl] at hhl
    cases hhl
    refine sg_forLoop ((Walks.range (prog := prog) (w := w) rl.hd it (st : Int) 1 t.N).done s _ _ ?_ fun h' tk k2 => ?_)
    · have z := H.rest.2
      have e1 : (st : Int) + (t.N : Int) * 1 = ((st + k : Nat) : Int) := by omega
      have e2 : (t.N : Int) - (t.N : Int) = ((0 : Nat) : Int) := by omega
      show IsRangeIter s.heap it _ _ 1
      rw [e1, e2]; exact z
    · intro c'
      refine sg_leaf _ ?_
      rw [hk0]
      refine sg_end _ ⟨rfl, fun b o nb e => ?_, H.sx.gn, H.sx.os⟩
      refine k2 b o (fun m => ?_) (H.rest.1 b o nb e)
      rw [List.mem_singleton.mp m] at nb e
      rcases hiD with z | z
      · exact nb z
      · rw [z] at e; cases e
  | succ f ih =>
    intro k qu cur xs D ρ0 sr s u1 u2 u3 u4 u5 hhl hkf hql hcu hqu hD hLD hqD hiD hρ1 hρ2 hρ3 Xr H
    have hlt : k < t.N := by omega
    have xr : ∀ {s' : Shared}, (Res.keep sr.heap D).I s'.heap → QFAt s'.heap a F t := fun k => Xr.at fun b hb o e => k b o (fun m => by
      rcases hD b m with z | z | z <;> subst z
      · exact hLF hb
      · exact hqF hb
      · exact hitF hb) e
    refine sg_forLoop ((Walks.range (prog := prog) (w := w) rl.hd it (st : Int) 1 t.N).item k s _ _ hlt ?_ fun v h' tk hP st' k2 => ?_)
    · have z := H.rest.2
      have e1 : (st : Int) + (k : Int) * 1 = ((st + k : Nat) : Int) := by omega
      have e2 : (t.N : Int) - (k : Int) = ((f + 1 : Nat) : Int) := by omega
      show IsRangeIter s.heap it _ _ 1
      rw [e1, e2]; exact z
    obtain ⟨tk2, rfl⟩ := hP
    have st2 : IsRangeIter h' it ((st + (k + 1) : Nat) : Int) (f : Int) 1 := by
      have e1 : (st : Int) + ((k + 1 : Nat) : Int) * 1 = ((st + (k + 1) : Nat) : Int) := by omega
      have e2 : (t.N : Int) - ((k + 1 : Nat) : Int) = (f : Int) := by omega
      rw [← e1, ← e2]; exact st'
    have xk : SX [it] s { s with heap := h', toks := tk } := SX.heap fun b o nb e => k2 b o nb e
    have H1 := (H.swap.mut (ρ' := (Res.keep sr.heap D).and (Res.ri it ((st + (k + 1) : Nat) : Int) (f : Int))) xk (fun b hb => by rw [List.mem_singleton.mp hb]; exact ⟨.inr rfl, hi0, .inr hi0⟩)
      ⟨fun b o nb e => k2 b o (fun m => by
        rw [List.mem_singleton.mp m] at nb e
        rcases hiD with z | z
        · exact nb z
        · rw [z] at e; cases e) (H.rest.1 b o nb e), st2⟩ fun b hb => .inl hb).swap
    refine x_store (i := 4) (v := vi ((st + k : Nat) : Int)) H1 (by tm_at "at") (by show vi _ = vi _; congr 1; omega) fun s2 H2 _ => ?_
    intro Hh
    have C := H2.cx
    have X2 := xr H2.rest.1
    refine sg_stmt (x_assign (i := 5) (v := vi (((st + k) % t.N : Nat) : Int)) H2 rl (Eva.cast (by tm_at "ev") (congrArg vi (fmod_nat _ _))) (by tm_at "at") fun s3 H3 _ => ?_)
    have hidx : (st + k) % t.N < t.N := Nat.mod_lt _ (by omega)
    unfold QS.hl at hhl
    dsimp only at hhl
    generalize (st + k) % t.N = idx at *
    have C := H3.cx
    have X3 := xr H3.rest.1
    refine sg_stmt (x_assign (i := 6) (v := vi (if t.occ idx then 1 else 0)) H3 rl (ev_chk C X3.bo (by tm_at "ev") (by tm_at "ev") hidx (by omega) (by omega)) (by tm_at "at") fun s4 H4 _ => ?_)
    have C := H4.cx
    have X4 := xr H4.rest.1
    refine sg_stmt (x_assign (i := 7) (v := vi (if t.con idx then 1 else 0)) H4 rl (ev_chk C X4.bc (by tm_at "ev") (by tm_at "ev") hidx (by omega) (by omega)) (by tm_at "at") fun s5 H5 _ => ?_)
    have C := H5.cx
    have X5 := xr H5.rest.1
    refine sg_stmt (x_assign (i := 8) (v := vi (if t.shi idx then 1 else 0)) H5 rl (ev_chk C X5.bs (by tm_at "ev") (by tm_at "ev") hidx (by omega) (by omega)) (by tm_at "at") fun s6 H6 _ => ?_)
    have C := H6.cx
    refine sg_stmt (x_if (c := t.emp idx) H6 rl (EvB.cast (by tm_at "eb") (f3_eq t idx)) (fun he s7 H7 _ => ?_) fun he s7 H7 _ => ?_)
    · rw [if_pos he] at hhl
      by_cases hqe : qu = []
      · rw [if_pos hqe] at hhl
        subst hqe
        have C := H7.cx
        have L7 : Lp s7.heap qa [] := H7.own
        refine wpAny_execs_cons (wpAny_Assert_new rl.hd (EvaP.go (eb_cmp (ev_len C (by kernel_rfl) hkl (by tm_at "ev") L7.ls (by simp)) (by tm_at "ev") (by tm_at "cm")) _ _ _ s7 rl (Gr.refl _) fun b s8 pb x8 => ?_))
        have hb : b = true := pb.trans (by decide)
        subst hb
        refine (if_pos rfl).mpr ?_
        refine wpAny_execs_cons (wpAny_Continue ?_)
        exact sg_again rfl (ih (k + 1) [] cur xs D ρ0 sr s8 _ _ _ _ _ hhl (by omega) (by simp) hcu (by simp) hD hLD hqD hiD hρ1 hρ2 hρ3 Xr (H7.pure x8))
      · rw [if_neg hqe] at hhl; cases hhl
    rw [if_neg (by rw [he]; decide)] at hhl
    refine wpAny_execs_nil ?_
    show Sg _ _ _ (Sem.wrap _ _ _ _ (execs _ _)) _ _ _
    suffices join : ∀ (q1 : List Nat) s8, q1 = (if t.occ idx = true then qu ++ [idx] else qu) → Act (KK w) h₀ env hNm [some (.ref a), some (.ref qa), some (vi (st : Int)), some (vi (cur : Int)), some (vi ((st + k : Nat) : Int)), some (vi (idx : Int)), some (vi (if t.occ idx then 1 else 0)), some (vi (if t.con idx then 1 else 0)), some (vi (if t.shi idx then 1 else 0))] [] (Res.lp qa (q1.map fun (x : Nat) => vi (x : Int))) ((Res.keep sr.heap D).and (Res.ri it ((st + (k + 1) : Nat) : Int) (f : Int))) { sr with heap := h₀ } s8 →
        Sg (model prog w) A'.in1 _ _ _ s8 (EndP (model prog w) A'.in1 h₀ xs D ρ0 sr) by
      have C := H7.cx
      refine sg_stmt (x_if (c := t.occ idx) H7 rl (EvB.cast (by tm_at "eb") (bit1 _)) (fun he s8 H8 _ => ?_) fun he s8 H8 _ => ?_)
      · have C := H8.cx
        have L8 : Lp s8.heap qa (qu.map fun (x : Nat) => vi (x : Int)) := H8.own
        refine wpAny_execs_cons (x_append C.F rl (by tm_at "ev") (by tm_at "ev") L8 (by rw [List.length_map]; omega) fun s9 x9 L9 => wpAny_execs_nil ?_)
        refine join (qu ++ [idx]) s9 (by rw [if_pos he]) (H8.mut (ρ' := Res.lp qa ((qu ++ [idx]).map fun (x : Nat) => vi (x : Int))) x9 (fun b hb => by rw [List.mem_singleton.mp hb]; exact ⟨rfl, hq0, .inr hq0⟩) ?_ fun b hb => .inl hb)
        show Lp _ _ _
        rw [List.map_append]; exact L9
      · exact wpAny_execs_nil (join qu s8 (by rw [if_neg (by rw [he]; decide)]) H8)
    intro q1 s8 hq1 H8
    rw [← hq1] at hhl
    have hql1 : q1.length ≤ k + 1 := by
      rw [hq1]; split
      · rw [List.length_append, List.length_singleton]; omega
      · omega
    have hqu1 : ∀ x ∈ q1, x < t.N := by
      rw [hq1]; split
      · intro x hx; rcases List.mem_append.mp hx with z | z; exact hqu x z; rw [List.mem_singleton.mp z]; exact hidx
      · exact hqu
    clear hq1 H7 H6 H5 H4 H3 H2 H1 H
    suffices fin : ∀ (q2 : List Nat) (cur2 : Nat) xs2 s9, t.hl st f (k + 1) q2 cur2 = some xs2 → xs = (cur2 * 2 ^ (32 - t.q) + t.fil idx) :: xs2 → q2.length ≤ k + 1 → cur2 < t.N → (∀ x ∈ q2, x < t.N) → Act (KK w) h₀ env hNm [some (.ref a), some (.ref qa), some (vi (st : Int)), some (vi (cur2 : Int)), some (vi ((st + k : Nat) : Int)), some (vi (idx : Int)), some (vi (if t.occ idx then 1 else 0)), some (vi (if t.con idx then 1 else 0)), some (vi (if t.shi idx then 1 else 0))] [] (Res.lp qa (q2.map fun (x : Nat) => vi (x : Int))) ((Res.keep sr.heap D).and (Res.ri it ((st + (k + 1) : Nat) : Int) (f : Int))) { sr with heap := h₀ } s9 →
        Sg (model prog w) A'.in1 _ _ _ s9 (EndP (model prog w) A'.in1 h₀ xs D ρ0 sr) by
      have C := H8.cx
      have X8 := xr H8.rest.1
      refine sg_stmt (x_if (c := !(t.con idx) && (t.occ idx || t.shi idx)) H8 rl (eb_val (ev_mcall C.inK (cls_qf w) X8.ob (mth_run w) (by tm_at "ev") (el1 (by tm_at "ev")) fun vs' hv => ?_)) (fun he s9 H9 _ => ?_) fun he s9 H9 _ => ?_)
      · exact q_run C.bs C.gb X8 hidx (by rw [List.map_cons, hv]; rfl) (by omega)
      · rw [if_pos he] at hhl
        match q1, hhl, hql1, hqu1, H9 with
        | c :: q2, hhl, hql1, hqu1, H9 =>
          obtain ⟨xs2, h1, h2⟩ := Option.map_eq_some_iff.mp hhl
          have C := H9.cx
          have L9 : Lp s9.heap qa (vi (c : Int) :: q2.map fun (x : Nat) => vi (x : Int)) := H9.own
          rw [List.length_cons] at hql1
          refine wpAny_execs_cons (wpAny_Assign_Name (wp_pop0 rl (by tm_at "ev") L9 (by rw [List.length_map]; omega) fun v s10 hv x10 L10 => ?_))
          have H10 := H9.mut (ρ' := Res.lp qa (q2.map fun (x : Nat) => vi (x : Int))) x10 (fun b hb => by rw [List.mem_singleton.mp hb]; exact ⟨rfl, hq0, .inr hq0⟩) L10 fun b hb => .inl hb
          exact x_store (i := 3) H10 (by tm_at "at") hv fun s11 H11 _ => wpAny_execs_nil (fin q2 c xs2 s11 h1 h2.symm (by omega) (hqu1 c (by simp)) (fun x hx => hqu1 x (List.mem_cons_of_mem _ hx)) H11)
      · rw [if_neg (by rw [he]; decide)] at hhl
        obtain ⟨xs2, h1, h2⟩ := Option.map_eq_some_iff.mp hhl
        exact wpAny_execs_nil (fin q1 cur xs2 s9 h1 h2.symm hql1 hcu hqu1 H9)
    intro q2 cur2 xs2 s9 hh2 hxs hql2 hcu2 hqu2 H9
    subst hxs
    have C := H9.cx
    have X9 := xr H9.rest.1
    have hsh : okI .LShift (cur2 : Int) ((32 - t.q : Nat) : Int) := ⟨by omega, by omega, by omega⟩
    refine sg_Yield rfl rfl rfl (EvaP.go (Eva.cast (v' := vi ((cur2 * 2 ^ (32 - t.q) + t.fil idx : Nat) : Int)) (ev_bin (ev_bin (by tm_at "ev") (by tm_at "ev") (fun _ _ => bo_any hsh)) (ev_fil X9 (by tm_at "ev") (by tm_at "ev") hidx) (by tm_at "bop")) ?_) _ _ _ s9 rl (Gr.refl _) fun v s10 pv x10 => ?_) hco Fe.inter
    · refine congrArg vi ?_
      rw [show arI .LShift (cur2 : Int) ((32 - t.q : Nat) : Int) = _ from shl_nat cur2 (32 - t.q)]
      show ((cur2 * 2 ^ (32 - t.q) : Nat) : Int) + (t.fil idx : Int) = _
      omega
    intro g' l' k' p' hqt hcont
    have H10 := H9.pure x10
    refine ⟨hqt, ⟨H10.rest.1, H10.sx.gn, H10.sx.os⟩, v, g', l', k', _, p', _, rfl, pv, [L, qa, it], (Res.loc L hNm _).and ((Res.lp qa (q2.map fun (x : Nat) => vi (x : Int))).and ((Res.ri it ((st + (k + 1) : Nat) : Int) (f : Int)).and ((Res.qf a F t).and (Res.gr h₀)))), ⟨by rw [← hel]; exact H10.cx.lo, H10.own, H10.rest.2, xr H10.rest.1, H10.cx.gb⟩, ?_, ?_, ?_, ?_, RunP.of fun s'' hI2 => hcont s'' _ (sg_again rfl (ih (k + 1) q2 cur2 xs2 [L, qa, it] _ s'' s'' (some (vi ((st + k : Nat) : Int))) (some (vi (idx : Int))) (some (vi (if t.occ idx then 1 else 0))) (some (vi (if t.con idx then 1 else 0))) (some (vi (if t.shi idx then 1 else 0))) hh2 (by omega) hql2 hcu2 hqu2 (by simp) (by simp) (.inl (by simp)) (.inl (by simp)) ?_ ?_ ?_ hI2.2.2.2.1 ?_))⟩
    · intro b hb
      simp only [List.mem_cons, List.not_mem_nil, or_false] at hb
      rcases hb with z | z | z
      · exact .inl z
      · exact .inr (.inl z)
      · exact .inr (.inr (.inl z))
    · intro b hb
      simp only [List.mem_cons, List.not_mem_nil, or_false] at hb
      rcases hb with z | z | z <;> rw [z] <;> assumption
    · intro b hb
      simp only [List.mem_cons, List.not_mem_nil, or_false] at hb
      rcases hb with z | z | z <;> subst z
      · exact .inl hLD
      · exact hqD
      · exact hiD
    · rintro b (z | z | z | z | ⟨o, z⟩)
      · rw [show b = L from z]; exact .inl (hρ1 L hLD)
      · rw [show b = qa from z]; exact hqD.imp (hρ1 qa) id
      · rw [show b = it from z]; exact hiD.imp (hρ1 it) id
      · exact .inl (hρ2 b z)
      · exact .inl (hρ3 b o z)
    · intro b hb
      simp only [List.mem_cons, List.not_mem_nil, or_false] at hb
      rcases hb with z | z | z
      · exact .inl z
      · exact .inr (.inl z)
      · exact .inr (.inr (.inl z))
    · exact fun b hb => .inr (.inr (.inr (.inl hb)))
    · exact fun b o e => .inr (.inr (.inr (.inr ⟨o, e⟩)))
    · refine ⟨⟨Fe, by rw [hel]; exact hI2.1, B, hI2.2.2.2.2, by rw [hel]; exact hab⟩, ⟨fun b o _ e => hI2.2.2.2.2 b o e, .refl _, rfl⟩, by rw [hel]; exact hL0, hI2.2.1, ⟨fun b o _ e => e, hI2.2.2.1⟩, ?_, ?_, ?_⟩
      · rintro b q1 (⟨q2, _⟩ | q2)
        · exact q2 (by rw [show b = qa from q1]; simp)
        · exact hiq ((show qa = b from q1.symm).trans q2)
      · exact fun q => hqL (by rw [← hel]; exact q.symm)
      · rintro (⟨q2, _⟩ | q2)
        · exact q2 (by rw [hel]; simp)
        · exact hiL (by rw [← hel]; exact q2.symm)
end
end Mine
end
section
open PySem PySem.W PyProof.Rows PySem.Calls
set_option Elab.async false
set_option maxRecDepth 100000
set_option maxHeartbeats 4000000
set_option linter.unusedVariables false
set_option pp.deepTerms false
set_option pp.maxSteps 700
namespace Mine
local macro_rules | `(tactic| tm_at "at") => `(tactic| with_reducible (repeat (first | exact At.head | apply At.tail)))
local macro_rules | `(tactic| tm_at "ok") => `(tactic| first | trivial | assumption | (simp only [okI]; omega) | (simp only [okI]; mul_fits))
local macro_rules | `(tactic| tm_at "bop") => `(tactic| exact fun _ _ => bo_any (by tm_at "ok"))
local macro_rules | `(tactic| tm_at "cm") => `(tactic| exact fun _ _ => co_any rfl)
local macro_rules | `(tactic| tm_at "obj") => `(tactic| first | exact QFAt.ob (by assumption) | assumption)
local macro_rules | `(tactic| tm_at "cls") => `(tactic| first | exact cls_qf _ | exact cls_bit _)
local macro_rules | `(tactic| tm_at "lt") => `(tactic| first | assumption | omega)
local macro_rules | `(tactic| tm_at "bitx") => `(tactic| first | exact QFAt.bo (by assumption) | exact QFAt.bc (by assumption) | exact QFAt.bs (by assumption))
local macro_rules | `(tactic| tm_at "ev") => `(tactic| first
  | with_reducible exact ev_int | with_reducible exact ev_true | with_reducible exact ev_none | with_reducible exact ev_str
  | ((with_reducible refine' ev_loc ?h1 ?h2 ?h3); (case h1 => assumption); (case h2 => tm_at "at"); (case h3 => rfl))
  | ((with_reducible refine' ev_attr (Cx.inK ?h1) ?h2 ?h3 ?h4 ?h5 ?h6 ?h7 ?h8); (case h1 => assumption); (case h4 => tm_at "ev"); (case h3 => tm_at "obj"); (case h2 => tm_at "cls"); (case h5 => tm_at "at"); (case h6 => rfl); (case h7 => rfl); (case h8 => rfl))
  | ((with_reducible refine' ev_bin ?h1 ?h2 ?h3); (case h1 => tm_at "ev"); (case h2 => tm_at "ev"); (case h3 => tm_at "bop"))
  | ((with_reducible refine' ev_bit ?h1 ?h2 ?h3 ?h4 ?h5 ?h6 ?h7 ?h8); (case h1 => assumption); (case h3 => tm_at "ev"); (case h4 => tm_at "ev"); (case h2 => tm_at "bitx"); (case h5 => tm_at "lt"); (case h6 => tm_at "lt"); (case h7 => tm_at "lt"); (case h8 => (intros; rfl)))
  | ((with_reducible refine' ev_un ?h1 ?h2); (case h1 => tm_at "ev"); (case h2 => exact fun _ => uo_any rfl)))
local macro_rules | `(tactic| tm_at "eb") => `(tactic| first
  | ((with_reducible refine' eb_cmp ?h1 ?h2 ?h3 ?h4); (case h1 => tm_at "ev"); (case h2 => tm_at "ev"); (case h3 => tm_at "cm"); (case h4 => rfl))
  | ((with_reducible refine' eb_bool ?h1); (case h1 => tm_at "eb"))
  | ((with_reducible refine' eb_or ?h1 ?h2); (case h1 => tm_at "eb"); (case h2 => tm_at "eb"))
  | ((with_reducible refine' eb_and ?h1 ?h2); (case h1 => tm_at "eb"); (case h2 => tm_at "eb"))
  | with_reducible exact eb_or_nil | with_reducible exact eb_and_nil
  | ((with_reducible refine' eb_not ?h1); (case h1 => tm_at "eb")))
def Res.ls (l : Addr) (vals : List Value) : Res := ⟨fun b => b = l, fun h => Ls h l vals, fun h h' k x => x.at (k l · rfl), fun h x b hb => hb ▸ x.there⟩
section
variable {prog : Program} {w : World} {n : Nat} {h h₀ : Heap} {env : Env} {nm : List Str} {vals : List (Option Value)} {a : Addr} {F : FP} {t : QS} {D : List Addr} {R ρ : Res} {s₀ s s' : Shared} {A : Around} {E : Value → Shared → Prop}
theorem mth_hashes (w : World) : Mth (KK w) QFc qfNm "hashes" 330 := .of (by kernel_rfl) (by kernel_rfl) (by kernel_rfl) (by decide +kernel)
theorem mth_gethashes (w : World) : Mth (KK w) QFc qfNm "get_hashes" 337 := .of (by kernel_rfl) (by kernel_rfl) (by kernel_rfl) (by decide +kernel)
theorem mth_params2 (w : World) : Mth (KK w) QFc qfNm "_QuotientFilter__set_params" 209 := .of (by kernel_rfl) (by kernel_rfl) (by kernel_rfl) (by decide +kernel)
theorem SX.gnone {D : List Addr} {s s' : Shared} (x : SX D s s') {g : Nat} (e : s'.gens[g]? = Option.none) : s.gens[g]? = Option.none := by
  cases q : s.gens[g]? with
  | none => rfl
  | some z => rw [x.gn.1 g z q] at e; cases e
theorem q_gethashes (B : Bas (KK w) h₀) {xs : List Nat} {args : List Value} (gb : Gr h₀ h) (X : QFAt h a F t) (hs : t.hashes = some xs) (hsz : xs.length ≤ 1000) (ha : args.map er = [.ref a]) (hn : 16 ≤ n) :
    FunP prog w n h 337 args (fun v h' => ∃ l, v = .ref l ∧ Ls h' l (xs.map fun (x : Nat) => vi (x : Int)) ∧ h.get? l = none) := by
  obtain ⟨n, rfl⟩ : ∃ m, n = m + 1 := ⟨n - 1, by omega⟩
  obtain ⟨a1, rfl, e1⟩ := m1 ha
  obtain rfl := er_ref e1
  refine fun_enter (k := 0) (nm := ["self"]) (args2 := [.ref a]) (avs2 := [.ref a]) B gb (by rfl) rfl (by kernel_rfl) (fun _ _ => .of_eq rfl) rfl (by decide +kernel) (by decide +kernel) (by decide +kernel) ?_
  intro env s0 s g hs' H A Q r q1 q2
  have C := H.cx
  have X1 := X.gr H.own
  refine y_ret H r (P := fun v h' => ∃ l, v = .ref l ∧ Ls h' l (xs.map fun (x : Nat) => vi (x : Int)) ∧ s.heap.get? l = none) ?_ fun v s2 p H2 x2 => ?_
  · intro A Q E s1 r g q
    refine Call_ (EvaP.go (ev_built (v := .type "list") (prog := prog) (w := w) (n := n) C (by kernel_rfl) (by decide +kernel) (kindOf_of hs' (by decide +kernel)) (by decide) (by decide)) A _ E s1 r g fun f s2 ef x2 => ?_) rfl
    subst ef
    have C2 := C.gr (g.trans x2.gr)
    have X2 := X1.gr (g.trans x2.gr)
    refine Pv.callWith_type1 (args_cons (wp_mcall C2.inK (cls_qf w) X2.ob (mth_hashes w) r (Gr.refl _) (by tm_at "ev") el_nil fun vs' s3 hv x3 => ?_) rfl) rfl (by rfl)
    obtain rfl := m0 hv
    refine wpAny_call (q_hashes C2.bs (C2.gb.trans x3.gr) (X2.gr x3.gr) hs (r.mono (by omega)) fun ga gg L ρ s4 x4 hga hL hgl hgg hρ hG => ?_)
    refine args_nil ?_
    refine wp_listgen (hG _ ((Rm.in1 (n := 12) (Rm.in1 (n := 13) (r.mono (by omega)))))) r.hd r.room C2.bs.nl ((C2.gb.trans x3.gr).trans x4.gr) hsz fun l s5 St hl L5 => ?_
    have x04 : SX [] s1 s4 := (x2.trans x3).trans x4
    refine q _ _ ⟨l, rfl, L5, Gr.none (g.trans x04.gr) hl⟩ (Stp.sx x04 St (fun b hb => .inr ?_) (x2.gnone (x3.gnone hgg)))
    rw [List.mem_singleton.mp hb]; exact Gr.none (x2.trans x3).gr hL
  · obtain ⟨l, rfl, L2, hl⟩ := p
    exact q1 _ s2 ⟨l, rfl, L2, Gr.none H.own hl⟩ H2.sx

theorem ev_isnone {x : Expr} {pos p2 : Pos} {kk : Nat} {v : Value} {b : Bool} {whole : Sem Value} (h1 : Eva prog w n h (eval x env) v) (hb : (v == .none) = b) (he : ∀ v', er v' = v → (v' == .none) = b) :
    EvB prog w n h (PySem.isTrue (.Compare x [.Is] [.Constant .none kk p2] pos) env whole) b :=
  eb_cmp (y := .none) h1 ev_none fun x' y' ex ey => by
    rw [er_none ey]
    exact fun A Q E s r k q => is_none (q _ _ (by rw [he x' ex]) (.refl _ _))
theorem q_resize (B : Bas (KK w) h₀) {args args2 : List Value} {xs : List Nat} {q' : Nat} {qv : Value} (G : Nat → QS → Prop) (gb : Gr h₀ s.heap) (X : QFAt s.heap a F t) (hB : ∀ b ∈ F.wr, h₀.get? b = none) (hs : t.hashes = some xs) (hsz : xs.length ≤ 1000)
    (h3 : 3 ≤ q') (h5 : q' ≤ 5) (hc : t.cnt < 2 ^ q') (h0 : G 0 (.new q' t.auto t.hf))
    (hstep : ∀ k (x : Nat) F1 t1 s1 m args, xs[k]? = some x → G k t1 → Gr h₀ s1.heap → QFAt s1.heap a F1 t1 → (∀ b ∈ F1.wr, h₀.get? b = none) → n ≤ m + 1 → args.map er = [.ref a, vi (x : Int)] →
      MutP prog w m 295 args s1 F1.wr (fun v s' => v = .none ∧ ∃ F' t', Fnew a s1 F1 F' ∧ QFAt s'.heap a F' t' ∧ G (k + 1) t'))
    (ha : args2.map er = [.ref a, qv]) (hqv : qv = .none ∧ q' = t.q + 1 ∧ args = [.ref a] ∧ args2 = [.ref a, .none] ∨ qv = vi (q' : Int) ∧ args2 = args) (hn : 20 ≤ n) :
    MutP prog w n 345 args s F.wr (fun v s' => v = .none ∧ ∃ F' t', Fnew a s F F' ∧ QFAt s'.heap a F' t' ∧ G xs.length t') := by
  obtain ⟨n, rfl⟩ : ∃ m, n = m + 1 := ⟨n - 1, by omega⟩
  obtain ⟨a1, a2, rfl, e1, e2⟩ := m2 ha
  obtain rfl := er_ref e1
  have ok : Fok h₀ F.wr s F := fun b hb => ⟨hB b hb, .inl hb⟩
  have hN := X.N8
  refine mut_enter (k := 3) (nm := ["self", "quotient", "hashes", "i", "_h"]) (args2 := [.ref a, a2]) (avs2 := [.ref a, qv]) (ρ := .qf a F t)
    B gb X (by rfl) rfl (by kernel_rfl) ?_ (by simp [e2]; rfl) (by decide +kernel) (by decide +kernel) (by decide +kernel) ?_
  · rcases hqv with ⟨_, _, rfl, e⟩ | ⟨_, rfl⟩
    · cases e
      exact binds_K (B.inK.keeps gb) rfl (by rfl) rfl rfl rfl
    · exact binds_K (B.inK.keeps gb) rfl (by rfl) rfl rfl rfl
  intro env s1 hsc H A Q r q1 q2
  have hnr : env.kindOf "range" = some .globalImplicit := kindOf_of hsc (by decide +kernel)
  clear hsc
  suffices key : ∀ s2, Act (KK w) h₀ env ["self", "quotient", "hashes", "i", "_h"] [some (.ref a), some (vi (q' : Int)), none, none, none] F.wr (.qf a F t) .emp s s2 → wpAny (model prog w) A _ _ _ s2 by
    have C := H.cx
    refine y_if (c := (qv == .none)) H r (ev_isnone (by tm_at "ev") rfl (fun v' hv => ?_)) (fun hc s2 H2 _ => ?_) fun hc s2 H2 _ => ?_
    · rcases hqv with ⟨z, _⟩ | ⟨z, _⟩ <;> subst z
      · rw [er_none hv]
      · obtain ⟨u, rfl⟩ := er_vi hv; rfl
    · have C := H2.cx
      have X2 : QFAt s2.heap a F t := H2.own
      have hq1 : q' = t.q + 1 := by
        rcases hqv with ⟨_, z, _⟩ | ⟨z, _⟩
        · exact z
        · rw [z] at hc; cases hc
      refine y_assign (i := 1) (v := vi (q' : Int)) H2 r (Eva.cast (by tm_at "ev") (congrArg vi (by show (t.q : Int) + 1 = _; omega))) (by tm_at "at") fun s3 H3 _ => wpAny_execs_nil (key s3 H3)
    · have hq1 : qv = vi (q' : Int) := by
        rcases hqv with ⟨z, _⟩ | ⟨z, _⟩
        · rw [z] at hc; cases hc
        · exact z
      subst hq1
      exact wpAny_execs_nil (key s2 H2)
  clear H hqv e2 ha
  intro s2 H2
  have C := H2.cx
  have X2 : QFAt s2.heap a F t := H2.own
  have hpow : arI .LShift 1 (q' : Int) = ((2 ^ q' : Nat) : Int) := by rw [show arI .LShift 1 (q' : Int) = _ from shl_nat 1 q', Nat.one_mul]
  refine y_if (c := false) H2 r (EvB.cast (eb_cmp (ev_qprop C X2 (prp_added w) (fun n => q_added C.bs C.gb X2) (by tm_at "ev") (by omega)) (by tm_at "ev") (by tm_at "cm")) ?_) (fun q => nomatch q) fun _ s3 H3 _ => ?_
  · rw [hpow]; show decide (((2 ^ q' : Nat) : Int) ≤ (t.cnt : Int)) = false; rw [decide_eq_false_iff_not]; omega
  refine wpAny_execs_nil ?_
  show wpAny _ _ (execs _ _) _ _ _
  have C := H3.cx
  refine y_if (c := false) H3 r (EvB.cast (by tm_at "eb") (by simp only [cmpI, Bool.or_false, Bool.or_eq_false_iff, decide_eq_false_iff_not]; omega)) (fun q => nomatch q) fun _ s4 H4 _ => ?_
  refine wpAny_execs_nil ?_
  show wpAny _ _ (execs _ _) _ _ _
  have C := H4.cx
  have X4 : QFAt s4.heap a F t := H4.own
  refine wpAny_execs_cons (x_assignP (i := 2) H4 r (ev_mcall C.inK (cls_qf w) X4.ob (mth_gethashes w) (by tm_at "ev") el_nil fun vs' hv => q_gethashes C.bs C.gb X4 hs hsz (by rw [List.map_cons, hv]; rfl) (by omega)) (by tm_at "at") fun v s5 s6 pv x5 x6 H6 => ?_)
  obtain ⟨l, rfl, L5, hl⟩ := pv
  have hlF : l ∉ F.all a := fun m => by obtain ⟨o, z⟩ := X4.there _ m; rw [hl] at z; cases z
  have hlL : l ≠ env.locals := fun q => by obtain ⟨o, z⟩ := H4.there; rw [← q, hl] at z; cases z
  have H6' := H6.as (ρ' := .qf a F t) (R' := .ls l (xs.map fun (x : Nat) => vi (x : Int))) H6.own (L5.at fun o e => x6.hp _ o (by simpa using hlL) e) (fun b q1 q2 => hlF ((show b = l from q2) ▸ q1)) H6.lo (fun q => hlL q.symm)
  have C := H6'.cx
  have hDex : ∀ b ∈ F.wr, b ∈ F.all a := fun b hb => by
    simp only [FP.wr, List.mem_cons, List.not_mem_nil, or_false] at hb
    rcases hb with q | q | q | q | q <;> subst q <;> simp
  refine wpAny_execs_cons (x_range (a := 0) (b := (t.N : Int)) (N := t.N) (fun k ρ vals => ∃ t2 u, ρ = .qf a F t2 ∧ t2.q = t.q ∧ t2.auto = t.auto ∧ t2.hf = t.hf ∧ vals = [some (.ref a), some (vi (q' : Int)), some (.ref l), u, none]) H6' r (by tm_at "at") (i := 3)
    (fun b hb => H6'.own.there b (hDex b hb)) ?_ (by omega) (by omega) (by omega) (by omega) ⟨t, none, rfl, rfl, rfl, rfl, rfl⟩ ?_ ?_)
  · have X6 : QFAt s6.heap a F t := H6'.own
    exact ev_range1 C (by kernel_rfl) hnr (by tm_at "ev")
  · rintro k ρ vals R' s7 hk ⟨t2, u, rfl, hq2, ha2, hf2, rfl⟩ _ _ H7
    have X7 : QFAt s7.heap a F t2 := H7.own
    have C := H7.cx
    have hN2 : t2.N = t.N := by unfold QS.N; rw [hq2]
    refine y_fil (i := k) (v := 0) H7 ok r ev_int (by tm_at "ev") (Eva.cast (by tm_at "ev") (congrArg vi (by omega))) (by omega) fun s8 H8 _ => wpAny_execs_nil ?_
    exact ⟨.qf a F { t2 with fil := fupd t2.fil k 0 }, _, ⟨{ t2 with fil := fupd t2.fil k 0 }, _, rfl, hq2, ha2, hf2, rfl⟩, H8⟩
  · rintro ρ vals s7 ⟨t2, u, rfl, hq2, ha2, hf2, rfl⟩ H7
    have X7 : QFAt s7.heap a F t2 := H7.own
    have C := H7.cx
    show wpAny _ _ (execs _ _) _ _ _
    refine y_callq H7 r (cls_qf w) X7.ob (mth_params2 w) (by tm_at "ev") (el_cons (by tm_at "ev") (el_cons (by tm_at "ev") (el1 (by tm_at "ev")))) fun vs' s8 hv x8 => ?_
    have hd0 : h₀.get? F.d = none := hB _ (by simp [FP.wr])
    refine (q_params (fresh := false) (old := qfVals t2 F) B (C.gb.trans x8.gr) (X7.gr x8.gr).ob (fun _ => rfl) hd0 h3 h5 (by rw [List.map_cons, hv]; rfl) (by omega)).call r fun v s9 p x9 => ?_
    obtain ⟨_, F1, hFd, X9, hw⟩ := p
    have H8 := H7.pure x8
    have N1 : Fnew a s8 F F1 := by
      have al : ∀ b ∈ F1.all a, b ∈ F.all a ∨ s8.heap.get? b = none := fun b hb => by
        rcases hw b hb with z | z | z
        · exact .inl (by simp [z])
        · exact .inl (by simp [z])
        · exact .inr z
      refine ⟨al, fun b hb => ?_⟩
      have nd := X9.nd
      simp only [FP.all, List.nodup_cons, List.mem_cons, List.not_mem_nil, or_false, not_or] at nd
      rw [hFd] at nd
      have hin : b ∈ F1.all a := by
        simp only [FP.wr, List.mem_cons, List.not_mem_nil, or_false] at hb
        rcases hb with q | q | q | q | q <;> subst q <;> simp
      rcases hw b hin with z | z | z
      · exfalso
        subst z
        simp only [FP.wr, hFd, List.mem_cons, List.not_mem_nil, or_false] at hb
        rcases hb with q | q | q | q | q <;> simp_all
      · exact .inl (by rw [z]; simp [FP.wr])
      · exact .inr z
    have H9 : Act (KK w) h₀ env ["self", "quotient", "hashes", "i", "_h"] _ F.wr (.qf a F1 (.new q' t.auto t.hf)) _ s s9 :=
      H8.mut x9 (fun b hb => by rw [List.mem_singleton.mp hb]; exact ⟨hDex _ (by simp [FP.wr]), hd0, .inl (by simp [FP.wr])⟩) (ha2 ▸ hf2 ▸ X9) fun b hb => N1.1 b hb
    have ok1 : Fok h₀ F.wr s F1 := Fok.grow H8 ok N1
    have N0 : Fnew a s F F1 := Fnew.trans Fnew.refl N1 H8.sx
    have C := H9.cx
    have L9 : Ls s9.heap l (xs.map fun (x : Nat) => vi (x : Int)) := H9.rest
    have hlF1 : l ∉ F1.all a := fun m => by
      rcases N1.1 l m with z | z
      · exact hlF z
      · obtain ⟨o, y⟩ := Ls.there (show Ls s8.heap l (xs.map fun (x : Nat) => vi (x : Int)) from H8.rest); rw [z] at y; cases y
    refine wpAny_execs_cons (x_list (i := 4) (fun k ρ vals => ∃ F2 t3 u u2, ρ = .qf a F2 t3 ∧ Fok h₀ F.wr s F2 ∧ Fnew a s F F2 ∧ G k t3 ∧ vals = [some (.ref a), some (vi (q' : Int)), some (.ref l), u, u2]) H9 r (by tm_at "at") ?_ (by tm_at "ev") L9 hlF1 hlL ⟨F1, _, _, _, rfl, ok1, N0, h0, rfl⟩ ?_ ?_)
    · intro b hb
      by_cases e : b = F.d
      · obtain ⟨es, kk, z, _⟩ := X9.ob.hd
        exact ⟨_, by rw [e, ← hFd]; exact z⟩
      · obtain ⟨o, z⟩ := (X7.gr x8.gr).there b (hDex b hb)
        exact ⟨o, x9.hp b o (by simpa using e) z⟩
    · rintro k v ρ vals R' s10 hk hv ⟨F2, t3, u, u2, rfl, ok2, N2, hG, rfl⟩ _ _ H10
      have X10 : QFAt s10.heap a F2 t3 := H10.own
      have C := H10.cx
      rw [List.getElem?_map] at hv
      obtain ⟨x, hx, rfl⟩ := Option.map_eq_some_iff.mp hv
      refine y_callq H10 r (cls_qf w) X10.ob (mth_add_alt w) (by tm_at "ev") (el1 (by tm_at "ev")) fun vs' s11 hv' x11 => ?_
      refine (hstep k x F2 t3 s11 n _ hx hG (C.gb.trans x11.gr) (X10.gr x11.gr) (fun b hb => (ok2 b hb).1) (Nat.le_refl _) (by rw [List.map_cons, hv']; rfl)).call r fun v2 s12 p x12 => ?_
      obtain ⟨_, F3, t4, N3, X12, hG2⟩ := p
      have H11 := H10.pure x11
      refine wpAny_execs_nil ⟨_, _, ⟨F3, t4, _, _, rfl, Fok.grow H11 ok2 N3, ?_, hG2, rfl⟩, H11.qgrow ok2 x12 N3 X12⟩
      exact Fnew.trans N2 N3 H11.sx
    · rintro ρ vals s10 ⟨F2, t3, u, u2, rfl, ok2, N2, hG, rfl⟩ H10
      rw [List.length_map] at hG
      exact wpAny_execs_nil (q2 _ ⟨rfl, F2, t3, N2, H10.own, hG⟩ H10.sx)
end
end Mine
end
section
open PySem PySem.W PyProof.Rows PySem.Calls
set_option Elab.async false
set_option maxRecDepth 100000
set_option maxHeartbeats 4000000
set_option linter.unusedVariables false
set_option pp.deepTerms false
set_option pp.maxSteps 700
namespace Mine
local macro_rules | `(tactic| tm_at "at") => `(tactic| with_reducible (repeat (first | exact At.head | apply At.tail)))
local macro_rules | `(tactic| tm_at "ok") => `(tactic| first | trivial | assumption | (simp only [okI]; omega) | (simp only [okI]; mul_fits))
local macro_rules | `(tactic| tm_at "bop") => `(tactic| exact fun _ _ => bo_any (by tm_at "ok"))
local macro_rules | `(tactic| tm_at "cm") => `(tactic| exact fun _ _ => co_any rfl)
local macro_rules | `(tactic| tm_at "obj") => `(tactic| first | exact QFAt.ob (by assumption) | assumption)
local macro_rules | `(tactic| tm_at "cls") => `(tactic| first | exact cls_qf _ | exact cls_bit _)
local macro_rules | `(tactic| tm_at "lt") => `(tactic| first | assumption | omega)
local macro_rules | `(tactic| tm_at "bitx") => `(tactic| first | exact QFAt.bo (by assumption) | exact QFAt.bc (by assumption) | exact QFAt.bs (by assumption))
local macro_rules | `(tactic| tm_at "ev") => `(tactic| first
  | with_reducible exact ev_int | with_reducible exact ev_true | with_reducible exact ev_none | with_reducible exact ev_str
  | ((with_reducible refine' ev_loc ?h1 ?h2 ?h3); (case h1 => assumption); (case h2 => tm_at "at"); (case h3 => rfl))
  | ((with_reducible refine' ev_attr (Cx.inK ?h1) ?h2 ?h3 ?h4 ?h5 ?h6 ?h7 ?h8); (case h1 => assumption); (case h4 => tm_at "ev"); (case h3 => tm_at "obj"); (case h2 => tm_at "cls"); (case h5 => tm_at "at"); (case h6 => rfl); (case h7 => rfl); (case h8 => rfl))
  | ((with_reducible refine' ev_bin ?h1 ?h2 ?h3); (case h1 => tm_at "ev"); (case h2 => tm_at "ev"); (case h3 => tm_at "bop"))
  | ((with_reducible refine' ev_bit ?h1 ?h2 ?h3 ?h4 ?h5 ?h6 ?h7 ?h8); (case h1 => assumption); (case h3 => tm_at "ev"); (case h4 => tm_at "ev"); (case h2 => tm_at "bitx"); (case h5 => tm_at "lt"); (case h6 => tm_at "lt"); (case h7 => tm_at "lt"); (case h8 => (intros; rfl)))
  | ((with_reducible refine' ev_un ?h1 ?h2); (case h1 => tm_at "ev"); (case h2 => exact fun _ => uo_any rfl)))
local macro_rules | `(tactic| tm_at "eb") => `(tactic| first
  | ((with_reducible refine' eb_cmp ?h1 ?h2 ?h3 ?h4); (case h1 => tm_at "ev"); (case h2 => tm_at "ev"); (case h3 => tm_at "cm"); (case h4 => rfl))
  | ((with_reducible refine' eb_bool ?h1); (case h1 => tm_at "eb"))
  | ((with_reducible refine' eb_or ?h1 ?h2); (case h1 => tm_at "eb"); (case h2 => tm_at "eb"))
  | ((with_reducible refine' eb_and ?h1 ?h2); (case h1 => tm_at "eb"); (case h2 => tm_at "eb"))
  | with_reducible exact eb_or_nil | with_reducible exact eb_and_nil
  | ((with_reducible refine' eb_not ?h1); (case h1 => tm_at "eb")))
section
variable {prog : Program} {w : World} {n : Nat} {h h₀ : Heap} {env : Env} {nm : List Str} {vals : List (Option Value)} {a : Addr} {F : FP} {t : QS} {D D' : List Addr} {R ρ : Res} {s₀ s s' : Shared} {A : Around} {E : Value → Shared → Prop} {g : Nat}
/-- a step of a generator that the def holds -/
theorem Act.stp (H : Act (KK w) h₀ env nm vals D ρ R s₀ s) (St : Stp g D' s s') (hD : ∀ b ∈ D', ¬ ρ.fp b ∧ ¬ R.fp b ∧ b ≠ env.locals ∧ h₀.get? b = none ∧ (b ∈ D ∨ s₀.heap.get? b = none)) (hg : s₀.gens[g]? = none) : Act (KK w) h₀ env nm vals D ρ R s₀ s' :=
  ⟨⟨H.cx.F, H.cx.lo.at fun o e => St.hp _ o (fun m => (hD _ m).2.2.1 rfl) e, H.cx.bs, fun b o e => St.hp b o (fun m => by rw [(hD b m).2.2.2.1] at e; cases e) (H.cx.gb b o e), H.cx.ab⟩,
   Stp.sx H.sx St (fun b m => (hD b m).2.2.2.2) hg, H.fr, ρ.st _ _ (fun b o f e => St.hp b o (fun m => (hD b m).1 f) e) H.own, R.st _ _ (fun b o f e => St.hp b o (fun m => (hD b m).2.1 f) e) H.rest, H.dj, H.lo, H.lr⟩
theorem q_merge (B : Bas (KK w) h₀) {args : List Value} {b : Addr} {F2 : FP} {t2 : QS} {xs : List Nat} {Rf : Res} {f : Str → Nat} (G : Nat → QS → Prop) (gb : Gr h₀ s.heap) (X : QFAt s.heap a F t) (Y : QFAt s.heap b F2 t2) (hB : ∀ b ∈ F.wr, h₀.get? b = none) (hdj : ∀ x ∈ F.wr, x ∉ F2.all b)
    (hI : Rf.I s.heap) (hfd : ∀ b ∈ F.wr, ¬ Rf.fp b) (hF : ∀ n, 7 ≤ n → HashF prog w n t.hf Rf f) (hF2 : ∀ n, 7 ≤ n → HashF prog w n t2.hf Rf f)
    (hs : t2.hashes = some xs) (hsz : xs.length ≤ 1000) (h0 : G 0 t)
    (hstep : ∀ k (x : Nat) F1 t1 s1 m args, xs[k]? = some x → G k t1 → Gr h₀ s1.heap → QFAt s1.heap a F1 t1 → (∀ b ∈ F1.wr, h₀.get? b = none) → n ≤ m + 1 → args.map er = [.ref a, vi (x : Int)] →
      MutP prog w m 295 args s1 F1.wr (fun v s' => v = .none ∧ ∃ F' t', Fnew a s1 F1 F' ∧ QFAt s'.heap a F' t' ∧ G (k + 1) t'))
    (ha : args.map er = [.ref a, .ref b]) (hn : 20 ≤ n) :
    MutP prog w n 352 args s F.wr (fun v s' => v = .none ∧ ∃ F' t', Fnew a s F F' ∧ QFAt s'.heap a F' t' ∧ G xs.length t') := by
  obtain ⟨n, rfl⟩ : ∃ m, n = m + 1 := ⟨n - 1, by omega⟩
  obtain ⟨a1, a2, rfl, e1, e2⟩ := m2 ha
  have ok : Fok h₀ F.wr s F := fun b hb => ⟨hB b hb, .inl hb⟩
  have wal : ∀ {F : FP}, ∀ b ∈ F.wr, b ∈ F.all a := fun {F} b hb => by
    simp only [FP.wr, List.mem_cons, List.not_mem_nil, or_false] at hb
    rcases hb with q | q | q | q | q <;> subst q <;> simp
  refine mut_enter (k := 1) (nm := ["self", "second", "_h"]) (args2 := [a1, a2]) (avs2 := [.ref a, .ref b]) (ρ := .qf a F t)
    B gb X (by rfl) rfl (by kernel_rfl) (.of_eq rfl) (by simp [e1, e2]) (by decide +kernel) (by decide +kernel) (by decide +kernel) ?_
  intro env s1 hsc H A Q r q1 q2
  clear hsc
  have C := H.cx
  have X1 : QFAt s1.heap a F t := H.own
  have Y1 : QFAt s1.heap b F2 t2 := Y.at fun x hx o e => H.sx.hp x o (fun m => hdj x m hx) e
  have I1 : Rf.I s1.heap := Res.I_off hI H.sx hfd
  refine y_if (c := false) H r (EvB.cast (eb_cmp (ev_hash C X1 I1 (hF n (by omega)) (by tm_at "ev") ev_str ev_int) (ev_hash C Y1 I1 (hF2 n (by omega)) (by tm_at "ev") ev_str ev_int) (by tm_at "cm")) (by simp [cmpI])) (fun q => nomatch q) fun _ s2 H2 x2 => ?_
  refine wpAny_execs_nil ?_
  show wpAny _ _ (execs _ _) _ _ _
  have C := H2.cx
  have Y2 := Y1.gr x2.gr
  refine wpAny_execs_cons (wpAny_For (wp_mcall C.inK (cls_qf w) Y2.ob (mth_hashes w) r (Gr.refl _) (by tm_at "ev") el_nil fun vs' s3 hv x3 => ?_) (by intros; rfl))
  obtain rfl := m0 hv
  refine wpAny_call (q_hashes B (C.gb.trans x3.gr) (Y2.gr x3.gr) hs (r.mono (by omega)) fun ga g L ρg s4 x4 hga hL hgl hgg hρ hG => ?_)
  have G4 := hG A (r.mono (by omega))
  have H3 := H2.pure x3
  have H4 := H3.pure x4
  have no : ∀ {x : Addr} {o : Obj}, s3.heap.get? x = some o → s3.heap.get? x = none → False := fun z y => by rw [z] at y; cases y
  have hLL : L ≠ env.locals := fun q => by obtain ⟨o, z⟩ := H3.there; exact no z (q ▸ hL)
  have hgL : ga ≠ env.locals := fun q => by obtain ⟨o, z⟩ := H3.there; exact no z (q ▸ hga)
  have fl : ∀ x, (ρg.fp x ∨ x = ga) → x ∉ F.wr := by
    rintro x (hx | rfl) m
    · rcases hρ x hx with z | z | ⟨o, z⟩
      · obtain ⟨o, y⟩ := QFAt.there H3.own x (wal x m); exact no y (z ▸ hL)
      · exact hdj x m z
      · rw [hB x m] at z; cases z
    · obtain ⟨o, y⟩ := QFAt.there H3.own x (wal x m); exact no y hga
  refine wpAny_pyIter_gen G4.ig ?_
  refine codeAny_forLoop (fun m s5 => ∃ k D' ρg F1 t1 u, m = xs.length + 1 - k ∧ k ≤ xs.length ∧ GenSt prog w A h₀ ga g (xs.drop k) D' ρg s5 ∧ Act (KK w) h₀ env ["self", "second", "_h"] [some (.ref a), some (.ref b), u] F.wr (.qf a F1 t1) .emp s s5 ∧
      Fok h₀ F.wr s F1 ∧ Fnew a s F F1 ∧ G k t1 ∧ (∀ x ∈ D', x ∉ F1.all a ∧ (x ∈ F.wr ∨ s.heap.get? x = none)) ∧ (∀ x, (ρg.fp x ∨ x = ga) → x ∉ F1.wr) ∧ ¬ ρg.fp env.locals) ?_ (xs.length + 1)
    ⟨0, [L], ρg, F, t, none, rfl, Nat.zero_le _, G4, H4, ok, Fnew.refl, h0, ?_, fl, ?_⟩ (by intros; rfl)
  rotate_left
  · intro x hx
    rw [List.mem_singleton.mp hx]
    refine ⟨fun m => ?_, H3.sx.pre hL⟩
    obtain ⟨o, y⟩ := QFAt.there H3.own L m; exact no y hL
  · intro q
    rcases hρ _ q with z | z | ⟨o, z⟩
    · exact hLL z.symm
    · obtain ⟨o, y⟩ := Y.there _ z; rw [H.fr] at y; cases y
    · rw [H.newB] at z; cases z
  rintro m s5 ⟨k, D', ρg, F1, t1, u, rfl, hk, G5, H5, ok1, N1, hGk, hD, hw, hl⟩
  have hnl : s5.heap.NoLimit := B.nl.keeps H5.cx.gb
  have hgs : s.gens[g]? = none := H3.sx.gnone hgg
  have X5 : QFAt s5.heap a F1 t1 := H5.own
  have act : ∀ {s6}, Stp g D' s5 s6 → Act (KK w) h₀ env ["self", "second", "_h"] [some (.ref a), some (.ref b), u] F.wr (.qf a F1 t1) .emp s s6 := fun St => H5.stp St (fun x hx => ⟨(hD x hx).1, id, fun q => hl (q ▸ G5.sub x hx), G5.dn x hx, (hD x hx).2⟩) hgs
  by_cases hlt : k < xs.length
  · rw [List.drop_eq_getElem_cons hlt] at G5
    refine gen_next G5 r.hd hnl r.room fun v s6 D2 ρ2 hv G6 St hD2 hρ2 => ?_
    have H6 := act St
    have ns : ∀ {x : Addr} {o : Obj}, s5.heap.get? x = some o → s5.heap.get? x = none → False := fun z y => by rw [z] at y; cases y
    have hl2 : ¬ ρ2.fp env.locals := fun q => (hρ2 _ q).elim hl fun z => by obtain ⟨o, y⟩ := H5.there; exact ns y z
    have hw2 : ∀ x, (ρ2.fp x ∨ x = ga) → x ∉ F1.wr := by
      rintro x (hx | hx) m
      · rcases hρ2 x hx with z | z
        · exact hw x (.inl z) m
        · obtain ⟨o, y⟩ := X5.there x (wal x m); exact ns y z
      · exact hw x (.inr hx) m
    have hD3 : ∀ x ∈ D2, x ∉ F1.all a ∧ (x ∈ F.wr ∨ s.heap.get? x = none) := fun x hx => by
      rcases hD2 x hx with z | z
      · exact hD x z
      · exact ⟨fun m => by obtain ⟨o, y⟩ := X5.there x m; exact ns y z, H5.sx.pre z⟩
    refine wpAny_assign_Name (x_store (i := 2) H6 (by tm_at "at") hv fun s7 H7 x7 => ?_)
    have G7 := G6.frame (s' := s7) (fun x o hx e => x7.hp x o (fun m => by
      rw [List.mem_singleton.mp m] at hx
      exact hx.elim hl2 fun z => hgL z.symm) e) fun z e => x7.gn.1 g z e
    have X7 : QFAt s7.heap a F1 t1 := H7.own
    have C := H7.cx
    refine wpAny_mono (?_ : wpAny (model prog w) A _ _ (fun _ _ => False) s7) (fun _ _ z => z) fun _ _ z => z.elim
    refine y_callq H7 r (cls_qf w) X7.ob (mth_add_alt w) (by tm_at "ev") (el1 (by tm_at "ev")) fun vs' s8 hv' x8 => ?_
    refine (hstep k _ F1 t1 s8 n _ (List.getElem?_eq_getElem hlt) hGk (C.gb.trans x8.gr) (X7.gr x8.gr) (fun b hb => (ok1 b hb).1) (Nat.le_refl _) (by rw [List.map_cons, hv']; rfl)).call r fun v2 s9 p x9 => ?_
    obtain ⟨_, F3, t4, N3, X9, hG2⟩ := p
    have H8 := H7.pure x8
    have G8 := G7.frame (s' := s8) (fun x o _ e => x8.gr x o e) fun z e => x8.gn.1 g z e
    have G9 := G8.frame (s' := s9) (fun x o hx e => x9.hp x o (hw2 x hx) e) fun z e => x9.gn.1 g z e
    have ex8 : ∀ {x : Addr}, (ρ2.fp x ∨ x = ga) → s8.heap.get? x = none → False := fun hx z => by
      rcases hx with y | y
      · obtain ⟨o, e⟩ := ρ2.ex _ G8.I _ y; rw [z] at e; cases e
      · obtain ⟨o, nm, qn, e, _⟩ := G8.ig; rw [y] at z; rw [z] at e; cases e
    refine wpAny_execs_nil ⟨xs.length + 1 - (k + 1), by omega, k + 1, D2, ρ2, F3, t4, _, rfl, hlt, G9, H8.qgrow ok1 x9 N3 X9, Fok.grow H8 ok1 N3, Fnew.trans N1 N3 H8.sx, hG2, fun x hx => ⟨fun m => ?_, (hD3 x hx).2⟩, fun x hx m => ?_, hl2⟩
    · rcases N3.1 x m with z | z
      · exact (hD3 x hx).1 z
      · exact ex8 (.inl (G8.sub x hx)) z
    · rcases N3.2 x m with z | z
      · exact hw2 x hx z
      · exact ex8 hx z
  · have hke : k = xs.length := by omega
    subst hke
    rw [List.drop_length] at G5
    refine gen_done G5 r.hd hnl r.room fun s6 St => ?_
    have H6 := act St
    exact wpAny_execs_nil (wpAny_execs_nil (q2 _ ⟨rfl, F1, t1, N1, H6.own, hGk⟩ H6.sx))
end
end Mine
end
section
set_option Elab.async false
set_option linter.unusedVariables false
namespace Mine
namespace QS
theorem N_pos (t : QS) : 0 < t.N := Nat.two_pow_pos _
abbrev ix (t : QS) (b i : Nat) : Nat := (b + i) % t.N
theorem ix_lt (t : QS) (b i : Nat) : t.ix b i < t.N := Nat.mod_lt _ t.N_pos
theorem nx_ix (t : QS) (b i : Nat) : t.nx (t.ix b i) = t.ix b (i + 1) := by
  unfold QS.nx ix
  rw [Nat.mod_add_mod, Nat.add_assoc]
theorem pv_ix (t : QS) (b i : Nat) : t.pv (t.ix b (i + 1)) = t.ix b i := by
  unfold QS.pv ix
  have hp := t.N_pos
  have e : (b + (i + 1)) % t.N + t.N - 1 = (b + (i + 1)) % t.N + (t.N - 1) := by omega
  rw [e, Nat.mod_add_mod]
  have e2 : b + (i + 1) + (t.N - 1) = b + i + t.N := by omega
  rw [e2, Nat.add_mod_right]
theorem ix_inj (t : QS) {b i j : Nat} (hi : i < t.N) (hj : j < t.N) (h : t.ix b i = t.ix b j) : i = j := by
  have h1 : ∀ {i j : Nat}, i ≤ j → j < t.N → (b + i) % t.N = (b + j) % t.N → i = j := by
    intro i j hij hj h
    have h2 := Nat.sub_mod_eq_zero_of_mod_eq h.symm
    have e : b + j - (b + i) = j - i := by omega
    rw [e, Nat.mod_eq_of_lt (by omega)] at h2
    omega
  rcases Nat.le_total i j with q | q
  · exact h1 q hj h
  · exact (h1 q hi h.symm).symm
theorem ix_ex (t : QS) {b j : Nat} (hb : b < t.N) (hj : j < t.N) : ∃ i, i < t.N ∧ t.ix b i = j := by
  refine ⟨(j + t.N - b) % t.N, Nat.mod_lt _ t.N_pos, ?_⟩
  unfold ix
  rw [Nat.add_mod_mod]
  have e : b + (j + t.N - b) = j + t.N := by omega
  rw [e, Nat.add_mod_right, Nat.mod_eq_of_lt hj]
/-- the layout seen from a base: cell i holds a quotient (counted from the base) and a remainder -/
structure Lin (t : QS) (b : Nat) (o : Nat → Option (Nat × Nat)) : Prop where
  last : o (t.N - 1) = none
  le : ∀ i c r, i < t.N → o i = some (c, r) → c ≤ i
  sh : ∀ i c r, i < t.N → o i = some (c, r) → c < i → ∃ c' r', o (i - 1) = some (c', r')
  so : ∀ i c r c' r', i + 1 < t.N → o i = some (c, r) → o (i + 1) = some (c', r') → c < c' ∨ (c = c' ∧ r < r')
  oc : ∀ i, i < t.N → (t.occ (t.ix b i) = true ↔ ∃ p r, p < t.N ∧ o p = some (i, r))
  co : ∀ i, i < t.N → (t.con (t.ix b i) = true ↔ ∃ c r r', 0 < i ∧ o i = some (c, r) ∧ o (i - 1) = some (c, r'))
  si : ∀ i, i < t.N → (t.shi (t.ix b i) = true ↔ ∃ c r, o i = some (c, r) ∧ c < i)
  fi : ∀ i c r, i < t.N → o i = some (c, r) → t.fil (t.ix b i) = r
  rb : ∀ i c r, i < t.N → o i = some (c, r) → r < 2 ^ (32 - t.q)
namespace Lin
variable {t : QS} {b : Nat} {o : Nat → Option (Nat × Nat)}
theorem lt1 (L : Lin t b o) {i c r} (hi : i < t.N) (h : o i = some (c, r)) : i + 1 < t.N := by
  rcases Nat.lt_or_ge (i + 1) t.N with q | q
  · exact q
  · have e : i = t.N - 1 := by omega
    rw [e, L.last] at h; cases h
theorem used (L : Lin t b o) : ∀ (p c r : Nat), p < t.N → o p = some (c, r) → ∀ i, c ≤ i → i ≤ p → ∃ c' r', o i = some (c', r') := by
  intro p
  induction p with
  | zero => intro c r hp h i h1 h2; exact ⟨c, r, by rw [show i = 0 by omega]; exact h⟩
  | succ p ih =>
    intro c r hp h i h1 h2
    rcases Nat.lt_or_ge i (p + 1) with q | q
    · obtain ⟨c', r', h'⟩ := L.sh (p + 1) c r hp h (by omega)
      rw [Nat.add_sub_cancel] at h'
      have hso := L.so p c' r' c r hp h' h
      exact ih c' r' (by omega) h' i (by omega) (by omega)
    · exact ⟨c, r, by rw [show i = p + 1 by omega]; exact h⟩
/-- sorted throughout -/
theorem mono (L : Lin t b o) {p c r : Nat} (h : o p = some (c, r)) : ∀ (p' c' r' : Nat), p < p' → p' < t.N → o p' = some (c', r') → c < c' ∨ (c = c' ∧ r < r') := by
  intro p'
  induction p' with
  | zero => intro c' r' h1; omega
  | succ p' ih =>
    intro c' r' h1 h2 h'
    rcases Nat.lt_or_ge p p' with q | q
    · cases e : o p' with
      | none =>
        have hle := L.le (p' + 1) c' r' h2 h'
        have hlp := L.le p c r (by omega) h
        rcases Nat.lt_or_ge c' (p' + 1) with z | z
        · obtain ⟨c2, r2, h3⟩ := L.sh (p' + 1) c' r' h2 h' z
          rw [Nat.add_sub_cancel, e] at h3; cases h3
        · left; omega
      | some x =>
        obtain ⟨c2, r2⟩ := x
        have h3 := ih c2 r2 q (by omega) e
        have h4 := L.so p' c2 r2 c' r' h2 e h'
        omega
    · have e : p' = p := by omega
      subst e
      exact L.so p' c r c' r' h2 h h'
/-- after a gap only later quotients come -/
theorem gap (L : Lin t b o) {g p c r : Nat} (hg : o g = none) (h : o p = some (c, r)) (h1 : g < p) (h2 : p < t.N) : g < c := by
  rcases Nat.lt_or_ge g c with q | q
  · exact q
  · obtain ⟨c', r', h3⟩ := L.used p c r h2 h g q (by omega)
    rw [hg] at h3; cases h3
theorem occ_used (L : Lin t b o) {c : Nat} (hc : c < t.N) (h : t.occ (t.ix b c) = true) : ∃ c' r', o c = some (c', r') := by
  obtain ⟨p, r, hp, h1⟩ := (L.oc c hc).mp h
  exact L.used p c r hp h1 c (Nat.le_refl _) (L.le p c r hp h1)
theorem emp_iff (L : Lin t b o) {i : Nat} (hi : i < t.N) : t.emp (t.ix b i) = true ↔ o i = none := by
  unfold QS.emp
  constructor
  · intro h
    cases e : o i with
    | none => rfl
    | some x =>
      obtain ⟨c, r⟩ := x
      exfalso
      simp only [Bool.and_eq_true, Bool.not_eq_true'] at h
      have hle := L.le i c r hi e
      rcases Nat.lt_or_ge c i with q | q
      · have := (L.si i hi).mpr ⟨c, r, e, q⟩; rw [this] at h; cases h.2
      · have e2 : c = i := by omega
        have := (L.oc i hi).mpr ⟨i, r, hi, e2 ▸ e⟩; rw [this] at h; cases h.1.1
  · intro h
    have h1 : t.occ (t.ix b i) = false := by
      cases e : t.occ (t.ix b i) with
      | false => rfl
      | true => obtain ⟨c, r, h2⟩ := L.occ_used hi e; rw [h] at h2; cases h2
    have h2 : t.con (t.ix b i) = false := by
      cases e : t.con (t.ix b i) with
      | false => rfl
      | true => obtain ⟨c, r, r', _, h2, _⟩ := (L.co i hi).mp e; rw [h] at h2; cases h2
    have h3 : t.shi (t.ix b i) = false := by
      cases e : t.shi (t.ix b i) with
      | false => rfl
      | true => obtain ⟨c, r, h2, _⟩ := (L.si i hi).mp e; rw [h] at h2; cases h2
    rw [h1, h2, h3]; rfl
theorem emp_f (L : Lin t b o) {i c r : Nat} (hi : i < t.N) (h : o i = some (c, r)) : t.emp (t.ix b i) = false := by
  cases e : t.emp (t.ix b i) with
  | false => rfl
  | true => rw [(L.emp_iff hi).mp e] at h; cases h
/-- a run's start -/
theorem con_f (L : Lin t b o) {i c r : Nat} (hi : i < t.N) (h : o i = some (c, r)) (hp : ∀ c' r', 0 < i → o (i - 1) = some (c', r') → c' ≠ c) : t.con (t.ix b i) = false := by
  cases e : t.con (t.ix b i) with
  | false => rfl
  | true =>
    obtain ⟨c2, r2, r', h1, h2, h3⟩ := (L.co i hi).mp e
    rw [h] at h2; cases h2
    exact absurd rfl (hp _ _ h1 h3)
theorem con_n (L : Lin t b o) {i : Nat} (hi : i < t.N) (h : o i = none) : t.con (t.ix b i) = false := by
  cases e : t.con (t.ix b i) with
  | false => rfl
  | true => obtain ⟨c, r, r', _, h2, _⟩ := (L.co i hi).mp e; rw [h] at h2; cases h2
end Lin

/-! the start of a run -/
theorem back_spec {t : QS} {b : Nat} {o : Nat → Option (Nat × Nat)} (L : Lin t b o) {c : Nat} (hc : c < t.N) : ∀ i, i ≤ c → (∃ x, o i = some x) → ∃ s r, s ≤ i ∧ o s = some (s, r) ∧ (∀ p, s ≤ p → p ≤ i → ∃ x, o p = some x) ∧
    ∀ f k, i < f → t.back (t.ix b c) f (t.ix b i) k = some (t.ix b s, k + (((List.range' s (i + 1 - s)).countP fun p => decide (p = c) || t.occ (t.ix b p) : Nat) : Int)) := by
  intro i
  induction i with
  | zero =>
    rintro _ ⟨⟨c0, r0⟩, h⟩
    have hc0 : c0 = 0 := by have := L.le 0 c0 r0 (by omega) h; omega
    subst hc0
    refine ⟨0, r0, Nat.le_refl _, h, fun p h1 h2 => ⟨(0, r0), by rw [show p = 0 by omega]; exact h⟩, fun f k hf => ?_⟩
    obtain ⟨f, rfl⟩ : ∃ g, f = g + 1 := ⟨f - 1, by omega⟩
    have hs : t.shi (t.ix b 0) = false := by
      cases e : t.shi (t.ix b 0) with
      | false => rfl
      | true => obtain ⟨_, _, _, h2⟩ := (L.si 0 (by omega)).mp e; omega
    simp only [QS.back, hs, Bool.false_eq_true, if_false]
    have e1 : (t.ix b 0 = t.ix b c) ↔ 0 = c := ⟨fun h => t.ix_inj (by omega) hc h, fun h => by rw [← h]⟩
    simp only [Nat.zero_add, Nat.sub_zero, List.range'_one, List.countP_singleton, e1, Bool.or_eq_true, decide_eq_true_eq]
    split <;> simp
  | succ i ih =>
    rintro hic ⟨⟨c0, r0⟩, h⟩
    have e1 : (t.ix b (i + 1) = t.ix b c) ↔ i + 1 = c := ⟨fun h => t.ix_inj (by omega) hc h, fun h => by rw [← h]⟩
    have hle := L.le (i + 1) c0 r0 (by omega) h
    rcases Nat.lt_or_ge c0 (i + 1) with q | q
    · obtain ⟨c', r', h'⟩ := L.sh (i + 1) c0 r0 (by omega) h q
      rw [Nat.add_sub_cancel] at h'
      obtain ⟨s, r, h1, h2, h3, h4⟩ := ih (by omega) ⟨_, h'⟩
      refine ⟨s, r, by omega, h2, fun p hp1 hp2 => ?_, fun f k hf => ?_⟩
      · rcases Nat.lt_or_ge p (i + 1) with z | z
        · exact h3 p hp1 (by omega)
        · exact ⟨(c0, r0), by rw [show p = i + 1 by omega]; exact h⟩
      · obtain ⟨f, rfl⟩ : ∃ g, f = g + 1 := ⟨f - 1, by omega⟩
        have hs := (L.si (i + 1) (by omega)).mpr ⟨_, _, h, q⟩
        simp only [QS.back, hs, if_true, pv_ix]
        rw [h4 f _ (by omega)]
        congr 2
        have e2 : i + 1 + 1 - s = (i + 1 - s) + 1 := by omega
        have e3 : s + (i + 1 - s) = i + 1 := by omega
        rw [e2, List.range'_1_concat, List.countP_append, List.countP_singleton, e3]
        simp only [e1, Bool.or_eq_true, decide_eq_true_eq]
        split <;> simp <;> omega
    · have hc0 : c0 = i + 1 := by omega
      subst hc0
      refine ⟨i + 1, r0, Nat.le_refl _, h, fun p h1 h2 => ⟨(i + 1, r0), by rw [show p = i + 1 by omega]; exact h⟩, fun f k hf => ?_⟩
      obtain ⟨f, rfl⟩ : ∃ g, f = g + 1 := ⟨f - 1, by omega⟩
      have hs : t.shi (t.ix b (i + 1)) = false := by
        cases e : t.shi (t.ix b (i + 1)) with
        | false => rfl
        | true => obtain ⟨_, _, h1, h2⟩ := (L.si (i + 1) (by omega)).mp e; rw [h] at h1; cases h1; omega
      simp only [QS.back, hs, Bool.false_eq_true, if_false]
      simp only [Nat.add_sub_cancel_left, List.range'_one, List.countP_singleton, e1, Bool.or_eq_true, decide_eq_true_eq]
      split <;> simp
theorem fwd_spec {t : QS} {b T : Nat} (hT : t.con (t.ix b T) = false) : ∀ d i f, i + d = T → d < f → t.fwd f (t.ix b i) (1 + (((List.range' i d).countP fun p => !(t.con (t.ix b p)) : Nat) : Int)) = some (t.ix b T) := by
  intro d
  induction d with
  | zero =>
    intro i f h1 h2
    obtain ⟨f, rfl⟩ : ∃ g, f = g + 1 := ⟨f - 1, by omega⟩
    have : i = T := by omega
    subst this
    simp [QS.fwd, hT]
  | succ d ih =>
    intro i f h1 h2
    obtain ⟨f, rfl⟩ : ∃ g, f = g + 1 := ⟨f - 1, by omega⟩
    have h := ih (i + 1) f (by omega) (by omega)
    rw [List.range'_succ, List.countP_cons]
    cases e : t.con (t.ix b i) with
    | true =>
      simp only [QS.fwd, e, nx_ix]
      simpa using h
    | false =>
      simp only [QS.fwd, e, nx_ix, if_true]
      have hne : ¬ ((1 : Int) + (((List.range' (i + 1) d).countP (fun p => !(t.con (t.ix b p))) + 1 : Nat) : Int) = 1) := by omega
      simp only [Bool.not_false, if_true]
      rw [if_neg hne]
      have e2 : (1 : Int) + (((List.range' (i + 1) d).countP (fun p => !(t.con (t.ix b p))) + 1 : Nat) : Int) - 1 = 1 + (((List.range' (i + 1) d).countP (fun p => !(t.con (t.ix b p))) : Nat) : Int) := by omega
      rw [e2]; exact h
end QS
end Mine
end
section
set_option Elab.async false
set_option linter.unusedVariables false
namespace Mine
namespace QS
theorem least {P : Nat → Prop} {lo : Nat} : ∀ {n : Nat}, P (lo + n) → ∃ T, lo ≤ T ∧ T ≤ lo + n ∧ P T ∧ ∀ p, lo ≤ p → p < T → ¬ P p := by
  intro n
  induction n with
  | zero => intro h; exact ⟨lo, Nat.le_refl _, Nat.le_refl _, h, fun p h1 h2 => by omega⟩
  | succ n ih =>
    intro h
    by_cases e : ∃ m, m ≤ n ∧ P (lo + m)
    · obtain ⟨m, hm, hp⟩ := e
      have : ∀ m, m ≤ n → P (lo + m) → ∃ T, lo ≤ T ∧ T ≤ lo + m ∧ P T ∧ ∀ p, lo ≤ p → p < T → ¬ P p := by
        intro m
        induction m using Nat.strongRecOn with
        | ind m ihm =>
          intro hm hp
          by_cases z : ∃ j, j < m ∧ P (lo + j)
          · obtain ⟨j, hj, hpj⟩ := z
            obtain ⟨T, h1, h2, h3, h4⟩ := ihm j hj (by omega) hpj
            exact ⟨T, h1, by omega, h3, h4⟩
          · exact ⟨lo + m, by omega, Nat.le_refl _, hp, fun p h1 h2 hpp => z ⟨p - lo, by omega, by rw [show lo + (p - lo) = p by omega]; exact hpp⟩⟩
      obtain ⟨T, h1, h2, h3, h4⟩ := this m hm hp
      exact ⟨T, h1, by omega, h3, h4⟩
    · exact ⟨lo + (n + 1), by omega, Nat.le_refl _, h, fun p h1 h2 hpp => e ⟨p - lo, by omega, by rw [show lo + (p - lo) = p by omega]; exact hpp⟩⟩
/-- the place where a quotient's run begins, or would begin -/
structure TT (t : QS) (b : Nat) (o : Nat → Option (Nat × Nat)) (c T : Nat) : Prop where
  lt : T < t.N
  ge : c ≤ T
  lo : ∀ p k r, p < T → o p = some (k, r) → k < c
  hi : ∀ k r, o T = some (k, r) → c ≤ k
  us : ∀ p, c ≤ p → p < T → ∃ x, o p = some x
section
variable {t : QS} {b : Nat} {o : Nat → Option (Nat × Nat)}
theorem TT.ex (L : Lin t b o) {c : Nat} (hc : c < t.N) : ∃ T, TT t b o c T := by
  obtain ⟨T, h1, h2, h3, h4⟩ := least (P := fun p => ∀ k r, o p = some (k, r) → c ≤ k) (lo := c) (n := t.N - 1 - c) (by
    intro k r h
    rw [show c + (t.N - 1 - c) = t.N - 1 by omega, L.last] at h; cases h)
  refine ⟨T, by omega, h1, fun p k r hp h => ?_, h3, fun p hp1 hp2 => ?_⟩
  · rcases Nat.lt_or_ge p c with q | q
    · have := L.le p k r (by omega) h; omega
    · rcases Nat.lt_or_ge k c with z | z
      · exact z
      · exact absurd (fun k' r' h' => by rw [h] at h'; cases h'; exact z) (h4 p q hp)
  · cases e : o p with
    | some x => exact ⟨x, rfl⟩
    | none => exact absurd (fun k' r' h' => by rw [e] at h'; cases h') (h4 p hp1 hp2)
/-- no quotient lies between two neighbours -/
theorem no_occ (L : Lin t b o) {i k1 r1 k : Nat} (hi : i + 1 < t.N) (h1 : o i = some (k1, r1)) (hk1 : k1 < k) (hk : k < t.N) (h2 : ∀ k2 r2, o (i + 1) = some (k2, r2) → k < k2) (h3 : o (i + 1) = none → k ≤ i + 1) : t.occ (t.ix b k) = false := by
  cases e : t.occ (t.ix b k) with
  | false => rfl
  | true =>
    exfalso
    obtain ⟨p, r, hp, h⟩ := (L.oc k hk).mp e
    have a1 : ¬ p < i := fun q => by have := L.mono h i k1 r1 q (by omega) h1; omega
    have a2 : p ≠ i := fun q => by rw [q, h1] at h; cases h; omega
    have a3 : p ≠ i + 1 := fun q => by
      rw [q] at h
      have := h2 k r h; omega
    have a4 : i + 1 < p := by omega
    cases e2 : o (i + 1) with
    | none =>
      have := L.gap e2 h a4 hp
      have := h3 e2
      omega
    | some x =>
      obtain ⟨k2, r2⟩ := x
      have := L.mono e2 p k r a4 hp h
      have := h2 k2 r2 e2
      omega
theorem cnt_skip {P : Nat → Bool} {s lo m : Nat} (hs : s ≤ lo) (h : ∀ p, lo ≤ p → p < lo + m → P p = false) : (List.range' s (lo + m - s)).countP P = (List.range' s (lo - s)).countP P := by
  have e : lo + m - s = (lo - s) + m := by omega
  rw [e, ← List.range'_append_1, List.countP_append]
  have : (List.range' (s + (lo - s)) m).countP P = 0 := by
    rw [List.countP_eq_zero]
    intro p hp
    rw [List.mem_range'_1] at hp
    rw [h p (by omega) (by omega)]; decide
  omega
theorem runs (L : Lin t b o) {s T r0 : Nat} (hT : T < t.N) (h0 : o s = some (s, r0)) (hs : t.con (t.ix b s) = false) (hu : ∀ p, s ≤ p → p < T → ∃ x, o p = some x) :
    ∀ n, s + n < T → ∀ k r, o (s + n) = some (k, r) → s ≤ k ∧ (List.range' s (n + 1)).countP (fun p => !(t.con (t.ix b p))) = (List.range' s (k + 1 - s)).countP (fun p => t.occ (t.ix b p)) := by
  intro n
  induction n with
  | zero =>
    intro hn k r h
    rw [Nat.add_zero, h0] at h
    cases h
    have ho := (L.oc s (by omega)).mpr ⟨s, r0, by omega, h0⟩
    simp [hs, ho]
  | succ n ih =>
    intro hn k' r' h'
    obtain ⟨⟨k, r⟩, h⟩ := hu (s + n) (by omega) (by omega)
    obtain ⟨hsk, hc⟩ := ih (by omega) k r h
    have hso := L.so (s + n) k r k' r' (by omega) h h'
    have hle := L.le (s + (n + 1)) k' r' (by omega) h'
    refine ⟨by omega, ?_⟩
    rw [List.range'_1_concat, List.countP_append, List.countP_singleton, hc]
    rcases Nat.lt_or_ge k k' with q | q
    · have hcf : t.con (t.ix b (s + (n + 1))) = false := L.con_f (by omega) h' fun c1 r1 _ h1 => by
        rw [show s + (n + 1) - 1 = s + n by omega, h] at h1; cases h1; omega
      have ho := (L.oc k' (by omega)).mpr ⟨s + (n + 1), r', by omega, h'⟩
      have e : k' + 1 - s = (k' - s) + 1 := by omega
      rw [e, List.range'_1_concat, List.countP_append, List.countP_singleton, show s + (k' - s) = k' by omega]
      have sk := cnt_skip (P := fun p => t.occ (t.ix b p)) (s := s) (lo := k + 1) (m := k' - (k + 1)) (by omega) (fun p h1 h2 => no_occ L (i := s + n) (by omega) h (by omega) (by omega) (fun k2 r2 h3 => by rw [show s + n + 1 = s + (n + 1) by omega, h'] at h3; cases h3; omega) (fun h3 => by rw [show s + n + 1 = s + (n + 1) by omega, h'] at h3; cases h3))
      rw [show k + 1 + (k' - (k + 1)) - s = k' - s by omega] at sk
      rw [sk]
      simp [hcf, ho]
    · have e : k' = k := by omega
      subst e
      have hct := (L.co (s + (n + 1)) (by omega)).mpr ⟨k', r', r, by omega, h', by rw [show s + (n + 1) - 1 = s + n by omega]; exact h⟩
      simp [hct]
theorem start_spec (L : Lin t b o) {c : Nat} (hc : c < t.N) (hu : ∃ x, o c = some x) : ∃ T, t.start (t.ix b c) = some (t.ix b T) ∧ TT t b o c T := by
  obtain ⟨T, hT⟩ := TT.ex L hc
  refine ⟨T, ?_, hT⟩
  obtain ⟨x, hx⟩ := hu
  have he : t.emp (t.ix b c) = false := L.emp_f (r := x.2) (c := x.1) hc hx
  obtain ⟨s, r0, h1, h2, h3, h4⟩ := back_spec L hc c (Nat.le_refl _) ⟨x, hx⟩
  unfold QS.start
  rw [if_neg (by rw [he]; decide), h4 (t.N + 1) 0 (by omega), Option.bind_some]
  have hsc : t.con (t.ix b s) = false := L.con_f (by omega) h2 fun c1 r1 hs0 h5 => by
    have := L.le (s - 1) c1 r1 (by omega) h5; omega
  have hu : ∀ p, s ≤ p → p < T → ∃ x, o p = some x := fun p hp1 hp2 => by
    rcases Nat.lt_or_ge p c with q | q
    · exact h3 p hp1 (by omega)
    · exact hT.us p q hp2
  have hTc : t.con (t.ix b T) = false := by
    cases e : o T with
    | none => exact L.con_n hT.lt e
    | some y =>
      obtain ⟨k, r⟩ := y
      refine L.con_f hT.lt e fun c1 r1 hp h5 q => ?_
      have := hT.lo (T - 1) c1 r1 (by omega) h5
      have := hT.hi k r e
      omega
  have cnt : (List.range' s (c + 1 - s)).countP (fun p => decide (p = c) || t.occ (t.ix b p)) = 1 + (List.range' s (T - s)).countP (fun p => !(t.con (t.ix b p))) := by
    have e : c + 1 - s = (c - s) + 1 := by omega
    rw [e, List.range'_1_concat, List.countP_append, List.countP_singleton, show s + (c - s) = c by omega]
    have e2 : (List.range' s (c - s)).countP (fun p => decide (p = c) || t.occ (t.ix b p)) = (List.range' s (c - s)).countP (fun p => t.occ (t.ix b p)) := by
      refine List.countP_congr fun p hp => ?_
      rw [List.mem_range'_1] at hp
      have : p ≠ c := by omega
      simp [this]
    rw [e2]
    have e3 : (List.range' s (c - s)).countP (fun p => t.occ (t.ix b p)) = (List.range' s (T - s)).countP (fun p => !(t.con (t.ix b p))) := by
      rcases Nat.lt_or_ge s T with q | q
      · obtain ⟨⟨k, r⟩, h⟩ := hu (T - 1) (by omega) (by omega)
        obtain ⟨n, hn⟩ : ∃ n, T = s + n + 1 := ⟨T - 1 - s, by omega⟩
        have hkc := hT.lo (T - 1) k r (by omega) h
        obtain ⟨hsk, hr⟩ := runs L hT.lt h2 hsc hu n (by omega) k r (by rw [show s + n = T - 1 by omega]; exact h)
        rw [show T - s = n + 1 by omega, hr]
        have sk := cnt_skip (P := fun p => t.occ (t.ix b p)) (s := s) (lo := k + 1) (m := c - (k + 1)) (by omega) (fun p g1 g2 => no_occ L (i := T - 1) (by have := hT.lt; omega) h (by omega) (by omega) (fun k2 r2 g3 => by rw [show T - 1 + 1 = T by omega] at g3; have := hT.hi k2 r2 g3; omega) (fun g3 => by have := hT.ge; omega))
        rw [show k + 1 + (c - (k + 1)) - s = c - s by omega] at sk
        exact sk
      · have := hT.ge
        have e1 : c - s = 0 := by omega
        have e2 : T - s = 0 := by omega
        rw [e1, e2]; rfl
    rw [e3]; simp; omega
  rw [cnt]
  have := fwd_spec (b := b) hTc (T - s) s (2 * t.N) (by have := hT.ge; omega) (by have := hT.lt; omega)
  rw [← this]
  congr 1
  omega
end
end QS
end Mine
end
section
set_option Elab.async false
set_option linter.unusedVariables false
namespace Mine
namespace QS
section
variable {t : QS} {b : Nat} {o : Nat → Option (Nat × Nat)}
theorem no_more (L : Lin t b o) {i c k r' r : Nat} (h : o i = some (k, r')) (hk : c < k ∨ (c = k ∧ r < r')) : ¬ ∃ p, i ≤ p ∧ p < t.N ∧ o p = some (c, r) := by
  rintro ⟨p, h1, h2, h3⟩
  rcases Nat.lt_or_ge i p with q | q
  · have := L.mono h p c r q h2 h3; omega
  · have : p = i := by omega
    rw [this, h] at h3; cases h3; omega
theorem scan_spec (L : Lin t b o) {c r : Nat} : ∀ d i f, i + d + 1 = t.N → d + 1 < f → c < i → (∃ rp, 0 < i ∧ o (i - 1) = some (c, rp)) → ∃ l, t.scan r f (t.ix b i) 1 = some l ∧ (l ≠ -1 ↔ ∃ p, i ≤ p ∧ p < t.N ∧ o p = some (c, r)) := by
  intro d
  induction d with
  | zero =>
    intro i f h1 h2 hci _
    obtain ⟨f, rfl⟩ : ∃ g, f = g + 1 := ⟨f - 1, by omega⟩
    have hn : o i = none := by rw [show i = t.N - 1 by omega]; exact L.last
    have he := (L.emp_iff (i := i) (by omega)).mpr hn
    refine ⟨-1, by simp [QS.scan, he], ?_⟩
    simp only [ne_eq, not_true, false_iff]
    rintro ⟨p, g1, g2, g3⟩
    rw [show p = i by omega, hn] at g3; cases g3
  | succ d ih =>
    intro i f h1 h2 hci ⟨rp, hi0, hp⟩
    obtain ⟨f, rfl⟩ : ∃ g, f = g + 1 := ⟨f - 1, by omega⟩
    cases e : o i with
    | none =>
      have he := (L.emp_iff (i := i) (by omega)).mpr e
      refine ⟨-1, by simp [QS.scan, he], ?_⟩
      simp only [ne_eq, not_true, false_iff]
      rintro ⟨p, g1, g2, g3⟩
      rcases Nat.lt_or_ge i p with q | q
      · have := L.gap e g3 q g2; omega
      · rw [show p = i by omega, e] at g3; cases g3
    | some x =>
      obtain ⟨k, r'⟩ := x
      have he : t.emp (t.ix b i) = false := L.emp_f (by omega) e
      have hfi : t.fil (t.ix b i) = r' := L.fi i k r' (by omega) e
      have hso := L.so (i - 1) c rp k r' (by omega) hp (by rw [Nat.sub_add_cancel hi0]; exact e)
      by_cases hk : k = c
      · subst hk
        have hct := (L.co i (by omega)).mpr ⟨k, r', rp, hi0, e, hp⟩
        simp only [QS.scan, he, hct, Bool.false_eq_true, if_false, if_true, hfi, nx_ix, show ¬ ((1 : Nat) = 2) by decide, false_or]
        by_cases q1 : r < r'
        · rw [if_pos q1]
          exact ⟨-1, rfl, by simp only [ne_eq, not_true, false_iff]; exact no_more L e (.inr ⟨rfl, q1⟩)⟩
        · rw [if_neg q1]
          by_cases q2 : r' = r
          · rw [if_pos q2]
            exact ⟨_, rfl, ⟨fun _ => ⟨i, Nat.le_refl _, by omega, q2 ▸ e⟩, fun _ => by omega⟩⟩
          · rw [if_neg q2]
            obtain ⟨l, g1, g2⟩ := ih (i + 1) f (by omega) (by omega) (by omega) ⟨r', by omega, by rw [Nat.add_sub_cancel]; exact e⟩
            refine ⟨l, g1, g2.trans ⟨fun ⟨p, a1, a2, a3⟩ => ⟨p, by omega, a2, a3⟩, fun ⟨p, a1, a2, a3⟩ => ⟨p, ?_, a2, a3⟩⟩⟩
            rcases Nat.lt_or_ge i p with z | z
            · omega
            · rw [show p = i by omega, e] at a3; cases a3; exact absurd rfl q2
      · have hcf : t.con (t.ix b i) = false := L.con_f (by omega) e fun c1 r1 _ h5 q => by rw [hp] at h5; cases h5; exact hk q.symm
        refine ⟨-1, by simp [QS.scan, he, hcf], ?_⟩
        simp only [ne_eq, not_true, false_iff]
        exact no_more L e (.inl (by omega))
theorem TT.occ_at (L : Lin t b o) {c T : Nat} (hc : c < t.N) (hT : TT t b o c T) (h : t.occ (t.ix b c) = true) : ∃ r, o T = some (c, r) := by
  obtain ⟨p, r, hp, h1⟩ := (L.oc c hc).mp h
  have h2 : T ≤ p := by
    rcases Nat.lt_or_ge p T with q | q
    · have := hT.lo p c r q h1; omega
    · exact q
  cases e : o T with
  | none =>
    rcases Nat.lt_or_ge T p with q | q
    · have := L.gap e h1 q hp; have := hT.ge; omega
    · rw [show p = T by omega, e] at h1; cases h1
  | some x =>
    obtain ⟨k, r'⟩ := x
    have := hT.hi k r' e
    rcases Nat.lt_or_ge T p with q | q
    · have := L.mono e p c r q hp h1
      exact ⟨r', by rw [show k = c by omega]⟩
    · rw [show p = T by omega, e] at h1; cases h1; exact ⟨_, rfl⟩
theorem TT.con_at (L : Lin t b o) {c T : Nat} (hT : TT t b o c T) : t.con (t.ix b T) = false := by
  cases e : o T with
  | none => exact L.con_n hT.lt e
  | some y =>
    obtain ⟨k, r⟩ := y
    refine L.con_f hT.lt e fun c1 r1 hp h5 q => ?_
    have := hT.lo (T - 1) c1 r1 (by omega) h5
    have := hT.hi k r e
    omega
theorem loc_spec (L : Lin t b o) {c r : Nat} (hc : c < t.N) : ∃ l, t.loc (t.ix b c) r = some l ∧ (l ≠ -1 ↔ ∃ p, p < t.N ∧ o p = some (c, r)) := by
  unfold QS.loc
  cases ho : t.occ (t.ix b c) with
  | false =>
    refine ⟨-1, by simp, ?_⟩
    simp only [ne_eq, not_true, false_iff]
    rintro ⟨p, h1, h2⟩
    have := (L.oc c hc).mpr ⟨p, r, h1, h2⟩
    rw [ho] at this; cases this
  | true =>
    obtain ⟨c', r', hu⟩ := L.occ_used hc ho
    obtain ⟨T, hst, hT⟩ := start_spec L hc ⟨_, hu⟩
    obtain ⟨r0, h0⟩ := hT.occ_at L hc ho
    have hcf := hT.con_at L
    have he : t.emp (t.ix b T) = false := L.emp_f hT.lt h0
    have hfi : t.fil (t.ix b T) = r0 := L.fi T c r0 hT.lt h0
    have hlt1 := L.lt1 hT.lt h0
    obtain ⟨f, hf⟩ : ∃ f, 2 * t.N = f + 1 := ⟨2 * t.N - 1, by have := t.N_pos; omega⟩
    have below : ∀ {l : Int}, (l ≠ -1 ↔ ∃ p, T ≤ p ∧ p < t.N ∧ o p = some (c, r)) → (l ≠ -1 ↔ ∃ p, p < t.N ∧ o p = some (c, r)) := fun h => h.trans ⟨fun ⟨p, _, a2, a3⟩ => ⟨p, a2, a3⟩, fun ⟨p, a2, a3⟩ => ⟨p, by
      rcases Nat.lt_or_ge p T with q | q
      · have := hT.lo p c r q a3; omega
      · exact q, a2, a3⟩⟩
    simp only [Bool.true_eq_false, if_false, hst, Option.bind_some, hf, QS.scan, he, hcf, Bool.false_eq_true, hfi, nx_ix, Nat.zero_add, show ¬ ((1 : Nat) = 2) by decide, false_or]
    by_cases q1 : r < r0
    · rw [if_pos q1]
      refine ⟨-1, rfl, below ?_⟩
      simp only [ne_eq, not_true, false_iff]
      exact no_more L h0 (.inr ⟨rfl, q1⟩)
    · rw [if_neg q1]
      by_cases q2 : r0 = r
      · rw [if_pos q2]
        exact ⟨_, rfl, below ⟨fun _ => ⟨T, Nat.le_refl _, hT.lt, q2 ▸ h0⟩, fun _ => by omega⟩⟩
      · rw [if_neg q2]
        obtain ⟨l, g1, g2⟩ := scan_spec L (c := c) (r := r) (t.N - 1 - (T + 1)) (T + 1) f (by omega) (by omega) (by have := hT.ge; omega) ⟨r0, by omega, by rw [Nat.add_sub_cancel]; exact h0⟩
        refine ⟨l, g1, below (g2.trans ⟨fun ⟨p, a1, a2, a3⟩ => ⟨p, by omega, a2, a3⟩, fun ⟨p, a1, a2, a3⟩ => ⟨p, ?_, a2, a3⟩⟩)⟩
        rcases Nat.lt_or_ge T p with z | z
        · omega
        · rw [show p = T by omega, h0] at a3; cases a3; exact absurd rfl q2
end
end QS
end Mine
end
section
set_option Elab.async false
set_option linter.unusedVariables false
namespace Mine
namespace QS
def hv (t : QS) (b : Nat) (p : Nat × Nat) : Nat := t.ix b p.1 * 2 ^ (32 - t.q) + p.2
def els (t : QS) (b : Nat) (o : Nat → Option (Nat × Nat)) (lo n : Nat) : List Nat := (List.range' lo n).filterMap fun i => (o i).map (t.hv b)
def kap (o : Nat → Option (Nat × Nat)) (i : Nat) : Nat := if i = 0 then 0 else match o (i - 1) with | some (k, _) => k + 1 | none => i
def ql (t : QS) (b : Nat) (κ i : Nat) : List Nat := ((List.range i).filter fun c => t.occ (t.ix b c) && decide (κ ≤ c)).map (t.ix b)
section
variable {t : QS} {b : Nat} {o : Nat → Option (Nat × Nat)}
theorem ql_nil {κ i : Nat} (h : ∀ c, κ ≤ c → c < i → t.occ (t.ix b c) = false) : t.ql b κ i = [] := by
  unfold ql
  have : (List.range i).filter (fun c => t.occ (t.ix b c) && decide (κ ≤ c)) = [] := by
    rw [List.filter_eq_nil_iff]
    intro c hc
    rw [List.mem_range] at hc
    by_cases q : κ ≤ c
    · simp [h c q hc]
    · simp [q]
  rw [this]; rfl
theorem ql_succ {κ i : Nat} (h : κ ≤ i) : t.ql b κ (i + 1) = if t.occ (t.ix b i) = true then t.ql b κ i ++ [t.ix b i] else t.ql b κ i := by
  unfold ql
  rw [List.range_succ, List.filter_append, List.map_append]
  cases e : t.occ (t.ix b i) with
  | true => simp [e, h]
  | false => simp [e]
theorem ql_cons {κ c i : Nat} (hi : c < i) (h1 : κ ≤ c) (ho : t.occ (t.ix b c) = true) (h : ∀ k, κ ≤ k → k < c → t.occ (t.ix b k) = false) : t.ql b κ i = t.ix b c :: t.ql b (c + 1) i := by
  unfold ql
  have e : List.range i = List.range c ++ (c :: List.range' (c + 1) (i - (c + 1))) := by
    rw [List.range_eq_range', List.range_eq_range', ← List.range'_succ]
    have := List.range'_append_1 (s := 0) (m := c) (n := i - (c + 1) + 1)
    rw [Nat.zero_add] at this
    rw [this]
    congr 1; omega
  have f1 : (List.range c).filter (fun k => t.occ (t.ix b k) && decide (κ ≤ k)) = [] := by
    rw [List.filter_eq_nil_iff]
    intro k hk
    rw [List.mem_range] at hk
    by_cases q : κ ≤ k
    · simp [h k q hk]
    · simp [q]
  have f2 : (List.range c).filter (fun k => t.occ (t.ix b k) && decide (c + 1 ≤ k)) = [] := by
    rw [List.filter_eq_nil_iff]
    intro k hk
    rw [List.mem_range] at hk
    have : ¬ c + 1 ≤ k := by omega
    simp [this]
  have f3 : (List.range' (c + 1) (i - (c + 1))).filter (fun k => t.occ (t.ix b k) && decide (κ ≤ k)) = (List.range' (c + 1) (i - (c + 1))).filter (fun k => t.occ (t.ix b k) && decide (c + 1 ≤ k)) := by
    refine List.filter_congr fun k hk => ?_
    rw [List.mem_range'_1] at hk
    have a1 : κ ≤ k := by omega
    have a2 : c + 1 ≤ k := by omega
    simp [a1, a2]
  have g1 : (t.occ (t.ix b c) && decide (κ ≤ c)) = true := by simp [ho, h1]
  have g2 : ¬ (t.occ (t.ix b c) && decide (c + 1 ≤ c)) = true := by simp
  rw [e, List.filter_append, List.filter_append, f1, f2, List.filter_cons_of_pos (by exact g1), List.filter_cons_of_neg (by exact g2), f3]
  rfl
theorem kap_le (L : Lin t b o) {i : Nat} (hi : i < t.N) : kap o i ≤ i := by
  unfold kap
  split
  · omega
  · split
    · rename_i h k r e
      have := L.le (i - 1) k r (by omega) e
      omega
    · exact Nat.le_refl _
theorem kap_succ_some {i c r : Nat} (h : o i = some (c, r)) : kap o (i + 1) = c + 1 := by
  unfold kap
  rw [if_neg (by omega), Nat.add_sub_cancel, h]
theorem kap_succ_none {i : Nat} (h : o i = none) : kap o (i + 1) = i + 1 := by
  unfold kap
  rw [if_neg (by omega), Nat.add_sub_cancel, h]
/-- no quotient waits below the next one -/
theorem occ_wait (L : Lin t b o) {i k : Nat} (hi : i < t.N) (hk : kap o i ≤ k) (hki : k < i ∨ ∃ c r, o i = some (c, r) ∧ k < c) (hc : ∀ c r, o i = some (c, r) → k < c) : t.occ (t.ix b k) = false := by
  have hki2 : k < i := by
    rcases hki with q | ⟨c, r, h, q⟩
    · exact q
    · have := L.le i c r hi h; omega
  unfold kap at hk
  rw [if_neg (by omega)] at hk
  cases e : o (i - 1) with
  | none => rw [e] at hk; dsimp only at hk; omega
  | some x =>
    obtain ⟨k1, r1⟩ := x
    rw [e] at hk
    dsimp only at hk
    have e2 : i - 1 + 1 = i := by omega
    exact no_occ L (i := i - 1) (by omega) e (by omega) (by omega) (fun k2 r2 h3 => hc k2 r2 (by rw [← e2]; exact h3)) (fun _ => by omega)
theorem hl_spec (L : Lin t b o) {st : Nat} (hix : ∀ i, (st + (i + 1)) % t.N = t.ix b i) : ∀ f i cur, i + 1 + f = t.N → (∀ k r, 0 < i → o (i - 1) = some (k, r) → cur = t.ix b k) →
    t.hl st f (i + 1) (t.ql b (kap o i) i) cur = some (t.els b o i f) := by
  intro f
  induction f with
  | zero => intro i cur h1 h2; rfl
  | succ f ih =>
    intro i cur h1 h2
    have hi : i < t.N := by omega
    simp only [QS.hl, hix]
    unfold els
    rw [List.range'_succ, List.filterMap_cons]
    cases e : o i with
    | none =>
      have he := (L.emp_iff hi).mpr e
      have hq : t.ql b (kap o i) i = [] := ql_nil fun c h3 h4 => occ_wait L hi h3 (.inl h4) fun c' r' h5 => by rw [e] at h5; cases h5
      have hq2 : t.ql b (kap o (i + 1)) (i + 1) = [] := by rw [kap_succ_none e]; exact ql_nil fun c h3 h4 => by omega
      rw [if_pos he, if_pos hq]
      have := ih (i + 1) cur (by omega) (fun k r _ h => by rw [Nat.add_sub_cancel, e] at h; cases h)
      rw [hq2] at this
      exact this
    | some x =>
      obtain ⟨c, r⟩ := x
      have he : t.emp (t.ix b i) = false := L.emp_f hi e
      have hle := L.le i c r hi e
      have hfi : t.fil (t.ix b i) = r := L.fi i c r hi e
      have hoc : t.occ (t.ix b c) = true := (L.oc c (by omega)).mpr ⟨i, r, hi, e⟩
      have hk := kap_le L hi
      rw [if_neg (by rw [he]; decide), ← ql_succ hk]
      have ih2 := fun cur => ih (i + 1) cur (by omega)
      rw [kap_succ_some e] at ih2
      have hos : (t.occ (t.ix b i) || t.shi (t.ix b i)) = true := by
        rcases Nat.lt_or_ge c i with q | q
        · rw [(L.si i hi).mpr ⟨c, r, e, q⟩, Bool.or_true]
        · have : c = i := by omega
          subst this
          rw [hoc, Bool.true_or]
      cases hco : t.con (t.ix b i) with
      | false =>
        have hkc : kap o i ≤ c := by
          unfold kap
          split
          · omega
          · rename_i hi0
            cases e1 : o (i - 1) with
            | none =>
              dsimp only
              rcases Nat.lt_or_ge c i with q | q
              · obtain ⟨c', r', h5⟩ := L.sh i c r hi e q; rw [e1] at h5; cases h5
              · exact q
            | some y =>
              obtain ⟨k, r1⟩ := y
              dsimp only
              have hso := L.so (i - 1) k r1 c r (by omega) e1 (by rw [Nat.sub_add_cancel (by omega)]; exact e)
              rcases hso with q | ⟨q, _⟩
              · exact q
              · exfalso
                have := (L.co i hi).mpr ⟨c, r, r1, by omega, e, by rw [e1, q]⟩
                rw [hco] at this; cases this
        rw [ql_cons (c := c) (by omega) hkc hoc fun k h3 h4 => occ_wait L hi h3 (.inr ⟨c, r, e, h4⟩) fun c' r' h5 => by rw [e] at h5; cases h5; exact h4]
        rw [if_pos (by rw [hos]; rfl)]
        dsimp only
        rw [ih2 (t.ix b c) (fun k r' _ h => by rw [Nat.add_sub_cancel, e] at h; cases h; rfl), hfi]
        rfl
      | true =>
        obtain ⟨c2, r2, r', h0, h3, h4⟩ := (L.co i hi).mp hco
        rw [e] at h3; cases h3
        have hcur := h2 c r' h0 h4
        have hkap : kap o i = c + 1 := by
          unfold kap
          rw [if_neg (by omega), h4]
        rw [if_neg (by simp), hkap, ih2 cur (fun k r'' _ h => by rw [Nat.add_sub_cancel, e] at h; cases h; exact hcur), hfi, hcur]
        rfl
theorem firstEmp_spec (t : QS) : ∀ f j, (∃ i, j ≤ i ∧ i < j + f ∧ t.emp i = true) → ∃ st, t.firstEmp f j = some st ∧ t.emp st = true ∧ st < j + f := by
  intro f
  induction f with
  | zero => rintro j ⟨i, h1, h2, _⟩; omega
  | succ f ih =>
    rintro j ⟨i, h1, h2, h3⟩
    simp only [QS.firstEmp]
    by_cases e : t.emp j = true
    · rw [if_pos e]; exact ⟨j, rfl, e, by omega⟩
    · rw [if_neg e]
      obtain ⟨st, a1, a2, a3⟩ := ih (j + 1) ⟨i, by
        rcases Nat.lt_or_ge j i with q | q
        · exact q
        · exact absurd (by rw [show j = i by omega]; exact h3) e, by omega, h3⟩
      exact ⟨st, a1, a2, by omega⟩
theorem base_pv (t : QS) {st : Nat} (h : st < t.N) : ((st + 1) % t.N + t.N - 1) % t.N = st := by
  rcases Nat.lt_or_ge (st + 1) t.N with q | q
  · rw [Nat.mod_eq_of_lt q, show st + 1 + t.N - 1 = st + t.N by omega, Nat.add_mod_right, Nat.mod_eq_of_lt h]
  · have e : st + 1 = t.N := by omega
    rw [e, Nat.mod_self, Nat.zero_add, Nat.mod_eq_of_lt (by omega)]; omega
end
/-- a filter that holds the hashes S -/
structure Inv (t : QS) (S : List Nat) : Prop where
  q3 : 3 ≤ t.q
  q5 : t.q ≤ 5
  cnt : t.cnt = S.length
  ex : ∃ j, j < t.N ∧ t.emp j = true
  lin : ∀ b, b < t.N → t.emp ((b + t.N - 1) % t.N) = true → ∃ o, Lin t b o ∧ (t.els b o 0 t.N).Perm S
theorem Inv.hashes {t : QS} {S : List Nat} (I : Inv t S) : ∃ xs, t.hashes = some xs ∧ xs.Perm S := by
  obtain ⟨j, hj, he⟩ := I.ex
  obtain ⟨st, h1, h2, h3⟩ := firstEmp_spec t t.N 0 ⟨j, by omega, by omega, he⟩
  rw [Nat.zero_add] at h3
  obtain ⟨o, L, hp⟩ := I.lin ((st + 1) % t.N) (Nat.mod_lt _ t.N_pos) (by rw [base_pv t h3]; exact h2)
  have hix : ∀ i, (st + (i + 1)) % t.N = t.ix ((st + 1) % t.N) i := fun i => by
    unfold ix; rw [Nat.mod_add_mod]; congr 1; omega
  have hN := t.N_pos
  obtain ⟨f, hf⟩ : ∃ f, t.N = f + 1 := ⟨t.N - 1, by omega⟩
  have key := hl_spec L hix f 0 0 (by omega) (fun k r h => by omega)
  have h0 : t.ql ((st + 1) % t.N) (kap o 0) 0 = [] := ql_nil fun c _ h => by omega
  rw [h0] at key
  refine ⟨t.els ((st + 1) % t.N) o 0 f, ?_, ?_⟩
  · unfold QS.hashes
    rw [h1, Option.bind_some]
    have e : t.hl st t.N 0 [] 0 = t.hl st f 1 [] 0 := by
      have : ∀ n, n = f + 1 → t.hl st n 0 [] 0 = t.hl st f 1 [] 0 := by
        rintro n rfl
        simp only [QS.hl, Nat.add_zero, Nat.mod_eq_of_lt h3, h2, if_true]
      exact this _ hf
    rw [e]; exact key
  · refine List.Perm.trans (List.Perm.of_eq ?_) hp
    unfold els
    have : ∀ n, n = f + 1 → (List.range' 0 f).filterMap (fun i => (o i).map (t.hv ((st + 1) % t.N))) = (List.range' 0 n).filterMap (fun i => (o i).map (t.hv ((st + 1) % t.N))) := by
      rintro n rfl
      rw [List.range'_1_concat, List.filterMap_append]
      have hl : o f = none := by rw [show f = t.N - 1 by omega]; exact L.last
      simp [hl]
    exact this _ hf
end QS
end Mine
end
section
set_option Elab.async false
set_option linter.unusedVariables false
namespace Mine
namespace QS
theorem fm_congr {α β : Type} {f g : α → Option β} : ∀ {l : List α}, (∀ x ∈ l, f x = g x) → l.filterMap f = l.filterMap g
  | [], _ => rfl
  | x :: l, h => by rw [List.filterMap_cons, List.filterMap_cons, h x (by simp), fm_congr fun y hy => h y (by simp [hy])]
def insO (o : Nat → Option (Nat × Nat)) (ins E : Nat) (x : Nat × Nat) : Nat → Option (Nat × Nat) := fun i => if i < ins then o i else if i = ins then some x else if i ≤ E then o (i - 1) else o i
section
variable {t t' : QS} {b : Nat} {o : Nat → Option (Nat × Nat)} {c r ins E : Nat} {pr nr : Bool}
theorem insO_lt {x} {i : Nat} (h : i < ins) : insO o ins E x i = o i := by unfold insO; rw [if_pos h]
theorem insO_eq {x} : insO o ins E x ins = some x := by unfold insO; rw [if_neg (by omega), if_pos rfl]
theorem insO_mid {x} {i : Nat} (h : ins < i) (h2 : i ≤ E) : insO o ins E x i = o (i - 1) := by unfold insO; rw [if_neg (by omega), if_neg (by omega), if_pos h2]
theorem insO_gt {x} {i : Nat} (h : ins ≤ E) (h2 : E < i) : insO o ins E x i = o i := by unfold insO; rw [if_neg (by omega), if_neg (by omega), if_neg (by omega)]
structure Plc (t : QS) (b : Nat) (o : Nat → Option (Nat × Nat)) (c r ins E : Nat) (pr nr : Bool) : Prop where
  iE : ins ≤ E
  EN : E < t.N
  hE : o E = none
  us : ∀ p, ins ≤ p → p < E → ∃ x, o p = some x
  lo : ∀ p k r', p < ins → o p = some (k, r') → k < c ∨ (k = c ∧ r' < r)
  hi : ∀ k r', o ins = some (k, r') → c < k ∨ (c = k ∧ r < r')
  ci : c ≤ ins
  uc : ∀ p, c ≤ p → p < ins → ∃ x, o p = some x
  hp : pr = true ↔ ∃ r', 0 < ins ∧ o (ins - 1) = some (c, r')
  hn : nr = true ↔ ∃ r', o ins = some (c, r')
structure Desc (t t' : QS) (b c r ins E : Nat) (pr nr : Bool) : Prop where
  q : t'.q = t.q
  au : t'.auto = t.auto
  hf : t'.hf = t.hf
  cn : t'.cnt = t.cnt + 1
  hO : ∀ i, i < t.N → t'.occ (t.ix b i) = (t.occ (t.ix b i) || decide (i = c))
  hF : ∀ i, i < t.N → t'.fil (t.ix b i) = if i = ins then r else if ins < i ∧ i ≤ E then t.fil (t.ix b (i - 1)) else t.fil (t.ix b i)
  hC : ∀ i, i < t.N → t'.con (t.ix b i) = if i = ins then pr else if i = ins + 1 ∧ i ≤ E then nr else if ins < i ∧ i ≤ E then t.con (t.ix b (i - 1)) else t.con (t.ix b i)
  hS : ∀ i, i < t.N → t'.shi (t.ix b i) = if i = ins then decide (ins ≠ c) else if ins < i ∧ i ≤ E then true else t.shi (t.ix b i)
theorem Desc.N (D : Desc t t' b c r ins E pr nr) : t'.N = t.N := by unfold QS.N; rw [D.q]
theorem Desc.ix (D : Desc t t' b c r ins E pr nr) (i : Nat) : t'.ix b i = t.ix b i := by unfold QS.ix; rw [D.N]
theorem lin_of (L : Lin t b o) (P : Plc t b o c r ins E pr nr) (D : Desc t t' b c r ins E pr nr) (hr : r < 2 ^ (32 - t.q)) (hE1 : E + 1 < t.N) : Lin t' b (insO o ins E (c, r)) := by
  have iE := P.iE
  have ci := P.ci
  have cases4 : ∀ i, i < ins ∨ i = ins ∨ (ins < i ∧ i ≤ E) ∨ E < i := fun i => by omega
  refine ⟨?_, ?_, ?_, ?_, ?_, ?_, ?_, ?_, ?_⟩
  · rw [D.N, insO_gt iE (by omega)]; exact L.last
  · intro i k r1 hi h
    rw [D.N] at hi
    rcases cases4 i with q | q | q | q
    · rw [insO_lt q] at h; exact L.le i k r1 hi h
    · subst q; rw [insO_eq] at h; cases h; exact ci
    · rw [insO_mid q.1 q.2] at h; have := L.le (i - 1) k r1 (by omega) h; omega
    · rw [insO_gt iE q] at h; exact L.le i k r1 hi h
  · intro i k r1 hi h hk
    rw [D.N] at hi
    rcases cases4 i with q | q | q | q
    · rw [insO_lt q] at h
      obtain ⟨k2, r2, h2⟩ := L.sh i k r1 hi h hk
      exact ⟨k2, r2, by rw [insO_lt (by omega)]; exact h2⟩
    · subst q; rw [insO_eq] at h; cases h
      obtain ⟨⟨k2, r2⟩, h2⟩ := P.uc (i - 1) (by omega) (by omega)
      exact ⟨k2, r2, by rw [insO_lt (by omega)]; exact h2⟩
    · by_cases z : i - 1 = ins
      · exact ⟨c, r, by rw [z]; exact insO_eq⟩
      · obtain ⟨⟨k2, r2⟩, h2⟩ := P.us (i - 1 - 1) (by omega) (by omega)
        exact ⟨k2, r2, by rw [insO_mid (by omega) (by omega)]; exact h2⟩
    · rw [insO_gt iE q] at h
      obtain ⟨k2, r2, h2⟩ := L.sh i k r1 hi h hk
      by_cases z : i - 1 = E
      · rw [z, P.hE] at h2; cases h2
      · exact ⟨k2, r2, by rw [insO_gt iE (by omega)]; exact h2⟩
  · intro i k1 r1 k2 r2 hi h1 h2
    rw [D.N] at hi
    rcases cases4 i with q | q | q | q
    · rw [insO_lt q] at h1
      by_cases z : i + 1 < ins
      · rw [insO_lt z] at h2; exact L.so i k1 r1 k2 r2 hi h1 h2
      · rw [show i + 1 = ins by omega, insO_eq] at h2; cases h2
        exact P.lo i k1 r1 q h1
    · subst q
      rw [insO_eq] at h1; cases h1
      by_cases z : i + 1 ≤ E
      · rw [insO_mid (by omega) z, Nat.add_sub_cancel] at h2; exact P.hi k2 r2 h2
      · rw [insO_gt iE (by omega)] at h2
        have := L.gap P.hE h2 (by omega) (by omega)
        left; omega
    · rw [insO_mid q.1 q.2] at h1
      by_cases z : i + 1 ≤ E
      · rw [insO_mid (by omega) z, Nat.add_sub_cancel] at h2
        exact L.so (i - 1) k1 r1 k2 r2 (by omega) h1 (by rw [Nat.sub_add_cancel (by omega)]; exact h2)
      · rw [insO_gt iE (by omega)] at h2
        have := L.gap P.hE h2 (by omega) (by omega)
        have := L.le (i - 1) k1 r1 (by omega) h1
        left; omega
    · rw [insO_gt iE q] at h1
      rw [insO_gt iE (by omega)] at h2
      exact L.so i k1 r1 k2 r2 hi h1 h2
  · intro i hi
    rw [D.N] at hi
    rw [D.ix, D.hO i hi, Bool.or_eq_true, decide_eq_true_eq, L.oc i hi, D.N]
    constructor
    · rintro (⟨p, r1, hp, h⟩ | rfl)
      · by_cases z : p < ins
        · exact ⟨p, r1, hp, by rw [insO_lt z]; exact h⟩
        · by_cases z2 : p < E
          · exact ⟨p + 1, r1, by omega, by rw [insO_mid (by omega) (by omega), Nat.add_sub_cancel]; exact h⟩
          · by_cases z3 : p = E
            · rw [z3, P.hE] at h; cases h
            · exact ⟨p, r1, hp, by rw [insO_gt iE (by omega)]; exact h⟩
      · exact ⟨ins, r, by omega, insO_eq⟩
    · rintro ⟨p, r1, hp, h⟩
      rcases cases4 p with q | q | q | q
      · rw [insO_lt q] at h; exact .inl ⟨p, r1, hp, h⟩
      · subst q; rw [insO_eq] at h; cases h; exact .inr rfl
      · rw [insO_mid q.1 q.2] at h; exact .inl ⟨p - 1, r1, by omega, h⟩
      · rw [insO_gt iE q] at h; exact .inl ⟨p, r1, hp, h⟩
  · intro i hi
    rw [D.N] at hi
    rw [D.ix, D.hC i hi]
    rcases cases4 i with q | q | q | q
    · rw [if_neg (by omega), if_neg (by omega), if_neg (by omega), insO_lt q, insO_lt (by omega)]; exact L.co i hi
    · subst q
      rw [if_pos rfl, P.hp, insO_eq]
      constructor
      · rintro ⟨r1, h0, h⟩; exact ⟨c, r, r1, h0, rfl, by rw [insO_lt (by omega)]; exact h⟩
      · rintro ⟨k, r1, r2, h0, h1, h2⟩
        cases h1
        rw [insO_lt (by omega)] at h2; exact ⟨r2, h0, h2⟩
    · rw [if_neg (by omega)]
      by_cases z : i = ins + 1
      · subst z
        rw [if_pos ⟨rfl, q.2⟩, P.hn, insO_mid (by omega) q.2, Nat.add_sub_cancel, insO_eq]
        constructor
        · rintro ⟨r1, h⟩; exact ⟨c, r1, r, by omega, h, rfl⟩
        · rintro ⟨k, r1, r2, h0, h1, h2⟩; cases h2; exact ⟨r1, h1⟩
      · rw [if_neg (by omega), if_pos q, L.co (i - 1) (by omega), insO_mid q.1 q.2, insO_mid (by omega) (by omega)]
        constructor
        · rintro ⟨k, r1, r2, h0, h1, h2⟩; exact ⟨k, r1, r2, by omega, h1, h2⟩
        · rintro ⟨k, r1, r2, h0, h1, h2⟩; exact ⟨k, r1, r2, by omega, h1, h2⟩
    · rw [if_neg (by omega), if_neg (by omega), if_neg (by omega), insO_gt iE q, L.co i hi]
      by_cases z : i = E + 1
      · subst z
        rw [Nat.add_sub_cancel, P.hE]
        constructor
        · rintro ⟨k, r1, r2, h0, h1, h2⟩; cases h2
        · rintro ⟨k, r1, r2, h0, h1, h2⟩
          exfalso
          have g := L.gap P.hE h1 (by omega) hi
          by_cases z2 : ins = E
          · rw [← z2, insO_eq] at h2; cases h2; omega
          · rw [insO_mid (by omega) (Nat.le_refl _)] at h2
            have := L.le (E - 1) k r2 (by omega) h2; omega
      · rw [insO_gt iE (by omega)]
  · intro i hi
    rw [D.N] at hi
    rw [D.ix, D.hS i hi]
    rcases cases4 i with q | q | q | q
    · rw [if_neg (by omega), if_neg (by omega), insO_lt q]; exact L.si i hi
    · subst q
      rw [if_pos rfl, insO_eq, decide_eq_true_eq]
      constructor
      · intro h; exact ⟨c, r, rfl, by omega⟩
      · rintro ⟨k, r1, h1, h2⟩; cases h1; omega
    · rw [if_neg (by omega), if_pos q, insO_mid q.1 q.2]
      obtain ⟨⟨k, r1⟩, h⟩ := P.us (i - 1) (by omega) (by omega)
      have := L.le (i - 1) k r1 (by omega) h
      exact ⟨fun _ => ⟨k, r1, h, by omega⟩, fun _ => rfl⟩
    · rw [if_neg (by omega), if_neg (by omega), insO_gt iE q]; exact L.si i hi
  · intro i k r1 hi h
    rw [D.N] at hi
    rw [D.ix, D.hF i hi]
    rcases cases4 i with q | q | q | q
    · rw [if_neg (by omega), if_neg (by omega)]; rw [insO_lt q] at h; exact L.fi i k r1 hi h
    · subst q; rw [if_pos rfl]; rw [insO_eq] at h; cases h; rfl
    · rw [if_neg (by omega), if_pos q]; rw [insO_mid q.1 q.2] at h; exact L.fi (i - 1) k r1 (by omega) h
    · rw [if_neg (by omega), if_neg (by omega)]; rw [insO_gt iE q] at h; exact L.fi i k r1 hi h
  · intro i k r1 hi h
    rw [D.N] at hi
    rw [D.q]
    rcases cases4 i with q | q | q | q
    · rw [insO_lt q] at h; exact L.rb i k r1 hi h
    · subst q; rw [insO_eq] at h; cases h; exact hr
    · rw [insO_mid q.1 q.2] at h; exact L.rb (i - 1) k r1 (by omega) h
    · rw [insO_gt iE q] at h; exact L.rb i k r1 hi h
theorem els_of (P : Plc t b o c r ins E pr nr) (D : Desc t t' b c r ins E pr nr) : (t'.els b (insO o ins E (c, r)) 0 t'.N).Perm (t.hv b (c, r) :: t.els b o 0 t.N) := by
  have iE := P.iE
  have EN := P.EN
  have hh : t'.hv b = t.hv b := by funext p; unfold QS.hv; rw [D.ix, D.q]
  unfold els
  rw [hh, D.N]
  have e1 : List.range' 0 t.N = List.range' 0 ins ++ (ins :: (List.range' (ins + 1) (E - ins) ++ List.range' (E + 1) (t.N - 1 - E))) := by
    have a := List.range'_append_1 (s := 0) (m := ins) (n := (E - ins) + (t.N - 1 - E) + 1)
    have a2 := List.range'_append_1 (s := ins + 1) (m := E - ins) (n := t.N - 1 - E)
    rw [show ins + 1 + (E - ins) = E + 1 by omega] at a2
    rw [a2, ← List.range'_succ]
    rw [Nat.zero_add] at a
    rw [a]; congr 1; omega
  have e2 : List.range' 0 t.N = List.range' 0 ins ++ (List.range' ins (E - ins) ++ (E :: List.range' (E + 1) (t.N - 1 - E))) := by
    have a := List.range'_append_1 (s := 0) (m := ins) (n := (E - ins) + (t.N - 1 - E + 1))
    have a2 := List.range'_append_1 (s := ins) (m := E - ins) (n := t.N - 1 - E + 1)
    rw [show ins + (E - ins) = E by omega, List.range'_succ] at a2
    rw [a2]
    rw [Nat.zero_add] at a
    rw [a]; congr 1; omega
  have A : (List.range' 0 ins).filterMap (fun i => (insO o ins E (c, r) i).map (t.hv b)) = (List.range' 0 ins).filterMap (fun i => (o i).map (t.hv b)) := by
    refine fm_congr fun i hi => ?_
    rw [List.mem_range'_1] at hi
    rw [insO_lt (by omega)]
  have Bq : (List.range' (ins + 1) (E - ins)).filterMap (fun i => (insO o ins E (c, r) i).map (t.hv b)) = (List.range' ins (E - ins)).filterMap (fun i => (o i).map (t.hv b)) := by
    rw [List.range'_eq_map_range, List.range'_eq_map_range, List.filterMap_map, List.filterMap_map]
    refine fm_congr fun i hi => ?_
    rw [List.mem_range] at hi
    show (insO o ins E (c, r) (ins + 1 + i)).map _ = (o (ins + i)).map _
    rw [insO_mid (by omega) (by omega), show ins + 1 + i - 1 = ins + i by omega]
  have Cq : (List.range' (E + 1) (t.N - 1 - E)).filterMap (fun i => (insO o ins E (c, r) i).map (t.hv b)) = (List.range' (E + 1) (t.N - 1 - E)).filterMap (fun i => (o i).map (t.hv b)) := by
    refine fm_congr fun i hi => ?_
    rw [List.mem_range'_1] at hi
    rw [insO_gt iE (by omega)]
  have l1 : (List.range' 0 t.N).filterMap (fun i => (insO o ins E (c, r) i).map (t.hv b)) = (List.range' 0 ins).filterMap (fun i => (o i).map (t.hv b)) ++ (t.hv b (c, r) :: ((List.range' ins (E - ins)).filterMap (fun i => (o i).map (t.hv b)) ++ (List.range' (E + 1) (t.N - 1 - E)).filterMap (fun i => (o i).map (t.hv b)))) := by
    rw [e1, List.filterMap_append, A, List.filterMap_cons, insO_eq, List.filterMap_append, Bq, Cq]
    rfl
  have l2 : (List.range' 0 t.N).filterMap (fun i => (o i).map (t.hv b)) = (List.range' 0 ins).filterMap (fun i => (o i).map (t.hv b)) ++ ((List.range' ins (E - ins)).filterMap (fun i => (o i).map (t.hv b)) ++ (List.range' (E + 1) (t.N - 1 - E)).filterMap (fun i => (o i).map (t.hv b))) := by
    conv => lhs; rw [e2]
    rw [List.filterMap_append, List.filterMap_append, List.filterMap_cons, P.hE]
    rfl
  rw [l1, l2]
  exact List.perm_middle
end
end QS
end Mine
end
section
set_option Elab.async false
set_option linter.unusedVariables false
namespace Mine
namespace QS
section
variable {t t1 : QS} {b : Nat} {o : Nat → Option (Nat × Nat)} {c r ins E : Nat} {pr nr : Bool}
theorem fupd_ix {β : Type} (f : Nat → β) (v : β) {i j : Nat} (hi : i < t.N) (hj : j < t.N) : fupd f (t.ix b j) v (t.ix b i) = if i = j then v else f (t.ix b i) := by
  unfold fupd
  have : (t.ix b i = t.ix b j) ↔ i = j := ⟨t.ix_inj hi hj, fun h => by rw [h]⟩
  simp only [this]
structure Shf (t t1 : QS) (b ins j : Nat) : Prop where
  q : t1.q = t.q
  au : t1.auto = t.auto
  hf : t1.hf = t.hf
  cn : t1.cnt = t.cnt
  oc : t1.occ = t.occ
  co : ∀ i, i < t.N → t1.con (t.ix b i) = if i = ins then t.con (t.ix b j) else if ins < i ∧ i ≤ j then t.con (t.ix b (i - 1)) else t.con (t.ix b i)
  fi : ∀ i, i < t.N → t1.fil (t.ix b i) = if i = ins then t.fil (t.ix b j) else if ins < i ∧ i ≤ j then t.fil (t.ix b (i - 1)) else t.fil (t.ix b i)
  sh : ∀ i, i < t.N → t1.shi (t.ix b i) = if ins < i ∧ i ≤ j then true else t.shi (t.ix b i)
theorem Shf.refl : Shf t t b ins ins := ⟨rfl, rfl, rfl, rfl, rfl, fun i _ => by
    by_cases h : i = ins
    · subst h; rw [if_pos rfl]
    · rw [if_neg h, if_neg (by omega)], fun i _ => by
    by_cases h : i = ins
    · subst h; rw [if_pos rfl]
    · rw [if_neg h, if_neg (by omega)], fun i _ => by rw [if_neg (by omega)]⟩
theorem Shf.step {j : Nat} (S : Shf t t1 b ins j) (hj : j + 1 < t.N) (hij : ins ≤ j) : Shf t (t1.sstep (t.ix b ins) (t.ix b (j + 1))) b ins (j + 1) := by
  refine ⟨S.q, S.au, S.hf, S.cn, S.oc, fun i hi => ?_, fun i hi => ?_, fun i hi => ?_⟩
  · show fupd (fupd t1.con (t.ix b (j + 1)) (t1.con (t.ix b ins))) (t.ix b ins) (t1.con (t.ix b (j + 1))) (t.ix b i) = _
    rw [fupd_ix _ _ hi (by omega), fupd_ix _ _ hi hj, S.co (j + 1) hj, S.co ins (by omega), S.co i hi]
    rw [if_neg (show ¬ j + 1 = ins by omega), if_neg (show ¬ (ins < j + 1 ∧ j + 1 ≤ j) by omega), if_pos (rfl : ins = ins)]
    by_cases h1 : i = ins
    · rw [if_pos h1, if_pos h1]
    · rw [if_neg h1, if_neg h1, if_neg h1]
      by_cases h2 : i = j + 1
      · subst h2; rw [if_pos rfl, if_pos (by omega), Nat.add_sub_cancel]
      · rw [if_neg h2]
        by_cases h3 : ins < i ∧ i ≤ j
        · rw [if_pos h3, if_pos (by omega)]
        · rw [if_neg h3, if_neg (by omega)]
  · show fupd (fupd t1.fil (t.ix b (j + 1)) (t1.fil (t.ix b ins))) (t.ix b ins) (t1.fil (t.ix b (j + 1))) (t.ix b i) = _
    rw [fupd_ix _ _ hi (by omega), fupd_ix _ _ hi hj, S.fi (j + 1) hj, S.fi ins (by omega), S.fi i hi]
    rw [if_neg (show ¬ j + 1 = ins by omega), if_neg (show ¬ (ins < j + 1 ∧ j + 1 ≤ j) by omega), if_pos (rfl : ins = ins)]
    by_cases h1 : i = ins
    · rw [if_pos h1, if_pos h1]
    · rw [if_neg h1, if_neg h1, if_neg h1]
      by_cases h2 : i = j + 1
      · subst h2; rw [if_pos rfl, if_pos (by omega), Nat.add_sub_cancel]
      · rw [if_neg h2]
        by_cases h3 : ins < i ∧ i ≤ j
        · rw [if_pos h3, if_pos (by omega)]
        · rw [if_neg h3, if_neg (by omega)]
  · show fupd t1.shi (t.ix b (j + 1)) true (t.ix b i) = _
    rw [fupd_ix _ _ hi hj, S.sh i hi]
    by_cases h2 : i = j + 1
    · subst h2; rw [if_pos rfl, if_pos (by omega)]
    · rw [if_neg h2]
      by_cases h3 : ins < i ∧ i ≤ j
      · rw [if_pos h3, if_pos (by omega)]
      · rw [if_neg h3, if_neg (by omega)]
theorem Shf.emp {j : Nat} (S : Shf t t1 b ins j) (hj : j + 1 < t.N) (hij : ins ≤ j) : t1.emp (t.ix b (j + 1)) = t.emp (t.ix b (j + 1)) := by
  unfold QS.emp
  rw [S.oc, S.co _ hj, S.sh _ hj, if_neg (by omega), if_neg (by omega), if_neg (by omega)]
theorem Shf.nx {j : Nat} (S : Shf t t1 b ins j) (x : Nat) : t1.nx x = t.nx x := by unfold QS.nx QS.N; rw [S.q]
theorem sloop_spec (L : Lin t b o) (hE : o E = none) (EN : E < t.N) (us : ∀ p, ins ≤ p → p < E → ∃ x, o p = some x) : ∀ d j t1 f, j + 1 + d = E → ins ≤ j → d < f → Shf t t1 b ins j → ∃ t2, QS.sloop (t.ix b ins) f t1 (t.ix b (j + 1)) = some t2 ∧ Shf t t2 b ins E := by
  intro d
  induction d with
  | zero =>
    intro j t1 f h1 h2 h3 S
    obtain ⟨f, rfl⟩ : ∃ g, f = g + 1 := ⟨f - 1, by omega⟩
    have he : t1.emp (t.ix b (j + 1)) = true := by rw [S.emp (by omega) h2]; exact (L.emp_iff (by omega)).mpr (by rw [show j + 1 = E by omega]; exact hE)
    refine ⟨t1.sstep (t.ix b ins) (t.ix b (j + 1)), by simp only [QS.sloop, he, if_true], ?_⟩
    have := S.step (by omega) h2
    rw [show j + 1 = E by omega] at this ⊢
    exact this
  | succ d ih =>
    intro j t1 f h1 h2 h3 S
    obtain ⟨f, rfl⟩ : ∃ g, f = g + 1 := ⟨f - 1, by omega⟩
    obtain ⟨⟨k, r1⟩, h⟩ := us (j + 1) (by omega) (by omega)
    have he : t1.emp (t.ix b (j + 1)) = false := by rw [S.emp (by omega) h2]; exact L.emp_f (by omega) h
    simp only [QS.sloop, he, Bool.false_eq_true, if_false]
    rw [S.nx, nx_ix]
    exact ih (j + 1) _ f (by omega) (by omega) (by omega) (S.step (by omega) h2)
theorem sins_spec (L : Lin t b o) (P : Plc t b o c r ins E pr nr) {T : Nat} {flag : Bool} (hT : T < t.N) (hpr : pr = decide (ins ≠ T)) (hnr : ins < E → nr = (flag || t.con (t.ix b ins))) :
    ∃ t1, t.sins (t.ix b c) r (t.ix b T) (t.ix b ins) flag = some t1 ∧ Desc t { t1 with cnt := t1.cnt + 1 } b c r ins E pr nr := by
  have iE := P.iE
  have EN := P.EN
  have ci := P.ci
  have dT : decide (t.ix b ins ≠ t.ix b T) = decide (ins ≠ T) := by
    have : (t.ix b ins = t.ix b T) ↔ ins = T := ⟨t.ix_inj (by omega) hT, fun h => by rw [h]⟩
    simp only [ne_eq, this]
  have dc : decide (t.ix b ins ≠ t.ix b c) = decide (ins ≠ c) := by
    have : (t.ix b ins = t.ix b c) ↔ ins = c := ⟨t.ix_inj (by omega) (by omega), fun h => by rw [h]⟩
    simp only [ne_eq, this]
  unfold QS.sins
  rcases Nat.lt_or_ge ins E with q | q
  · obtain ⟨⟨k, r1⟩, h⟩ := P.us ins (Nat.le_refl _) q
    have he : t.emp (t.ix b ins) = false := L.emp_f (by omega) h
    rw [if_neg (by rw [he]; decide), nx_ix]
    obtain ⟨t2, h2, S⟩ := sloop_spec L P.hE EN P.us (E - (ins + 1)) ins t (t.N + 1) (by omega) (Nat.le_refl _) (by omega) Shf.refl
    rw [h2, Option.map_some]
    have hnx : ∀ x, t2.nx x = t.nx x := S.nx
    refine ⟨_, rfl, ?_⟩
    have hO : ∀ i, i < t.N → fupd t2.occ (t.ix b c) true (t.ix b i) = (t.occ (t.ix b i) || decide (i = c)) := fun i hi => by
      rw [fupd_ix _ _ hi (by omega), S.oc]
      by_cases z : i = c
      · rw [if_pos z, decide_eq_true z, Bool.or_true]
      · rw [if_neg z, decide_eq_false z, Bool.or_false]
    have hF : ∀ i, i < t.N → fupd t2.fil (t.ix b ins) r (t.ix b i) = if i = ins then r else if ins < i ∧ i ≤ E then t.fil (t.ix b (i - 1)) else t.fil (t.ix b i) := fun i hi => by
      rw [fupd_ix _ _ hi (by omega), S.fi i hi]
      by_cases z : i = ins
      · rw [if_pos z, if_pos z]
      · rw [if_neg z, if_neg z, if_neg z]
    have hS : ∀ i, i < t.N → fupd t2.shi (t.ix b ins) (decide (t.ix b ins ≠ t.ix b c)) (t.ix b i) = if i = ins then decide (ins ≠ c) else if ins < i ∧ i ≤ E then true else t.shi (t.ix b i) := fun i hi => by
      rw [fupd_ix _ _ hi (by omega), dc, S.sh i hi]
    have hC : ∀ i, i < t.N → fupd t2.con (t.ix b ins) (decide (t.ix b ins ≠ t.ix b T)) (t.ix b i) = if i = ins then pr else if ins < i ∧ i ≤ E then t.con (t.ix b (i - 1)) else t.con (t.ix b i) := fun i hi => by
      rw [fupd_ix _ _ hi (by omega), dT, ← hpr, S.co i hi]
      by_cases z : i = ins
      · rw [if_pos z, if_pos z]
      · rw [if_neg z, if_neg z, if_neg z]
    cases flag with
    | false =>
      simp only [Bool.false_eq_true, if_false]
      refine ⟨S.q, S.au, S.hf, by show t2.cnt + 1 = _; rw [S.cn], hO, hF, fun i hi => ?_, hS⟩
      refine (hC i hi).trans ?_
      by_cases z : i = ins
      · rw [if_pos z, if_pos z]
      · rw [if_neg z, if_neg z]
        by_cases z2 : i = ins + 1 ∧ i ≤ E
        · rw [if_pos z2, if_pos (by omega), hnr q, z2.1, Nat.add_sub_cancel, Bool.false_or]
        · rw [if_neg z2]
    | true =>
      simp only [if_true]
      refine ⟨S.q, S.au, S.hf, by show t2.cnt + 1 = _; rw [S.cn], hO, hF, fun i hi => ?_, hS⟩
      show fupd (fupd t2.con (t.ix b ins) (decide (t.ix b ins ≠ t.ix b T))) (t2.nx (t.ix b ins)) true (t.ix b i) = _
      rw [hnx, nx_ix, fupd_ix _ _ hi (by omega), hC i hi]
      by_cases z : i = ins
      · rw [if_neg (by omega), if_pos z, if_pos z]
      · rw [if_neg z, if_neg z]
        by_cases z2 : i = ins + 1 ∧ i ≤ E
        · rw [if_pos z2.1, if_pos z2, hnr q, Bool.true_or]
        · rw [if_neg z2, if_neg (by omega)]
  · have e : ins = E := by omega
    have he : t.emp (t.ix b ins) = true := (L.emp_iff (by omega)).mpr (by rw [e]; exact P.hE)
    rw [if_pos he]
    refine ⟨_, rfl, rfl, rfl, rfl, rfl, fun i hi => ?_, fun i hi => ?_, fun i hi => ?_, fun i hi => ?_⟩
    · show fupd t.occ (t.ix b c) true (t.ix b i) = _
      rw [fupd_ix _ _ hi (by omega)]
      by_cases z : i = c
      · rw [if_pos z, decide_eq_true z, Bool.or_true]
      · rw [if_neg z, decide_eq_false z, Bool.or_false]
    · show fupd t.fil (t.ix b ins) r (t.ix b i) = _
      rw [fupd_ix _ _ hi (by omega)]
      by_cases z : i = ins
      · rw [if_pos z, if_pos z]
      · rw [if_neg z, if_neg z, if_neg (by omega)]
    · show fupd t.con (t.ix b ins) (decide (t.ix b ins ≠ t.ix b T)) (t.ix b i) = _
      rw [fupd_ix _ _ hi (by omega), dT, ← hpr]
      by_cases z : i = ins
      · rw [if_pos z, if_pos z]
      · rw [if_neg z, if_neg z, if_neg (by omega), if_neg (by omega)]
    · show fupd t.shi (t.ix b ins) (decide (t.ix b ins ≠ t.ix b c)) (t.ix b i) = _
      rw [fupd_ix _ _ hi (by omega), dc]
      by_cases z : i = ins
      · rw [if_pos z, if_pos z]
      · rw [if_neg z, if_neg z, if_neg (by omega)]
theorem seek_spec (L : Lin t b o) (hx : ∀ p, p < t.N → o p ≠ some (c, r)) : ∀ d i f r0, i + d + 1 = t.N → d + 1 < f → o i = some (c, r0) → ∃ j s, t.seek r f (t.ix b i) 0 = some (t.ix b j, s) ∧ i ≤ j ∧ j < t.N ∧ (∀ p, i ≤ p → p < j → ∃ r', o p = some (c, r') ∧ r' < r) ∧
    ((s = 0 ∧ ∃ r', o j = some (c, r') ∧ r < r') ∨ (s = 1 ∧ i < j ∧ ∀ r', o j ≠ some (c, r'))) := by
  intro d
  induction d with
  | zero =>
    intro i f r0 h1 _ h
    rw [show i = t.N - 1 by omega, L.last] at h; cases h
  | succ d ih =>
    intro i f r0 h1 h2 h
    obtain ⟨f, rfl⟩ : ∃ g, f = g + 1 := ⟨f - 1, by omega⟩
    have he : t.emp (t.ix b i) = false := L.emp_f (by omega) h
    have hfi : t.fil (t.ix b i) = r0 := L.fi i c r0 (by omega) h
    simp only [QS.seek, he, hfi, nx_ix, true_and]
    by_cases q : r0 < r
    · rw [if_pos q]
      have hci : t.con (t.ix b (i + 1)) = true ↔ ∃ r', o (i + 1) = some (c, r') := by
        rw [L.co (i + 1) (by omega), Nat.add_sub_cancel, h]
        constructor
        · rintro ⟨k, r1, r2, _, g1, g2⟩; cases g2; exact ⟨r1, g1⟩
        · rintro ⟨r1, g1⟩; exact ⟨c, r1, r0, by omega, g1, rfl⟩
      by_cases z : t.con (t.ix b (i + 1)) = true
      · rw [if_pos z]
        obtain ⟨r1, g1⟩ := hci.mp z
        obtain ⟨j, s, a1, a2, a3, a4, a5⟩ := ih (i + 1) f r1 (by omega) (by omega) g1
        refine ⟨j, s, a1, by omega, a3, fun p p1 p2 => ?_, ?_⟩
        · rcases Nat.lt_or_ge i p with y | y
          · exact a4 p y p2
          · rw [show p = i by omega]; exact ⟨r0, h, q⟩
        · rcases a5 with y | ⟨y1, y2, y3⟩
          · exact .inl y
          · exact .inr ⟨y1, by omega, y3⟩
      · rw [if_neg z]
        obtain ⟨f, rfl⟩ : ∃ g, f = g + 1 := ⟨f - 1, by omega⟩
        refine ⟨i + 1, 1, by simp [QS.seek], by omega, by omega, fun p p1 p2 => ?_, .inr ⟨rfl, by omega, fun r' y => z (hci.mpr ⟨r', y⟩)⟩⟩
        rw [show p = i by omega]; exact ⟨r0, h, q⟩
    · rw [if_neg q]
      refine ⟨i, 0, rfl, Nat.le_refl _, by omega, fun p p1 p2 => by omega, .inl ⟨rfl, r0, h, ?_⟩⟩
      have : r0 ≠ r := fun e => hx i (by omega) (e ▸ h)
      omega
end
end QS
end Mine
end
section
set_option Elab.async false
set_option linter.unusedVariables false
namespace Mine
namespace QS
section
variable {t t' t1 : QS} {b : Nat} {o : Nat → Option (Nat × Nat)} {c r ins E : Nat} {pr nr : Bool} {S : List Nat}
theorem next_empty (L : Lin t b o) {ins : Nat} (hi : ins < t.N) : ∃ E, ins ≤ E ∧ E < t.N ∧ o E = none ∧ ∀ p, ins ≤ p → p < E → ∃ x, o p = some x := by
  obtain ⟨E, h1, h2, h3, h4⟩ := least (P := fun p => o p = none) (lo := ins) (n := t.N - 1 - ins) (by rw [show ins + (t.N - 1 - ins) = t.N - 1 by omega]; exact L.last)
  refine ⟨E, h1, by omega, h3, fun p p1 p2 => ?_⟩
  cases e : o p with
  | none => exact absurd e (h4 p p1 p2)
  | some x => exact ⟨x, rfl⟩
theorem add_desc (L : Lin t b o) (hc : c < t.N) (hcnt : t.cnt ≠ t.N) (hx : ∀ p, p < t.N → o p ≠ some (c, r)) : ∃ t' ins E pr nr, t.add (t.ix b c) r = some t' ∧ Plc t b o c r ins E pr nr ∧ Desc t t' b c r ins E pr nr := by
  unfold QS.add
  rw [if_neg hcnt]
  cases e : o c with
  | none =>
    have he := (L.emp_iff hc).mpr e
    rw [if_pos he]
    refine ⟨_, c, c, false, false, rfl, ⟨Nat.le_refl _, hc, e, fun p p1 p2 => (by omega), fun p k r' hp h => ?_, fun k r' h => (by rw [e] at h; cases h), Nat.le_refl _, fun p p1 p2 => (by omega), ?_, ?_⟩, rfl, rfl, rfl, rfl, fun i hi => ?_, fun i hi => ?_, fun i hi => ?_, fun i hi => ?_⟩
    · have := L.le p k r' (by omega) h; left; omega
    · simp only [Bool.false_eq_true, false_iff]
      rintro ⟨r', h0, h⟩
      have := L.le (c - 1) c r' (by omega) h; omega
    · simp only [Bool.false_eq_true, false_iff]
      rintro ⟨r', h⟩
      rw [e] at h; cases h
    · show fupd t.occ (t.ix b c) true (t.ix b i) = _
      rw [fupd_ix _ _ hi hc]
      by_cases z : i = c
      · rw [if_pos z, decide_eq_true z, Bool.or_true]
      · rw [if_neg z, decide_eq_false z, Bool.or_false]
    · show fupd t.fil (t.ix b c) r (t.ix b i) = _
      rw [fupd_ix _ _ hi hc]
      by_cases z : i = c
      · rw [if_pos z, if_pos z]
      · rw [if_neg z, if_neg z, if_neg (by omega)]
    · show t.con (t.ix b i) = _
      by_cases z : i = c
      · rw [if_pos z, z]; exact L.con_n hc e
      · rw [if_neg z, if_neg (by omega), if_neg (by omega)]
    · show t.shi (t.ix b i) = _
      by_cases z : i = c
      · rw [if_pos z, z, decide_eq_false (by simp)]
        cases y : t.shi (t.ix b c) with
        | false => rfl
        | true => obtain ⟨k, r1, h, _⟩ := (L.si c hc).mp y; rw [e] at h; cases h
      · rw [if_neg z, if_neg (by omega)]
  | some x =>
    have he : t.emp (t.ix b c) = false := L.emp_f (c := x.1) (r := x.2) hc e
    obtain ⟨T, hst, hT⟩ := start_spec L hc ⟨x, e⟩
    rw [if_neg (by rw [he]; decide), hst, Option.bind_some]
    have hTc := hT.con_at L
    cases ho : t.occ (t.ix b c) with
    | false =>
      rw [if_pos rfl]
      obtain ⟨E, h1, h2, h3, h4⟩ := next_empty L hT.lt
      have nq : ∀ p r', p < t.N → o p ≠ some (c, r') := fun p r' hp h => by
        have := (L.oc c hc).mpr ⟨p, r', hp, h⟩; rw [ho] at this; cases this
      have P : Plc t b o c r T E false false := by
        refine ⟨h1, h2, h3, h4, fun p k r' hp h => .inl (hT.lo p k r' hp h), fun k r' h => .inl ?_, hT.ge, hT.us, ?_, ?_⟩
        · have := hT.hi k r' h
          have : k ≠ c := fun q => nq T r' hT.lt (q ▸ h)
          omega
        · simp only [Bool.false_eq_true, false_iff]
          rintro ⟨r', _, h⟩
          exact nq (T - 1) r' (by have := hT.lt; omega) h
        · simp only [Bool.false_eq_true, false_iff]
          rintro ⟨r', h⟩
          exact nq T r' hT.lt h
      obtain ⟨t1, g1, g2⟩ := sins_spec L P (T := T) (flag := false) hT.lt (by simp) (fun _ => by rw [hTc]; rfl)
      rw [g1, Option.map_some]
      exact ⟨_, T, E, _, _, rfl, P, g2⟩
    | true =>
      rw [if_neg (by simp)]
      obtain ⟨r0, h0⟩ := hT.occ_at L hc ho
      have hTl := hT.lt
      obtain ⟨i, s, a1, a2, a3, a4, a5⟩ := seek_spec L (r := r) hx (t.N - 1 - T) T (2 * t.N) r0 (by omega) (by omega) h0
      rw [a1, Option.bind_some]
      obtain ⟨E, h1, h2, h3, h4⟩ := next_empty L a3
      have hlo : ∀ p k r', p < i → o p = some (k, r') → k < c ∨ (k = c ∧ r' < r) := fun p k r' hp h => by
        rcases Nat.lt_or_ge p T with q | q
        · exact .inl (hT.lo p k r' q h)
        · obtain ⟨r2, g1, g2⟩ := a4 p q hp
          rw [h] at g1; cases g1; exact .inr ⟨rfl, g2⟩
      have huc : ∀ p, c ≤ p → p < i → ∃ x, o p = some x := fun p p1 p2 => by
        rcases Nat.lt_or_ge p T with q | q
        · exact hT.us p p1 q
        · obtain ⟨r2, g1, g2⟩ := a4 p q p2; exact ⟨_, g1⟩
      have hpr : (decide (i ≠ T)) = true ↔ ∃ r', 0 < i ∧ o (i - 1) = some (c, r') := by
        rw [decide_eq_true_eq]
        constructor
        · intro h
          obtain ⟨r2, g1, g2⟩ := a4 (i - 1) (by omega) (by omega)
          exact ⟨r2, by omega, g1⟩
        · rintro ⟨r', h5, h6⟩ q
          subst q
          have := hT.lo (i - 1) c r' (by omega) h6; omega
      rcases a5 with ⟨rfl, r', g1, g2⟩ | ⟨rfl, g1, g2⟩
      · have P : Plc t b o c r i E (decide (i ≠ T)) true := by
          refine ⟨h1, h2, h3, h4, hlo, fun k r1 h => ?_, by have := hT.ge; omega, huc, hpr, ?_⟩
          · rw [g1] at h; cases h; exact .inr ⟨rfl, g2⟩
          · exact ⟨fun _ => ⟨r', g1⟩, fun _ => rfl⟩
        obtain ⟨t1, k1, k2⟩ := sins_spec L P (T := T) (flag := true) hT.lt rfl (fun _ => by rw [Bool.true_or])
        have : (decide ((0 : Nat) ≠ 1)) = true := by decide
        dsimp only
        rw [this, k1, Option.map_some]
        exact ⟨_, i, E, _, _, rfl, P, k2⟩
      · have hcf : t.con (t.ix b i) = false := by
          cases e2 : o i with
          | none => exact L.con_n a3 e2
          | some y =>
            obtain ⟨k, r1⟩ := y
            refine L.con_f a3 e2 fun c1 r2 _ h5 q => ?_
            obtain ⟨r3, m1, m2⟩ := a4 (i - 1) (by omega) (by omega)
            rw [m1] at h5; cases h5
            exact g2 r1 (q ▸ e2)
        have P : Plc t b o c r i E (decide (i ≠ T)) false := by
          refine ⟨h1, h2, h3, h4, hlo, fun k r1 h => .inl ?_, by have := hT.ge; omega, huc, hpr, ?_⟩
          · obtain ⟨r3, m1, m2⟩ := a4 (i - 1) (by omega) (by omega)
            have := L.mono m1 i k r1 (by omega) a3 h
            have : k ≠ c := fun q => g2 r1 (q ▸ h)
            omega
          · simp only [Bool.false_eq_true, false_iff]
            rintro ⟨r', h⟩
            exact g2 r' h
        obtain ⟨t1, k1, k2⟩ := sins_spec L P (T := T) (flag := false) hT.lt rfl (fun _ => by rw [hcf]; rfl)
        have : (decide ((1 : Nat) ≠ 1)) = false := by decide
        dsimp only
        rw [this, k1, Option.map_some]
        exact ⟨_, i, E, _, _, rfl, P, k2⟩
/-- cells that stay empty, cells that do not -/
theorem Desc.emp_ne (L : Lin t b o) (P : Plc t b o c r ins E pr nr) (D : Desc t t' b c r ins E pr nr) {p : Nat} (hp : p < t.N) (hE : p ≠ E) (h : o p = none) : t'.emp (t.ix b p) = true := by
  have h1 : p ≠ c := fun q => by
    subst q
    rcases Nat.lt_or_ge p ins with z | z
    · obtain ⟨x, y⟩ := P.uc p (Nat.le_refl _) z; rw [h] at y; cases y
    · have := P.ci
      have e : p = ins := by omega
      rcases Nat.lt_or_ge p E with z2 | z2
      · obtain ⟨x, y⟩ := P.us p (by omega) z2; rw [h] at y; cases y
      · have := P.iE; omega
  have h2 : ¬ (ins ≤ p ∧ p ≤ E) := fun q => by
    obtain ⟨x, y⟩ := P.us p q.1 (by omega); rw [h] at y; cases y
  have iE := P.iE
  have he := (L.emp_iff hp).mpr h
  unfold QS.emp at he ⊢
  rw [D.hO p hp, D.hC p hp, D.hS p hp, if_neg (by omega), if_neg (by omega), if_neg (by omega), if_neg (by omega), if_neg (by omega), decide_eq_false h1, Bool.or_false]
  exact he
theorem Desc.emp_E (P : Plc t b o c r ins E pr nr) (D : Desc t t' b c r ins E pr nr) : t'.emp (t.ix b E) = false := by
  have iE := P.iE
  have hE := P.EN
  have hS := D.hS E hE
  have hO := D.hO E hE
  unfold QS.emp
  by_cases z : ins = E
  · rw [if_pos z.symm] at hS
    by_cases y : E = c
    · rw [decide_eq_true y, Bool.or_true] at hO; rw [hO]; rfl
    · rw [decide_eq_true (by omega)] at hS; rw [hS]; simp
  · rw [if_neg (by omega), if_pos (by omega)] at hS; rw [hS]; simp
end
theorem els_len {t : QS} {b : Nat} {o : Nat → Option (Nat × Nat)} : ∀ n lo, (∀ p, lo ≤ p → p < lo + n → ∃ x, o p = some x) → (t.els b o lo n).length = n := by
  intro n
  induction n with
  | zero => intro lo _; rfl
  | succ n ih =>
    intro lo h
    unfold els
    obtain ⟨x, hx⟩ := h lo (Nat.le_refl _) (by omega)
    rw [List.range'_succ, List.filterMap_cons, hx]
    have := ih (lo + 1) fun p h1 h2 => h p (by omega) (by omega)
    unfold els at this
    simp [this]
section
variable {t t' : QS} {S : List Nat} {x : Nat}
theorem Inv.base {t : QS} {S : List Nat} (I : Inv t S) : ∃ b o, b < t.N ∧ Lin t b o ∧ (t.els b o 0 t.N).Perm S := by
  obtain ⟨j, hj, he⟩ := I.ex
  obtain ⟨o, L, p⟩ := I.lin ((j + 1) % t.N) (Nat.mod_lt _ t.N_pos) (by rw [base_pv t hj]; exact he)
  exact ⟨_, o, Nat.mod_lt _ t.N_pos, L, p⟩
theorem hv_back {t : QS} {b o} (L : Lin t b o) {p c r : Nat} (hp : p < t.N) (h : o p = some (c, r)) : t.qr (t.hv b (c, r)) = t.ix b c ∧ t.rr (t.hv b (c, r)) = r := by
  have hr := L.rb p c r hp h
  have h0 : 0 < 2 ^ (32 - t.q) := Nat.two_pow_pos _
  unfold qr rr hv
  dsimp only
  constructor
  · rw [Nat.add_comm, Nat.add_mul_div_right _ _ h0, Nat.div_eq_of_lt hr, Nat.zero_add]
  · rw [Nat.add_comm, Nat.add_mul_mod_self_right, Nat.mod_eq_of_lt hr]
theorem mem_els {t : QS} {b o} (L : Lin t b o) {c : Nat} (hc : c < t.N) (hq : t.qr x = t.ix b c) : x ∈ t.els b o 0 t.N ↔ ∃ p, p < t.N ∧ o p = some (c, t.rr x) := by
  unfold els
  rw [List.mem_filterMap]
  constructor
  · rintro ⟨p, hp, h⟩
    rw [List.mem_range'_1] at hp
    obtain ⟨⟨k, r⟩, h1, h2⟩ := Option.map_eq_some_iff.mp h
    obtain ⟨g1, g2⟩ := hv_back L (by omega) h1
    subst h2
    rw [g1] at hq
    have := L.le p k r (by omega) h1
    have e := t.ix_inj (by omega) hc hq
    subst e
    exact ⟨p, by omega, by rw [g2]; exact h1⟩
  · rintro ⟨p, hp, h⟩
    refine ⟨p, by rw [List.mem_range'_1]; omega, ?_⟩
    rw [h]
    show some (t.ix b c * 2 ^ (32 - t.q) + t.rr x) = some x
    rw [← hq]
    congr 1
    exact Nat.div_add_mod' x _
theorem Inv.lk (I : Inv t S) (hx : x < 2 ^ 32) : ∃ l, t.lk x = some l ∧ (l ≠ -1 ↔ x ∈ S) := by
  obtain ⟨b, o, hb, L, hp⟩ := I.base
  obtain ⟨c, hc, hq⟩ := t.ix_ex hb (t.qr_lt hx I.q5)
  obtain ⟨l, h1, h2⟩ := loc_spec L (r := t.rr x) hc
  refine ⟨l, by unfold QS.lk; rw [← hq]; exact h1, h2.trans ?_⟩
  rw [← hp.mem_iff, mem_els L hc hq.symm]
theorem Inv.add (I : Inv t S) (hx : x < 2 ^ 32) (hS : x ∉ S) (hn : S.length + 1 < t.N) : ∃ t', t.add (t.qr x) (t.rr x) = some t' ∧ Inv t' (x :: S) ∧ t'.q = t.q ∧ t'.auto = t.auto ∧ t'.hf = t.hf := by
  have hcnt : t.cnt ≠ t.N := by rw [I.cnt]; omega
  have hr : t.rr x < 2 ^ (32 - t.q) := Nat.mod_lt _ (Nat.two_pow_pos _)
  have go : ∀ b o, b < t.N → Lin t b o → (t.els b o 0 t.N).Perm S → ∃ t' c ins E pr nr, c < t.N ∧ t.qr x = t.ix b c ∧ t.add (t.qr x) (t.rr x) = some t' ∧ Plc t b o c (t.rr x) ins E pr nr ∧ Desc t t' b c (t.rr x) ins E pr nr := by
    intro b o hb L hp
    obtain ⟨c, hc, hq⟩ := t.ix_ex hb (t.qr_lt hx I.q5)
    obtain ⟨t', ins, E, pr, nr, h1, h2, h3⟩ := add_desc L (r := t.rr x) hc hcnt fun p hpl h => hS ((hp.mem_iff).mp ((mem_els L hc hq.symm).mpr ⟨p, hpl, h⟩))
    exact ⟨t', c, ins, E, pr, nr, hc, hq.symm, by rw [← hq]; exact h1, h2, h3⟩
  obtain ⟨b0, o0, hb0, L0, hp0⟩ := I.base
  obtain ⟨t', c0, i0, E0, p0, n0, hc0, hq0, hadd, P0, D0⟩ := go b0 o0 hb0 L0 hp0
  refine ⟨t', hadd, ⟨by rw [D0.q]; exact I.q3, by rw [D0.q]; exact I.q5, by rw [D0.cn, I.cnt]; rfl, ?_, ?_⟩, D0.q, D0.au, D0.hf⟩
  · rw [D0.N]
    by_cases hEl : E0 = t.N - 1
    · have hN := t.N_pos
      have : ∃ p, p < t.N - 1 ∧ o0 p = none := by
        by_cases z : ∃ p, p < t.N - 1 ∧ o0 p = none
        · exact z
        · exfalso
          have hl := els_len (t := t) (b := b0) (o := o0) (t.N - 1) 0 fun p _ h2 => by
            cases e : o0 p with
            | none => exact absurd ⟨p, by omega, e⟩ z
            | some y => exact ⟨y, rfl⟩
          have hlen := hp0.length_eq
          have : t.els b0 o0 0 t.N = t.els b0 o0 0 (t.N - 1) := by
            unfold els
            have e : t.N = (t.N - 1) + 1 := by omega
            have : ∀ n, n = (t.N - 1) + 1 → (List.range' 0 n).filterMap (fun i => (o0 i).map (t.hv b0)) = (List.range' 0 (t.N - 1)).filterMap (fun i => (o0 i).map (t.hv b0)) := by
              rintro n rfl
              rw [List.range'_1_concat, List.filterMap_append, Nat.zero_add]
              simp [L0.last]
            exact this _ e
          rw [this, hl] at hlen
          omega
      obtain ⟨p, hp1, hp2⟩ := this
      exact ⟨t.ix b0 p, t.ix_lt _ _, D0.emp_ne L0 P0 (by omega) (by omega) hp2⟩
    · exact ⟨t.ix b0 (t.N - 1), t.ix_lt _ _, D0.emp_ne L0 P0 (by have := t.N_pos; omega) (by omega) L0.last⟩
  · intro b hb he
    rw [D0.N] at hb he
    have hN := t.N_pos
    have hbase : ∀ (b : Nat), (b + t.N - 1) % t.N = t.ix b (t.N - 1) := fun b => by unfold ix; congr 1; omega
    have he0 : t.emp ((b + t.N - 1) % t.N) = true := by
      obtain ⟨j, hj, e⟩ := t.ix_ex hb0 (Nat.mod_lt (b + t.N - 1) t.N_pos)
      rw [← e] at he ⊢
      rw [L0.emp_iff hj]
      cases z : o0 j with
      | none => rfl
      | some y =>
        exfalso
        obtain ⟨k, r1⟩ := y
        have iE := P0.iE
        have h1 : t.emp (t.ix b0 j) = false := L0.emp_f hj z
        unfold QS.emp at he h1
        rw [D0.hO j hj, D0.hC j hj, D0.hS j hj] at he
        have hle := L0.le j k r1 hj z
        by_cases y1 : j = i0
        · subst y1
          rw [if_pos rfl, if_pos rfl] at he
          by_cases y2 : j = c0
          · simp [y2] at he
          · simp [y2] at he
        · by_cases y2 : i0 < j ∧ j ≤ E0
          · rw [if_neg y1, if_neg y1, if_pos y2] at he
            simp at he
            have := he.2.1
            omega
          · rw [if_neg y1, if_neg (by omega), if_neg y2, if_neg y1, if_neg y2] at he
            simp only [Bool.and_eq_true, Bool.not_eq_true', Bool.or_eq_false_iff] at he
            simp [he.1.1.1, he.1.2, he.2] at h1
    obtain ⟨o, L, hp⟩ := I.lin b hb he0
    obtain ⟨t2, c, ins, E, pr, nr, hc, hq, hadd2, P, D⟩ := go b o hb L hp
    rw [hadd] at hadd2
    cases hadd2
    have hE : E + 1 < t.N := by
      have := P.EN
      rcases Nat.lt_or_ge (E + 1) t.N with z | z
      · exact z
      · exfalso
        have e : E = t.N - 1 := by omega
        have := D.emp_E P
        rw [e, ← hbase, he] at this; cases this
    refine ⟨_, lin_of L P D hr hE, (els_of P D).trans ?_⟩
    have : t.hv b (c, t.rr x) = x := by
      show t.ix b c * 2 ^ (32 - t.q) + t.rr x = x
      rw [← hq]; exact Nat.div_add_mod' x _
    rw [this]
    exact hp.cons x
theorem Inv.new {q : Nat} {auto : Bool} {hf : Nat} (h3 : 3 ≤ q) (h5 : q ≤ 5) : Inv (.new q auto hf) [] := by
  refine ⟨h3, h5, rfl, ⟨0, Nat.two_pow_pos _, rfl⟩, fun b hb _ => ⟨fun _ => none, ⟨rfl, ?_, ?_, ?_, ?_, ?_, ?_, ?_, ?_⟩, ?_⟩⟩
  · intro i c r _ h; cases h
  · intro i c r _ h; cases h
  · intro i c r c' r' _ h; cases h
  · intro i _; exact ⟨fun h => (by cases h), fun ⟨p, r, _, h⟩ => by cases h⟩
  · intro i _; exact ⟨fun h => (by cases h), fun ⟨c, r, r', _, h, _⟩ => by cases h⟩
  · intro i _; exact ⟨fun h => (by cases h), fun ⟨c, r, h, _⟩ => by cases h⟩
  · intro i c r _ h; cases h
  · intro i c r _ h; cases h
  · unfold els
    have : ∀ l : List Nat, l.filterMap (fun i => (none : Option (Nat × Nat)).map (hv (.new q auto hf) b)) = [] := by
      intro l; induction l with
      | nil => rfl
      | cons y l ih => rw [List.filterMap_cons]; exact ih
    rw [this]
/-- adding, as the method does it without growth -/
theorem Inv.add1 (I : Inv t S) (hx : x < 2 ^ 32) (hn : S.length + 1 < t.N) : ∃ t', t.add1 x = some t' ∧ Inv t' (if x ∈ S then S else x :: S) ∧ t'.q = t.q ∧ t'.auto = t.auto ∧ t'.hf = t.hf := by
  obtain ⟨l, h1, h2⟩ := I.lk hx
  unfold QS.add1
  rw [h1, Option.bind_some]
  by_cases z : l = -1
  · have : x ∉ S := fun m => (h2.mpr m) z
    rw [if_pos z, if_neg this]
    exact I.add hx this hn
  · rw [if_neg z, if_pos (h2.mp z)]
    exact ⟨t, rfl, I, rfl, rfl, rfl⟩
end
end QS
end Mine
end
section
open PySem PySem.W PyProof.Rows PySem.Calls
set_option Elab.async false
set_option maxRecDepth 100000
set_option maxHeartbeats 4000000
set_option linter.unusedVariables false
set_option pp.deepTerms false
set_option pp.maxSteps 700
namespace Mine
theorem QS.Inv.perm {t : QS} {S S' : List Nat} (I : QS.Inv t S) (p : S.Perm S') : QS.Inv t S' :=
  ⟨I.q3, I.q5, by rw [I.cnt, p.length_eq], I.ex, fun b hb he => let ⟨o, L, q⟩ := I.lin b hb he; ⟨o, L, q.trans p⟩⟩
def addL (S : List Nat) (x : Nat) : List Nat := if x ∈ S then S else S ++ [x]
theorem addL_perm (S : List Nat) (x : Nat) : (if x ∈ S then S else x :: S).Perm (addL S x) := by
  unfold addL
  by_cases h : x ∈ S
  · rw [if_pos h, if_pos h]
  · rw [if_neg h, if_neg h]
    have := (List.perm_append_comm (l₁ := [x]) (l₂ := S))
    exact this
theorem addL_len {S : List Nat} {x : Nat} : (addL S x).length ≤ S.length + 1 := by
  unfold addL; split <;> simp
structure St (q : Nat) (auto : Bool) (hf : Addr) (S : List Nat) (t : QS) : Prop where
  I : QS.Inv t S
  nd : S.Nodup
  lt : ∀ x ∈ S, x < 2 ^ 32
  q : t.q = q
  au : t.auto = auto
  hf : t.hf = hf
theorem St.perm {q auto hf S S' t} (X : St q auto hf S t) (p : S.Perm S') : St q auto hf S' t :=
  ⟨X.I.perm p, p.nodup_iff.mp X.nd, fun x hx => X.lt x (p.mem_iff.mpr hx), X.q, X.au, X.hf⟩
theorem St.new {q : Nat} {auto : Bool} {hf : Addr} (h3 : 3 ≤ q) (h5 : q ≤ 5) : St q auto hf [] (.new q auto hf) := ⟨QS.Inv.new h3 h5, List.nodup_nil, nofun, rfl, rfl, rfl⟩
theorem St.add1 {q auto hf S t x} (X : St q auto hf S t) (hx : x < 2 ^ 32) (hn : S.length + 1 < 2 ^ q) : ∃ t', t.add1 x = some t' ∧ St q auto hf (addL S x) t' := by
  have hN : t.N = 2 ^ q := by unfold QS.N; rw [X.q]
  obtain ⟨t', h1, h2, h3, h4, h5⟩ := X.I.add1 hx (by rw [hN]; exact hn)
  refine ⟨t', h1, h2.perm (addL_perm S x), ?_, fun y hy => ?_, h3.trans X.q, h4.trans X.au, h5.trans X.hf⟩
  · unfold addL
    by_cases h : x ∈ S
    · rw [if_pos h]; exact X.nd
    · rw [if_neg h]
      exact List.nodup_append.mpr ⟨X.nd, by simp, fun a ha b hb => by rw [List.mem_singleton.mp hb]; exact fun e => h (e ▸ ha)⟩
  · unfold addL at hy
    by_cases h : x ∈ S
    · rw [if_pos h] at hy; exact X.lt y hy
    · rw [if_neg h] at hy
      rcases List.mem_append.mp hy with z | z
      · exact X.lt y z
      · rw [List.mem_singleton.mp z]; exact hx
theorem St.grow {q auto hf S t} (X : St q auto hf S t) : t.grow = (auto && decide (85 * 2 ^ q ≤ 100 * S.length)) := by
  unfold QS.grow QS.N
  rw [X.q, X.au, X.I.cnt]
/-- the width after a call -/
def gw (auto : Bool) (q k : Nat) : Nat := if (auto && decide (85 * 2 ^ q ≤ 100 * k)) = true then q + 1 else q
section
variable {prog : Program} {w : World} {n : Nat} {h h₀ : Heap} {env : Env} {nm : List Str} {vals : List (Option Value)} {a : Addr} {F : FP} {t : QS} {D : List Addr} {R ρ : Res} {s₀ s s' : Shared} {A : Around} {E : Value → Shared → Prop}
  {q : Nat} {auto : Bool} {hf : Addr} {S : List Nat}
theorem c_add0 (B : Bas (KK w) h₀) {args : List Value} {x : Nat} (gb : Gr h₀ s.heap) (X : QFAt s.heap a F t) (hB : ∀ b ∈ F.wr, h₀.get? b = none) (Y : St q auto hf S t) (hx : x < 2 ^ 32)
    (hg : (auto && decide (85 * 2 ^ q ≤ 100 * S.length)) = false) (hn : S.length + 1 < 2 ^ q) (ha : args.map er = [.ref a, vi (x : Int)]) (hn9 : 9 ≤ n) :
    MutP prog w n 295 args s F.wr (fun v s' => v = .none ∧ ∃ F' t', Fnew a s F F' ∧ QFAt s'.heap a F' t' ∧ St q auto hf (addL S x) t') :=
  q_add_alt B gb X hB hx (St q auto hf (addL S x)) (fun _ => Y.add1 hx hn) (fun h => by rw [Y.grow, hg] at h; cases h) ha hn9
theorem c_resize (B : Bas (KK w) h₀) {args args2 : List Value} {q' : Nat} {qv : Value} (wd : Nat → Nat) (gb : Gr h₀ s.heap) (X : QFAt s.heap a F t) (hB : ∀ b ∈ F.wr, h₀.get? b = none) (Y : St q auto hf S t) (hsz : S.length ≤ 1000)
    (h3 : 3 ≤ q') (h5 : q' ≤ 5) (hc : S.length < 2 ^ q') (h0 : wd 0 = q')
    (hstep : ∀ S1 (x : Nat) F1 t1 s1 m args, S1.length < S.length → St (wd S1.length) auto hf S1 t1 → x < 2 ^ 32 → Gr h₀ s1.heap → QFAt s1.heap a F1 t1 → (∀ b ∈ F1.wr, h₀.get? b = none) → n ≤ m + 1 → args.map er = [.ref a, vi (x : Int)] →
      MutP prog w m 295 args s1 F1.wr (fun v s' => v = .none ∧ ∃ F' t', Fnew a s1 F1 F' ∧ QFAt s'.heap a F' t' ∧ St (wd (S1.length + 1)) auto hf (addL S1 x) t'))
    (ha : args2.map er = [.ref a, qv]) (hqv : qv = .none ∧ q' = q + 1 ∧ args = [.ref a] ∧ args2 = [.ref a, .none] ∨ qv = vi (q' : Int) ∧ args2 = args) (hn : 20 ≤ n) :
    MutP prog w n 345 args s F.wr (fun v s' => v = .none ∧ ∃ F' t', Fnew a s F F' ∧ QFAt s'.heap a F' t' ∧ St (wd S.length) auto hf S t') := by
  obtain ⟨xs, hxs, hp⟩ := Y.I.hashes
  have hnd : xs.Nodup := hp.nodup_iff.mpr Y.nd
  have hlen := hp.length_eq
  refine fun A RR r k => q_resize (n := n) B (xs := xs) (fun k t' => St (wd k) auto hf (xs.take k) t') gb X hB hxs (by omega) h3 h5 (by rw [Y.I.cnt]; exact hc) ?_ ?_ ha (by rw [Y.q]; exact hqv) hn A RR r fun v s' p x => k v s' ?_ x
  · show St (wd 0) auto hf [] _
    rw [h0, Y.au, Y.hf]; exact St.new h3 h5
  · intro k x F1 t1 s1 m args hx hG g1 X1 hB1 hm ha1
    have hk := (List.getElem?_eq_some_iff.mp hx).1
    have hl : (xs.take k).length = k := by rw [List.length_take]; omega
    have hxm : x ∈ xs := List.mem_of_getElem? hx
    have hno : x ∉ xs.take k := fun m => by
      obtain ⟨i, hi, e⟩ := List.mem_iff_getElem.mp m
      rw [List.getElem_take] at e
      rw [hl] at hi
      have := (List.getElem?_eq_some_iff.mp hx).2
      have := nodup_inj hnd (by omega) hk (e.trans this.symm)
      omega
    have e : addL (xs.take k) x = xs.take (k + 1) := by
      unfold addL
      rw [if_neg hno, List.take_add_one, hx]; rfl
    have := hstep (xs.take k) x F1 t1 s1 m args (by rw [hl]; omega) (by rw [hl]; exact hG) (Y.lt x (hp.mem_iff.mp hxm)) g1 X1 hB1 hm ha1
    rw [hl, e] at this
    exact this
  · obtain ⟨hv, F', t', hF, hX, hG⟩ := p
    refine ⟨hv, F', t', hF, hX, ?_⟩
    rw [List.take_of_length_le (Nat.le_refl _), hlen] at hG
    exact hG.perm hp
/-- adding with growth -/
theorem c_add (B : Bas (KK w) h₀) {args : List Value} {x : Nat} (gb : Gr h₀ s.heap) (X : QFAt s.heap a F t) (hB : ∀ b ∈ F.wr, h₀.get? b = none) (Y : St q auto hf S t) (hx : x < 2 ^ 32) (h3 : 3 ≤ q) (h5 : gw auto q S.length ≤ 5) (hS : S.length < 2 ^ q)
    (hn : (auto && decide (85 * 2 ^ q ≤ 100 * S.length)) = false → S.length + 1 < 2 ^ q) (ha : args.map er = [.ref a, vi (x : Int)]) (hn9 : 22 ≤ n) :
    MutP prog w n 295 args s F.wr (fun v s' => v = .none ∧ ∃ F' t', Fnew a s F F' ∧ QFAt s'.heap a F' t' ∧ St (gw auto q S.length) auto hf (addL S x) t') := by
  refine q_add_alt B gb X hB hx (St (gw auto q S.length) auto hf (addL S x)) (fun hg => ?_) (fun hg s1 m g1 X1 hm => ?_) ha (by omega)
  · rw [Y.grow] at hg
    have : gw auto q S.length = q := by unfold gw; rw [if_neg (by rw [hg]; decide)]
    rw [this]
    exact Y.add1 hx (hn hg)
  · rw [Y.grow] at hg
    have hgq : gw auto q S.length = q + 1 := by unfold gw; rw [if_pos hg]
    rw [hgq] at h5 ⊢
    have hpow : 2 ^ (q + 1) = 2 * 2 ^ q := by rw [Nat.pow_succ]; omega
    have h8 : 8 ≤ 2 ^ q := Nat.le_trans (by decide : 8 ≤ 2 ^ 3) (Nat.pow_le_pow_right (by decide) h3)
    have h32 : 2 ^ q ≤ 32 := Nat.le_trans (Nat.pow_le_pow_right (by decide) (show q ≤ 5 by omega)) (by decide)
    refine fun A RR r k => c_resize (n := m) (q' := q + 1) (qv := .none) B (fun _ => q + 1) g1 X1 hB Y (by omega) (by omega) (by omega) (by omega) rfl ?_ (args := [.ref a]) (args2 := [.ref a, .none]) rfl (.inl ⟨rfl, rfl, rfl, rfl⟩) (by omega) A RR r fun v s' p x' => k v s' ?_ x'
    · intro S1 y F1 t1 s2 m2 args2 hl Z hy g2 X2 hB2 hm2 ha2
      have hlt : 100 * S1.length < 85 * 2 ^ (q + 1) := by omega
      exact c_add0 B g2 X2 hB2 Z hy (by rw [decide_eq_false (by omega), Bool.and_false]) (by omega) ha2 (by omega)
    · obtain ⟨hv, F', t', hF, hX, hG⟩ := p
      obtain ⟨t2, e1, e2⟩ := hG.add1 hx (by omega)
      exact ⟨hv, F', t', t2, hF, hX, e1, e2⟩
end
end Mine
end
section
open PySem PySem.W PyProof.Rows
set_option Elab.async false
set_option maxRecDepth 100000
set_option maxHeartbeats 8000000
set_option pp.deepTerms false
set_option pp.maxSteps 1500
set_option pp.proofs false
set_option linter.unusedVariables false
namespace Mine
structure LawCtx (w : World) (mg mb : Str → Option Value) (h : Heap) : Prop where
  inK : (KK w).In h
  g : h.Ns mainGlobals mg
  b : h.Ns builtinsNs mb
  bb : ∀ x : Str, x ≠ "__name__" → mb x = bootBuiltins x
  nl : h.NoLimit
  bm : ∃ bm ob, mg "__builtins__" = some (.ref bm) ∧ bm ≠ builtinsNs ∧ h.get? bm = some ob ∧ ob.cls = .type "module" ∧ ob.dict = some builtinsNs ∧ ob.data = .plain
  ct : CodeHd h 483 481
  tb : h.get? 481 = some (tabObj #[])
theorem law_top (hrun : ∀ w (s₁ : Shared) mg mb sa (items : List Value) (zs : List Int), LawCtx w mg mb s₁.heap → s₁.heap.IsList sa items.toArray → IntsAre items zs → zs.length ≤ 63 → s₁.gens = #[] →
    codeAny (model PySem.Challenge.rw_ew5018_01.row.prog w) callerA (.call (.ref 484) ⟨[.ref sa], []⟩) (fun r s' => r = .ok (.ret (.bool true)) ∧ SX [481] s₁ s' ∧ ∃ ps, s'.heap.get? 481 = some (tabObj ps)) s₁) : PySem.Challenge.rw_ew5018_01.Holds := by
  refine hd ?_
  intro w s₀ s₁ mg mb G Y fa o pm cd doc dV kV ho hd' hcd hD hmg hg args vals as hpre hlay hrd hwl hlo
  have KX := km_in_of Y
  have KT := km_tabs_of Y
  clear Y
  refine Ground.open G ?_
  intro T B D TE TW
  have hfa : fa = 484 := by
    have e := mg_of (n := "law") KX T.g (v := .ref 484) (by kernel_rfl)
    rw [show mg "law" = some (.ref fa) from hmg] at e
    cases e; rfl
  clear hmg hD hcd hd' ho B D TE TW G
  subst hfa
  have ct : CodeHd s₁.heap 483 481 := codeHd_of_K KX (by kernel_rfl)
  wrow_args hpre hlay hrd hwl hlo
  rename_i zs _ _ _ _ _ _ _ sa items _ hL _ _ _ hI _ hlen _
  refine enter_call ?_
  have tb := KT 481 (by simp)
  refine codeAny_mono (hrun w s₁ mg mb sa items zs ⟨KX, T.g, T.b, fun x hx => T.builtins x hx, T.nolimit, T.bmain, ct, tb⟩ hL hI (by omega) hg) fun r s' hr => ?_
  obtain ⟨rfl, x, ps, hps⟩ := hr
  refine ⟨.inl ⟨.bool true, _, [], rfl, fun _ => rfl, .bool true, ?_, fun _ => ⟨List.nodup_nil, fun a ha => nomatch ha⟩⟩, ⟨fun b o e => ?_, fun b o e => ?_⟩, x.os, x.gn.2 (.of_eq hg)⟩
  · first | kernel_rfl | (with_unfolding_all rfl)
  · by_cases hb : b = 481
    · subst hb
      rw [tb] at e; cases e
      exact .inr (.inl ⟨(ct.tab tb).isCodeTable, rfl, #[], ps, rfl, by rw [Array.empty_append]; exact hps⟩)
    · exact .inl (x.hp b o (by simpa using hb) e)
  · by_cases hb : b = 481
    · subst hb; exact ⟨_, hps⟩
    · exact ⟨o, x.hp b o (by simpa using hb) e⟩
end Mine
end
section
open PySem PySem.W PyProof.Rows PySem.Calls
set_option Elab.async false
set_option maxRecDepth 100000
set_option maxHeartbeats 8000000
set_option pp.deepTerms false
set_option pp.maxSteps 1500
set_option pp.proofs false
set_option linter.unusedVariables false
namespace Mine
theorem trim (l : Life) : ∀ (n : Nat) (objs : Array Obj), objs.size = n → (∃ (b : Nat) (o : Obj), (⟨objs, l⟩ : Heap).get? b = some o) → ∃ h' : Heap, (∀ b : Nat, h'.get? b = (⟨objs, l⟩ : Heap).get? b) ∧ ∃ (a : Nat) (o : Obj), h'.get? a = some o ∧ h'.objs.size ≤ a + 1 := by
  intro n
  induction n with
  | zero =>
    rintro objs h ⟨b, o, e⟩
    have h3 : b < objs.size := Heap.lt_size e
    omega
  | succ n ih =>
    rintro objs h hex
    cases e : (⟨objs, l⟩ : Heap).get? n with
    | some o => exact ⟨⟨objs, l⟩, fun _ => rfl, n, o, e, by show objs.size ≤ n + 1; omega⟩
    | none =>
      have hp : ∀ b : Nat, (⟨objs.pop, l⟩ : Heap).get? b = (⟨objs, l⟩ : Heap).get? b := fun b => by
        by_cases hb : b < n
        · unfold Heap.get?
          have : objs.pop[b]? = objs[b]? := by rw [Array.getElem?_pop, if_pos (by omega)]
          show (match objs.pop[b]? with | some ⟨_, _, .freed, _⟩ => none | o => o) = (match objs[b]? with | some ⟨_, _, .freed, _⟩ => none | o => o)
          rw [this]
        · have h1 : (⟨objs.pop, l⟩ : Heap).get? b = none := Heap.get?_none_of_le (by show objs.pop.size ≤ b; rw [Array.size_pop]; omega)
          rw [h1]
          by_cases hb2 : b = n
          · rw [hb2, e]
          · exact (Heap.get?_none_of_le (by show objs.size ≤ b; omega)).symm
      obtain ⟨b, o, hb⟩ := hex
      obtain ⟨h', h1, h2⟩ := ih objs.pop (by rw [Array.size_pop]; omega) ⟨b, o, by rw [hp]; exact hb⟩
      exact ⟨h', fun b => (h1 b).trans (hp b), h2⟩
theorem law_base {w : World} {mg mb : Str → Option Value} {h : Heap} (X : LawCtx w mg mb h) : ∃ h₀, Bas (KK w) h₀ ∧ Gr h₀ h ∧ h₀.get? 481 = none ∧ (∀ b o, b ≠ 481 → h.get? b = some o → h₀.get? b = some o) := by
  have hT : TabsAt [(483, 481)] h := List.forall_mem_cons.mpr ⟨⟨X.ct, X.tb⟩, fun _ h => nomatch h⟩
  have K0 : (KK w).In (ghostOf h [(483, 481)]) := ghost_K hT X.inK (by kernel_rfl)
  have g0 := ghost_ns hT X.g
  obtain ⟨h₀, e1, e2⟩ := trim (ghostOf h [(483, 481)]).life _ (ghostOf h [(483, 481)]).objs rfl (by obtain ⟨o, es, ep, e, r⟩ := g0; exact ⟨_, o, e⟩)
  have e1' : ∀ b, h₀.get? b = (ghostOf h [(483, 481)]).get? b := e1
  have up : Gr (ghostOf h [(483, 481)]) h₀ := fun b o e => (e1' b).trans e
  refine ⟨h₀, ⟨K0.keeps up, ?_, ⟨mg, g0.keeps up⟩, ⟨mb, (ghost_ns hT X.b).keeps up, X.bb⟩, e2⟩, fun b o e => ?_, ?_, fun b o hb e => up b o (ghost_ne e (by simpa using hb))⟩
  · obtain ⟨mc, a, r⟩ := X.nl
    exact ⟨mc, (ghost_ns hT a).keeps up, r⟩
  · rw [e1'] at e
    exact of_hideAll _ e
  · rw [e1']; exact hideAll_none _ (by simp)
end Mine
end
section
open PySem PySem.W PyProof.Rows PySem.Calls
set_option Elab.async false
set_option maxRecDepth 100000
set_option maxHeartbeats 8000000
set_option pp.deepTerms false
set_option pp.maxSteps 1500
set_option pp.proofs false
set_option linter.unusedVariables false
namespace Mine
/-! many things owned side by side -/
def Res.all (rs : List Res) : Res := ⟨fun b => ∃ r ∈ rs, r.fp b, fun h => ∀ r ∈ rs, r.I h, fun h h' k x r hr => r.st h h' (fun b o f e => k b o ⟨r, hr, f⟩ e) (x r hr), fun h x b ⟨r, hr, f⟩ => r.ex h (x r hr) b f⟩
def Apart (a b : Res) : Prop := ∀ x, a.fp x → b.fp x → False
def PW (rs : List Res) : Prop := rs.Pairwise Apart
def Res.cell (c : Addr) (v : Option Value) : Res := ⟨fun b => b = c, fun h => ∃ v', h.IsCell c v' ∧ v'.map er = v, fun h h' k ⟨v', ⟨o, e, d⟩, y⟩ => ⟨v', ⟨o, k c o rfl e, d⟩, y⟩, fun h ⟨v', ⟨o, e, d⟩, y⟩ b hb => ⟨o, by rw [show b = c from hb]; exact e⟩⟩
theorem Apart.symm {a b : Res} (h : Apart a b) : Apart b a := fun x q1 q2 => h x q2 q1
theorem PW.get {rs : List Res} (p : PW rs) {i j : Nat} (hi : i < rs.length) (hj : j < rs.length) (hn : i ≠ j) : Apart rs[i] rs[j] := by
  have h := List.pairwise_iff_getElem.mp p
  rcases Nat.lt_or_ge i j with q | q
  · exact h i j hi hj q
  · exact (h j i hj hi (by omega)).symm
section
variable {K : Frag} {h₀ : Heap} {env : Env} {nm : List Str} {vals : List (Option Value)} {D D' : List Addr} {R : Res} {s₀ s s' : Shared} {rs : List Res} {r r' : Res} {i : Nat}
theorem Act.res (H : Act K h₀ env nm vals D (.all rs) R s₀ s) (hi : rs[i]? = some r) : r.I s.heap := H.own r (List.mem_of_getElem? hi)
theorem Act.upd (H : Act K h₀ env nm vals D (.all rs) R s₀ s) (p : PW rs) (hi : rs[i]? = some r) (x : SX D' s s') (hD : ∀ b ∈ D', r.fp b ∧ h₀.get? b = none ∧ (b ∈ D ∨ s₀.heap.get? b = none)) (hI : r'.I s'.heap) (hf : ∀ b, r'.fp b → r.fp b ∨ s.heap.get? b = none) :
    Act K h₀ env nm vals D (.all (rs.set i r')) R s₀ s' ∧ PW (rs.set i r') := by
  obtain ⟨hl, he⟩ := List.getElem?_eq_some_iff.mp hi
  have hr : r ∈ rs := List.mem_of_getElem? hi
  have oth : ∀ j (hj : j < rs.length), j ≠ i → ∀ b, r.fp b → ¬ rs[j].fp b := fun j hj hn b q1 q2 => (p.get hl hj (Ne.symm hn)) b (he ▸ q1) q2
  have new : ∀ {b} {q : Res}, q ∈ rs → q.fp b → s.heap.get? b = none → False := fun hq hf e => by obtain ⟨o, z⟩ := Res.ex _ _ (H.own _ hq) _ hf; rw [e] at z; cases z
  refine ⟨H.mut x (fun b hb => ⟨⟨r, hr, (hD b hb).1⟩, (hD b hb).2⟩) (fun q hq => ?_) (fun b ⟨q, hq, f⟩ => ?_), List.pairwise_iff_getElem.mpr fun j k hj hk hjk => ?_⟩
  · obtain ⟨j, hj, rfl⟩ := List.mem_iff_getElem.mp hq
    rw [List.length_set] at hj
    by_cases e : i = j
    · subst e; rw [List.getElem_set_self]; exact hI
    · rw [List.getElem_set_ne e]
      exact Res.I_off (H.own _ (List.getElem_mem hj)) x fun b hb q => oth j hj (Ne.symm e) b (hD b hb).1 q
  · obtain ⟨j, hj, rfl⟩ := List.mem_iff_getElem.mp hq
    rw [List.length_set] at hj
    by_cases e : i = j
    · subst e; rw [List.getElem_set_self] at f
      exact (hf b f).imp (fun z => ⟨r, hr, z⟩) id
    · rw [List.getElem_set_ne e] at f; exact .inl ⟨_, List.getElem_mem hj, f⟩
  · rw [List.length_set] at hj hk
    have side : ∀ j (hj : j < rs.length), j ≠ i → Apart r' rs[j] := fun j hj hn b q1 q2 => (hf b q1).elim (fun z => oth j hj hn b z q2) fun z => new (List.getElem_mem hj) q2 z
    by_cases e1 : i = j
    · subst e1
      rw [List.getElem_set_self, List.getElem_set_ne (by omega)]
      exact side k hk (by omega)
    · rw [List.getElem_set_ne e1]
      by_cases e2 : i = k
      · subst e2; rw [List.getElem_set_self]; exact (side j hj (by omega)).symm
      · rw [List.getElem_set_ne e2]; exact p.get hj hk (by omega)
/-- a new thing owned -/
theorem Act.push (H : Act K h₀ env nm vals D (.all rs) R s₀ s) (p : PW rs) (hI : r.I s.heap) (hf : ∀ b, r.fp b → (∀ q ∈ rs, ¬ q.fp b) ∧ ¬ R.fp b ∧ b ≠ env.locals) : Act K h₀ env nm vals D (.all (rs ++ [r])) R s₀ s ∧ PW (rs ++ [r]) := by
  refine ⟨H.as (fun q hq => ?_) H.rest (fun b ⟨q, hq, f⟩ q2 => ?_) (fun ⟨q, hq, f⟩ => ?_) H.lr, List.pairwise_append.mpr ⟨p, List.pairwise_singleton _ _, fun a ha b hb x q1 q2 => ?_⟩⟩
  · rcases List.mem_append.mp hq with z | z
    · exact H.own q z
    · rw [List.mem_singleton.mp z]; exact hI
  · rcases List.mem_append.mp hq with z | z
    · exact H.dj b ⟨q, z, f⟩ q2
    · rw [List.mem_singleton.mp z] at f; exact (hf b f).2.1 q2
  · rcases List.mem_append.mp hq with z | z
    · exact H.lo ⟨q, z, f⟩
    · rw [List.mem_singleton.mp z] at f; exact (hf _ f).2.2 rfl
  · rw [List.mem_singleton.mp hb] at q2
    exact (hf x q2).1 a ha q1
/-- objects that are new in s -/
theorem Act.fresh (H : Act K h₀ env nm vals D (.all rs) R s₀ s) {b : Addr} (e : s.heap.get? b = none) : (∀ q ∈ rs, ¬ q.fp b) ∧ ¬ R.fp b ∧ b ≠ env.locals := by
  have no : ∀ {o : Obj}, s.heap.get? b = some o → False := fun z => by rw [e] at z; cases z
  exact ⟨fun q hq f => (q.ex _ (H.own q hq) b f).elim fun o z => no z, fun f => (R.ex _ H.rest b f).elim fun o z => no z, fun q => H.there.elim fun o z => no (o := o) (by rw [q]; exact z)⟩
end
section
variable {prog : Program} {w : World} {n : Nat} {h h₀ : Heap} {env : Env} {K : Frag} {nm : List Str} {vals : List (Option Value)}
/-- a name in a cell -/
theorem ev_cell {x : Str} {c : Addr} {v : Value} {pos : Pos} (hk : env.scope.kind = .function) (hl : env.kindOf x = some .cell) (hc : env.cells.lookup x = some c) (hI : (Res.cell c (some v)).I h) (hd : (x == ("__debug__" : Str)) = false := by decide) : Eva prog w n h (eval (.Name x pos) env) v := by
  intro A Q E s r g q
  obtain ⟨v', hv, e⟩ := hI
  cases v' with
  | none => cases e
  | some v' =>
    cases e
    exact wpAny_Name (wpAny_loadName_cell hk hl hc (hv.keeps g) (q v' s rfl (.refl _ _))) hd
theorem ev_free {x : Str} {c : Addr} {v : Value} {pos : Pos} (hk : env.scope.kind = .function) (hl : env.kindOf x = some .free) (hc : env.cells.lookup x = some c) (hI : (Res.cell c (some v)).I h) (hd : (x == ("__debug__" : Str)) = false := by decide) (hn : (x == ("__classdict__" : Str)) = false := by decide) : Eva prog w n h (eval (.Name x pos) env) v := by
  intro A Q E s r g q
  obtain ⟨v', hv, e⟩ := hI
  cases v' with
  | none => cases e
  | some v' =>
    cases e
    exact wpAny_Name (wpAny_loadName_free hk hl hc (hv.keeps g) (q v' s rfl (.refl _ _)) hn) hd

variable {D : List Addr} {R : Res} {s₀ s s' : Shared} {rs : List Res} {i : Nat} {A : Around} {E : Value → Shared → Prop}
theorem x_cell {x : Str} {c : Addr} {v0 : Option Value} {e : Expr} {pos p : Pos} {P : Value → Heap → Prop} {Q : Flow → Shared → Prop} (H : Act K h₀ env nm vals D (.all rs) R s₀ s) (pw : PW rs) (hi : rs[i]? = some (.cell c v0)) (hl : env.kindOf x = some .cell) (hc : env.cells.lookup x = some c) (h0 : h₀.get? c = none) (hD : c ∈ D ∨ s₀.heap.get? c = none) (r : Rm n A) (he : EvaP prog w n s.heap (eval e env) P)
    (k : ∀ v s1 s', P v s1.heap → SX [] s s1 → SX [c] s1 s' → Act K h₀ env nm vals D (.all (rs.set i (.cell c (some (er v))))) R s₀ s' → PW (rs.set i (.cell c (some (er v)))) → Q .next s') (hsw : swapsWith e (some (.Name x p)) pos.line env = Pure.pure false := by rfl) :
    wpAny (model prog w) A (exec (.Assign [.Name x p] e pos) env) Q E s := by
  refine wpAny_Assign_Name (he A _ E s r (Gr.refl _) fun v s1 pv x1 => ?_) hsw
  have H1 := H.pure x1
  obtain ⟨v', hv, _⟩ : (Res.cell c v0).I s1.heap := H1.res hi
  refine wpAny_storeName_cell H.cx.F.kind hl hc hv fun h' hc' hs' => ?_
  have x2 : SX [c] s1 { s1 with heap := h' } := SX.heap (tk := s1.toks) fun b o nb e => hs'.extBut b o (by simpa using nb) e
  obtain ⟨H2, p2⟩ := H1.upd pw hi x2 (r' := .cell c (some (er v))) (fun b hb => by rw [List.mem_singleton.mp hb]; exact ⟨rfl, h0, hD⟩) ⟨some v, hc', rfl⟩ fun b hb => .inl hb
  exact k v s1 _ pv x1 x2 H2 p2
end
end Mine
end
section
open PySem PySem.W PyProof.Rows PySem.Calls
set_option Elab.async false
set_option maxRecDepth 100000
set_option maxHeartbeats 8000000
set_option pp.deepTerms false
set_option pp.maxSteps 1500
set_option pp.proofs false
set_option linter.unusedVariables false
namespace Mine
abbrev lawNm : List Str := ["head", "width", "many", "marks", "at", "one", "others", "reading", "ring", "plain", "places", "second", "apart", "listed", "least", "count", "bits", "told", "near", "far"]
abbrev lawProg : Program := PySem.Challenge.rw_ew5018_01.row.prog
theorem ints_er {items : List Value} {zs : List Int} (h : IntsAre items zs) : items.map er = zs.map vi := by
  induction h with
  | nil => rfl
  | cons n t _ ih => rw [List.map_cons, List.map_cons, ih]; rfl
/-- what the law's body must do -/
def LawBody (w : World) (body : List Stmt) (scope : Scope) : Prop :=
  ∀ (s₁ s : Shared) (h₀ : Heap) (mg mb : Str → Option Value) (env : Env) (A : Around) (sa cs ct cw : Addr) (zs : List Int), LawCtx w mg mb s₁.heap → Bas (KK w) h₀ → Gr h₀ s₁.heap → h₀.get? 481 = none → env.scope = scope →
    env.cells.lookup ("script" : Str) = some cs → env.cells.lookup ("table" : Str) = some ct → env.cells.lookup ("words" : Str) = some cw → [cs, ct, cw, env.locals].Nodup → s₁.heap.get? cs = none → s₁.heap.get? ct = none → s₁.heap.get? cw = none → env.code = .ref 483 → env.qual = "law.<locals>." → Ls s₁.heap sa (zs.map vi) → zs.length ≤ 63 →
    Act (KK w) h₀ env lawNm (List.replicate 20 none) [481] (.all [.cell cs (some (.ref sa)), .cell ct none, .cell cw none]) (.keep s₁.heap [481]) s₁ s → s.heap.get? 481 = some (tabObj #[]) → Rm 100 A →
    wpAny (model lawProg w) A (execs body env) (fun f s' => f = .ret (.bool true) ∧ SX [481] s₁ s' ∧ ∃ ps, s'.heap.get? 481 = some (tabObj ps)) (fun _ _ => False) s
theorem law_enter (hb : ∀ w (fd : FuncData) body oc od sl, (KK w).lookup 484 = some ⟨oc, od, .func fd, sl⟩ → fd.body = .stmts body → LawBody w body fd.scope) : PySem.Challenge.rw_ew5018_01.Holds := by
  refine law_top fun w s₁ mg mb sa items zs C hL hI hlen hg => ?_
  obtain ⟨h₀, B, g0, h481, up⟩ := law_base C
  have hLs : Ls s₁.heap sa (zs.map vi) := by
    refine ⟨_, hL, ?_⟩
    exact ints_er hI
  refine codeAny_call_cells (by decide) (C.inK 484 _ (by rfl)) rfl C.nl (codeRec_of C.inK (by kernel_rfl)) rfl (binds := [("script", .ref sa)]) rfl rfl (fun x hx => ?_) (fun s2 hc => ?_)
  · rw [List.mem_singleton.mp hx]; exact .inr ⟨rfl, rfl⟩
  generalize hLe : s₁.heap.objs.size = L at *
  have hfL : s₁.heap.get? L = none := hLe ▸ size_none _
  have hcell := hc.cell
  have habove := hc.above
  have x2 : SX [481] s₁ s2 := by
    obtain ⟨h, tk, e⟩ := hc.toInCall.same
    rw [e]
    exact SX.heap fun b o _ z => by have := hc.toInCall.keep b o z; rw [e] at this; exact this
  have ge : ∀ b, L ≤ b → s₁.heap.get? b = none := fun b hb => Heap.get?_none_of_le (by rw [hLe]; exact hb)
  have nd : [L + 1, L + 2, L + 3, L].Nodup := by simp
  refine wpAny_mono (hb w _ _ _ _ _ (by rfl) rfl s₁ s2 h₀ mg mb _ _ sa (L + 1) (L + 2) (L + 3) zs C B g0 h481 rfl (by rfl) (by rfl) (by rfl) nd (ge _ (by omega)) (ge _ (by omega)) (ge _ (by omega)) (by rfl) (by rfl) hLs hlen ?_ ?_ ?_) (fun f s' h => ?_) fun _ _ z => z.elim
  · have kp := hc.toInCall.keep
    refine ⟨⟨FE.new rfl (by decide +kernel) (by decide +kernel) rfl rfl, ⟨_, hc.toInCall.ns, fun i x v h1 h2 => ?_⟩, B, fun b o e => kp b o (g0 b o e), ?_⟩, x2, hfL, ?_, fun b o _ e => kp b o e, ?_, ?_, fun q => ?_⟩
    · rw [List.getElem?_replicate] at h2; split at h2 <;> cases h2
    · show h₀.objs.size ≤ L
      rw [← hLe]; exact B.ab g0
    · intro r hr
      simp only [List.mem_cons, List.not_mem_nil, or_false] at hr
      rcases hr with q | q | q <;> subst q
      · exact ⟨_, hcell ("script" : Str) (L + 1) (by rfl), by rfl⟩
      · exact ⟨_, hcell ("table" : Str) (L + 2) (by rfl), by rfl⟩
      · exact ⟨_, hcell ("words" : Str) (L + 3) (by rfl), by rfl⟩
    · rintro b ⟨r, hr, f⟩ ⟨_, o, e⟩
      simp only [List.mem_cons, List.not_mem_nil, or_false] at hr
      rcases hr with q | q | q <;> subst q <;> (rw [ge b (by rw [f]; omega)] at e; cases e)
    · rintro ⟨r, hr, f⟩
      simp only [List.mem_cons, List.not_mem_nil, or_false] at hr
      rcases hr with q | q | q <;> subst q
      · exact absurd (show L = L + 1 from f) (by omega)
      · exact absurd (show L = L + 2 from f) (by omega)
      · exact absurd (show L = L + 3 from f) (by omega)
    · obtain ⟨_, o, e⟩ := q
      rw [show s₁.heap.get? L = some o from e] at hfL; cases hfL
  · exact hc.toInCall.keep _ _ C.tb
  · refine ⟨rfl, ?_, ?_⟩
    · show 1 + claimMargin + 1 + 100 < recursionLimit; decide
    · show 4 + 3 + 4 * 100 + 60 < cLine; decide
  · obtain ⟨rfl, h2⟩ := h; exact ⟨rfl, h2⟩
end Mine
end
section
open PySem PySem.W PyProof.Rows PySem.Calls
set_option Elab.async false
set_option maxRecDepth 100000
set_option maxHeartbeats 4000000
set_option linter.unusedVariables false
set_option pp.deepTerms false
set_option pp.maxSteps 700
namespace Mine
local macro_rules | `(tactic| tm_at "at") => `(tactic| with_reducible (repeat (first | exact At.head | apply At.tail)))
local macro_rules | `(tactic| tm_at "ok") => `(tactic| first | trivial | assumption | decide | (simp only [okI]; omega) | (simp only [okI]; mul_fits))
local macro_rules | `(tactic| tm_at "bop") => `(tactic| exact fun _ _ => bo_any (by tm_at "ok"))
local macro_rules | `(tactic| tm_at "cm") => `(tactic| exact fun _ _ => co_any rfl)
local macro_rules | `(tactic| tm_at "obj") => `(tactic| first | exact QFAt.ob (by assumption) | assumption)
local macro_rules | `(tactic| tm_at "cls") => `(tactic| first | exact cls_qf _ | exact cls_bit _)
local macro_rules | `(tactic| tm_at "lt") => `(tactic| first | assumption | omega)
local macro_rules | `(tactic| tm_at "bitx") => `(tactic| first | exact QFAt.bo (by assumption) | exact QFAt.bc (by assumption) | exact QFAt.bs (by assumption))
local macro_rules | `(tactic| tm_at "ev") => `(tactic| first
  | with_reducible exact ev_int | with_reducible exact ev_true | with_reducible exact ev_none | with_reducible exact ev_str
  | ((with_reducible refine' ev_loc ?h1 ?h2 ?h3); (case h1 => assumption); (case h2 => tm_at "at"); (case h3 => rfl))
  | ((with_reducible refine' ev_attr (Cx.inK ?h1) ?h2 ?h3 ?h4 ?h5 ?h6 ?h7 ?h8); (case h1 => assumption); (case h4 => tm_at "ev"); (case h3 => tm_at "obj"); (case h2 => tm_at "cls"); (case h5 => tm_at "at"); (case h6 => rfl); (case h7 => rfl); (case h8 => rfl))
  | ((with_reducible refine' ev_bin ?h1 ?h2 ?h3); (case h1 => tm_at "ev"); (case h2 => tm_at "ev"); (case h3 => tm_at "bop"))
  | ((with_reducible refine' ev_bit ?h1 ?h2 ?h3 ?h4 ?h5 ?h6 ?h7 ?h8); (case h1 => assumption); (case h3 => tm_at "ev"); (case h4 => tm_at "ev"); (case h2 => tm_at "bitx"); (case h5 => tm_at "lt"); (case h6 => tm_at "lt"); (case h7 => tm_at "lt"); (case h8 => (intros; rfl)))
  | ((with_reducible refine' ev_un ?h1 ?h2); (case h1 => tm_at "ev"); (case h2 => exact fun _ => uo_any rfl)))
local macro_rules | `(tactic| tm_at "eb") => `(tactic| first
  | ((with_reducible refine' eb_cmp ?h1 ?h2 ?h3 ?h4); (case h1 => tm_at "ev"); (case h2 => tm_at "ev"); (case h3 => tm_at "cm"); (case h4 => rfl))
  | ((with_reducible refine' eb_bool ?h1); (case h1 => tm_at "eb"))
  | ((with_reducible refine' eb_or ?h1 ?h2); (case h1 => tm_at "eb"); (case h2 => tm_at "eb"))
  | ((with_reducible refine' eb_and ?h1 ?h2); (case h1 => tm_at "eb"); (case h2 => tm_at "eb"))
  | with_reducible exact eb_or_nil | with_reducible exact eb_and_nil
  | ((with_reducible refine' eb_not ?h1); (case h1 => tm_at "eb")))
/-! the law's marks -/
def drawn (zs : List Int) (p : Nat) : Int := if p < zs.length then zs.getD p 0 else (p : Int) * 53 + 7
def mixed (zs : List Int) (p : Nat) : Nat := ((drawn zs p * 2654435761 + (p : Int) * 40503 + 17) % 4294967296).toNat
def clump (k : Nat) : Nat := [0, 9, 18, 30].getD k 0
def mark (zs : List Int) (p : Nat) : Nat := ((clump (mixed zs p % 4) + mixed zs p / 4 % 3) % 32) * 134217728 + mixed zs p / 32 % 134217728
theorem mark_lt (zs : List Int) (p : Nat) : mark zs p < 2 ^ 32 := by unfold mark; omega
theorem mixed_eq (zs : List Int) (p : Nat) : Int.fmod (drawn zs p * 2654435761 + (p : Int) * 40503 + 17) 4294967296 = (mixed zs p : Int) := by
  unfold mixed
  rw [Int.fmod_eq_emod_of_nonneg _ (by decide), Int.toNat_of_nonneg (Int.emod_nonneg _ (by decide))]
section
variable {prog : Program} {w : World} {n : Nat} {h h₀ : Heap} {env : Env} {nm : List Str} {vals : List (Option Value)}
theorem seqIndex_nat {k m : Nat} (h : k < m) : seqIndex? (k : Int) m = some k := by
  unfold seqIndex?
  have e1 : ¬ ((k : Int) < 0) := by omega
  have e2 : (0 : Int) ≤ (k : Int) := by omega
  have e3 : (k : Int) < (m : Int) := by omega
  simp only [e1, if_false, e2, e3, decide_true, Bool.and_self, if_true, Int.toNat_natCast]
theorem ev_titem {l i : Expr} {pos : Pos} {a : Addr} {its : Array Value} {k : Nat} {v : Value} (h1 : Eva prog w n h (eval l env) (.ref a)) (L : IsTup h a its) (h2 : Eva prog w n h (eval i env) (vi (k : Int))) (hv : its.toList[k]? = some v)
    (hs : ∀ o j, subscripted i false o j = operate [o, j] (getItem o j) := by intros; rfl) (hk : k < 1000) : Eva prog w n h (eval (.Subscript l i pos) env) (er v) := by
  intro A Q E s r g q
  refine Subscript_ (h1 A _ E s r g fun o s1 p1 x1 => h2 A _ E s1 r (g.trans x1.gr) fun j s2 p2 x2 => ?_)
  obtain rfl := er_ref p1
  obtain ⟨t, rfl⟩ := er_vi p2
  have L2 := L.keeps ((g.trans x1.gr).trans x2.gr)
  have hl : k < its.size := by have := (List.getElem?_eq_some_iff.mp hv).1; simpa using this
  refine tail_any L2.typeIs slot_tuple_getitem.lookup (getItem_tuple (j := k) L2 (by omega) (by omega) (seqIndex_nat hl) (by rw [← Array.getElem?_toList]; exact hv) (q v s2 rfl (x1.trans x2))) (hs _ _)
theorem q_mark (B : Bas (KK w) h₀) {args : List Value} {sa : Addr} {zs : List Int} {p : Nat} (gb : Gr h₀ h) (L : Ls h sa (zs.map vi)) (hp : p < 1000) (hz : zs.length ≤ 63) (ha : args.map er = [.ref sa, vi (p : Int)]) (hn : 2 ≤ n) :
    FunP prog w n h 479 args (fun v _ => er v = vi (mark zs p : Int)) := by
  obtain ⟨n, rfl⟩ : ∃ m, n = m + 1 := ⟨n - 1, by omega⟩
  obtain ⟨a1, a2, rfl, h1, h2⟩ := m2 ha
  refine fun_enter (k := 3) (nm := ["script", "place", "drawn", "mixed", "top"]) (args2 := [a1, a2]) (avs2 := [.ref sa, vi (p : Int)]) B gb (by rfl) rfl (by kernel_rfl) (fun _ _ => .of_eq rfl) (by simp [h1, h2]) (by decide +kernel) (by decide +kernel) (by decide +kernel) ?_
  intro env s0 s g hs' H A Q r q1 q2
  have C := H.cx
  have L1 := L.gr H.own
  have hlen : (zs.map vi).length = zs.length := List.length_map _
  refine y_assign (v := vi (drawn zs p)) H r ?_ (by tm_at "at") fun s2 H2 _ => ?_
  · refine Eva.cast (ev_ifexp (c := decide (p < zs.length)) (P := fun v _ => er v = vi (drawn zs p)) (EvB.cast (eb_cmp (by tm_at "ev") (ev_len C (by kernel_rfl) (kindOf_of hs' (by decide +kernel)) (by tm_at "ev") L1 (by omega)) (by tm_at "cm")) ?_) (fun hc => ?_) (fun hc => ?_)) rfl
    · rw [hlen]; show decide ((p : Int) < (zs.length : Int)) = _; rw [decide_eq_decide]; omega
    · have hc := of_decide_eq_true hc
      refine Eva.cast (ev_item (by tm_at "ev") L1 (by tm_at "ev") (by omega) (by omega) (v := vi (zs.getD p 0)) ?_) ?_
      · rw [Int.toNat_natCast, List.getElem?_map, List.getD_eq_getElem?_getD, List.getElem?_eq_getElem hc]; rfl
      · unfold drawn; rw [if_pos hc]
    · have hc := of_decide_eq_false hc
      refine Eva.cast (by tm_at "ev") ?_
      unfold drawn; rw [if_neg hc]; rfl
  have C := H2.cx
  refine y_assign (v := vi (mixed zs p : Int)) H2 r (Eva.cast (by tm_at "ev") (congrArg vi (mixed_eq zs p))) (by tm_at "at") fun s3 H3 _ => ?_
  have C := H3.cx
  have hm4 : mixed zs p % 4 < 4 := Nat.mod_lt _ (by decide)
  have hcl : ∀ k, k < 4 → ∃ v, ((match (KK w).lookup 472 with | some ⟨_, _, .seq its _, _⟩ => its | _ => #[]) : Array Value).toList[k]? = some v ∧ er v = vi (clump k : Int) := by
    intro k hk
    match k, hk with
    | 0, _ => exact ⟨_, rfl, rfl⟩
    | 1, _ => exact ⟨_, rfl, rfl⟩
    | 2, _ => exact ⟨_, rfl, rfl⟩
    | 3, _ => exact ⟨_, rfl, rfl⟩
  obtain ⟨v, hv, hve⟩ := hcl _ hm4
  have T : IsTup s3.heap 472 ((match (KK w).lookup 472 with | some ⟨_, _, .seq its _, _⟩ => its | _ => #[]) : Array Value) := ⟨_, C.inK 472 _ (by rfl), rfl, _, rfl⟩
  have hmm : ∀ a b : Nat, arI .Mod (a : Int) (b : Int) = ((a % b : Nat) : Int) := fmod_nat
  have hdd : ∀ a b : Nat, arI .FloorDiv (a : Int) (b : Int) = ((a / b : Nat) : Int) := fdiv_nat
  have hp27 : arI .Pow 2 27 = 134217728 := by decide
  refine y_assign (v := vi (((clump (mixed zs p % 4) + mixed zs p / 4 % 3) % 32 : Nat) : Int)) H3 r (Eva.cast (ev_bin (ev_bin (ev_titem (k := mixed zs p % 4) (v := v) (ev_glob C (v := .ref 472) (by kernel_rfl) (kindOf_of hs' (by decide +kernel))) T (Eva.cast (by tm_at "ev") (congrArg vi (hmm _ 4))) hv (by intros; rfl) (by omega)) (by tm_at "ev") (fun a' b' ha' hb' => bo_any (a := (clump (mixed zs p % 4) : Int)) trivial (ha'.trans hve) hb')) (by tm_at "ev") (by tm_at "bop")) ?_) (by tm_at "at") fun s4 H4 _ => ?_
  · refine congrArg vi ?_
    have e1 : arI .Mod (arI .FloorDiv (mixed zs p : Int) 4) 3 = ((mixed zs p / 4 % 3 : Nat) : Int) := by
      rw [show arI .FloorDiv (mixed zs p : Int) 4 = _ from hdd _ 4]; exact hmm _ 3
    rw [e1]
    show arI .Mod ((clump (mixed zs p % 4) : Int) + ((mixed zs p / 4 % 3 : Nat) : Int)) 32 = _
    rw [show (clump (mixed zs p % 4) : Int) + ((mixed zs p / 4 % 3 : Nat) : Int) = ((clump (mixed zs p % 4) + mixed zs p / 4 % 3 : Nat) : Int) by omega]
    exact hmm _ 32
  have C := H4.cx
  refine y_ret H4 r (P := fun v _ => er v = vi (mark zs p : Int)) (Eva.cast (by tm_at "ev") ?_) fun v s2 p H2 x2 => q1 v s2 p H2.sx
  refine congrArg vi ?_
  rw [hp27, show arI .FloorDiv (mixed zs p : Int) 32 = _ from hdd _ 32, show arI .Mod ((mixed zs p / 32 : Nat) : Int) 134217728 = _ from hmm _ 134217728]
  unfold mark
  show (((_ : Nat) : Int) * 134217728 + ((_ : Nat) : Int)) = _
  omega
end
end Mine
end
section
open PySem PySem.W PyProof.Rows PySem.Calls
set_option Elab.async false
set_option maxRecDepth 100000
set_option maxHeartbeats 4000000
set_option linter.unusedVariables false
set_option pp.deepTerms false
set_option pp.maxSteps 700
namespace Mine
local macro_rules | `(tactic| tm_at "at") => `(tactic| with_reducible (repeat (first | exact At.head | apply At.tail)))
local macro_rules | `(tactic| tm_at "ok") => `(tactic| first | trivial | assumption | decide | (simp only [okI]; omega) | (simp only [okI]; mul_fits))
local macro_rules | `(tactic| tm_at "bop") => `(tactic| exact fun _ _ => bo_any (by tm_at "ok"))
local macro_rules | `(tactic| tm_at "cm") => `(tactic| exact fun _ _ => co_any rfl)
local macro_rules | `(tactic| tm_at "obj") => `(tactic| first | exact QFAt.ob (by assumption) | assumption)
local macro_rules | `(tactic| tm_at "cls") => `(tactic| first | exact cls_qf _ | exact cls_bit _)
local macro_rules | `(tactic| tm_at "lt") => `(tactic| first | assumption | omega)
local macro_rules | `(tactic| tm_at "bitx") => `(tactic| first | exact QFAt.bo (by assumption) | exact QFAt.bc (by assumption) | exact QFAt.bs (by assumption))
local macro_rules | `(tactic| tm_at "ev") => `(tactic| first
  | with_reducible exact ev_int | with_reducible exact ev_true | with_reducible exact ev_none | with_reducible exact ev_str
  | ((with_reducible refine' ev_loc ?h1 ?h2 ?h3); (case h1 => assumption); (case h2 => tm_at "at"); (case h3 => rfl))
  | ((with_reducible refine' ev_attr (Cx.inK ?h1) ?h2 ?h3 ?h4 ?h5 ?h6 ?h7 ?h8); (case h1 => assumption); (case h4 => tm_at "ev"); (case h3 => tm_at "obj"); (case h2 => tm_at "cls"); (case h5 => tm_at "at"); (case h6 => rfl); (case h7 => rfl); (case h8 => rfl))
  | ((with_reducible refine' ev_bin ?h1 ?h2 ?h3); (case h1 => tm_at "ev"); (case h2 => tm_at "ev"); (case h3 => tm_at "bop"))
  | ((with_reducible refine' ev_bit ?h1 ?h2 ?h3 ?h4 ?h5 ?h6 ?h7 ?h8); (case h1 => assumption); (case h3 => tm_at "ev"); (case h4 => tm_at "ev"); (case h2 => tm_at "bitx"); (case h5 => tm_at "lt"); (case h6 => tm_at "lt"); (case h7 => tm_at "lt"); (case h8 => (intros; rfl)))
  | ((with_reducible refine' ev_un ?h1 ?h2); (case h1 => tm_at "ev"); (case h2 => exact fun _ => uo_any rfl)))
local macro_rules | `(tactic| tm_at "eb") => `(tactic| first
  | ((with_reducible refine' eb_cmp ?h1 ?h2 ?h3 ?h4); (case h1 => tm_at "ev"); (case h2 => tm_at "ev"); (case h3 => tm_at "cm"); (case h4 => rfl))
  | ((with_reducible refine' eb_bool ?h1); (case h1 => tm_at "eb"))
  | ((with_reducible refine' eb_or ?h1 ?h2); (case h1 => tm_at "eb"); (case h2 => tm_at "eb"))
  | ((with_reducible refine' eb_and ?h1 ?h2); (case h1 => tm_at "eb"); (case h2 => tm_at "eb"))
  | with_reducible exact eb_or_nil | with_reducible exact eb_and_nil
  | ((with_reducible refine' eb_not ?h1); (case h1 => tm_at "eb")))
def Res.tab (ps : Array Value) : Res := ⟨fun b => b = 481, fun h => h.get? 481 = some (tabObj ps), fun h h' k x => k 481 _ rfl x, fun h x b hb => ⟨tabObj ps, by rw [show b = 481 from hb]; exact x⟩⟩
noncomputable def lawStmts (w : World) : List Stmt := match (KK w).lookup 484 with
  | some ⟨_, _, .func fd, _⟩ => (match fd.body with | .stmts b => b | _ => [])
  | _ => []
noncomputable def lawScope (w : World) : Scope := match (KK w).lookup 484 with
  | some ⟨_, _, .func fd, _⟩ => fd.scope
  | _ => default
/-- where the law runs -/
structure LX (w : World) (s₁ : Shared) (h₀ : Heap) (mg mb : Str → Option Value) (env : Env) (A : Around) (sa cs ct cw : Addr) (zs : List Int) : Prop where
  C : LawCtx w mg mb s₁.heap
  B : Bas (KK w) h₀
  g0 : Gr h₀ s₁.heap
  p0 : h₀.get? 481 = none
  sc : env.scope = lawScope w
  ls : env.cells.lookup ("script" : Str) = some cs
  lt : env.cells.lookup ("table" : Str) = some ct
  lw : env.cells.lookup ("words" : Str) = some cw
  nd : [cs, ct, cw, env.locals].Nodup
  ns : s₁.heap.get? cs = none
  nt : s₁.heap.get? ct = none
  nw : s₁.heap.get? cw = none
  code : env.code = .ref 483
  qual : env.qual = "law.<locals>."
  L : Ls s₁.heap sa (zs.map vi)
  len : zs.length ≤ 63
  r : Rm 100 A
abbrev LEnd (s₁ : Shared) (f : Flow) (s' : Shared) : Prop := f = .ret (.bool true) ∧ SX [481] s₁ s' ∧ ∃ ps, s'.heap.get? 481 = some (tabObj ps)
section
variable {w : World} {n : Nat} {h h₀ : Heap} {env : Env} {nm : List Str} {vals : List (Option Value)} {prog : Program}
theorem ev_gcall {np cp : Pos} {x : Str} {f : Addr} {args : List Expr} {avs : List Value} {P : Value → Heap → Prop} (C : Cx (KK w) h₀ env nm vals h) (hg : nsIn (KK w) mainGlobals x = some (some (.ref f))) (hx : env.kindOf x = some .globalImplicit) (kp : keepIn (KK w) (.ref f) = true)
    (ha : EvL prog w n h cp env args avs) (hc : ∀ vs', vs'.map er = avs → FunP prog w n h f vs' P) (hd : (x == ("__debug__" : Str)) = false := by decide)
    (hplain : (backTo cp (starEach args env)).any (·.1) = false := by rfl) (h0 : args ≠ [] ∨ avs = [] := by first | exact .inr rfl | exact .inl (by nofun))
    (he : eval (.Call (.Name x np) args [] cp) env = (do callWith cp (← eval (.Name x np) env) [] (backTo cp (starEach args env)) (backToKw cp (keywordEach [] env))) := by rfl) :
    EvaP prog w n h (eval (.Call (.Name x np) args [] cp) env) P := by
  intro A Q E s r g q
  refine Call_ (EvaP.go (ev_glob (prog := prog) (w := w) (n := n) C hg hx hd) A _ E s r g fun fv s1 ef x1 => ?_) he
  obtain rfl := er_ref ef
  have g1 := g.trans x1.gr
  exact wp_callWith C.inK r g1 kp ha (fun vs' s2 hv x2 => (hc vs' hv).call A Q E s2 r (g1.trans x2.gr) fun v s3 p x3 => q v s3 p (x1.trans (x2.trans x3))) hplain h0
end
def lhead (zs : List Int) : Nat := (zs.getD 0 0 % 1000003).toNat
def lwidth (zs : List Int) : Nat := 3 + lhead zs % 3
def lmany (zs : List Int) : Nat := 8 + lhead zs / 3 % 8
def lmarks (zs : List Int) : Nat → List Nat
  | 0 => []
  | k + 1 => lmarks zs k ++ [if 0 < k ∧ mark zs (1 + k) % 8 = 0 then (lmarks zs k).getD (k - 1) 0 else mark zs (1 + k)]
theorem lmarks_len (zs : List Int) : ∀ k, (lmarks zs k).length = k
  | 0 => rfl
  | k + 1 => by rw [lmarks, List.length_append, lmarks_len zs k]; rfl
section
variable {w : World} {s₁ s : Shared} {h₀ : Heap} {mg mb : Str → Option Value} {env : Env} {A : Around} {sa cs ct cw : Addr} {zs : List Int}
theorem LX.kind (X : LX w s₁ h₀ mg mb env A sa cs ct cw zs) {x : Str} {k : NameKind} (e : (lawScope w).names.lookup x = some k) : env.kindOf x = some k := kindOf_of X.sc e
theorem LX.scr (X : LX w s₁ h₀ mg mb env A sa cs ct cw zs) {h : Heap} (hk : (Res.keep s₁.heap [481]).I h) : Ls h sa (zs.map vi) := by
  refine X.L.at fun o e => hk _ o (fun m => ?_) e
  obtain ⟨_, ⟨o', e', c', _⟩, _⟩ := X.L
  rw [List.mem_singleton.mp m, X.C.tb] at e'
  cases e'; cases c'
theorem law1 (X : LX w s₁ h₀ mg mb env A sa cs ct cw zs) (H : Act (KK w) h₀ env lawNm (List.replicate 20 none) [481] (.all [.cell cs (some (.ref sa)), .cell ct none, .cell cw none, .tab #[]]) (.keep s₁.heap [481]) s₁ s) (pw : PW [.cell cs (some (.ref sa)), .cell ct none, .cell cw none, .tab #[]])
    (next : ∀ s ml u4 u5, Act (KK w) h₀ env lawNm [some (vi (lhead zs : Int)), some (vi (lwidth zs : Int)), some (vi (lmany zs : Int)), some (.ref ml), u4, u5, none, none, none, none, none, none, none, none, none, none, none, none, none, none] [481]
        (.all [.cell cs (some (.ref sa)), .cell ct none, .cell cw none, .tab #[], .lp ml ((lmarks zs (lmany zs)).map fun (x : Nat) => vi (x : Int))]) (.keep s₁.heap [481]) s₁ s → PW [.cell cs (some (.ref sa)), .cell ct none, .cell cw none, .tab #[], .lp ml ((lmarks zs (lmany zs)).map fun (x : Nat) => vi (x : Int))] →
      wpAny (model lawProg w) A (execs ((lawStmts w).drop 5) env) (LEnd s₁) (fun _ _ => False) s) :
    wpAny (model lawProg w) A (execs (lawStmts w) env) (LEnd s₁) (fun _ _ => False) s := by
  show wpAny (model lawProg w) A (execs (_ :: _ :: _ :: _ :: _ :: (lawStmts w).drop 5) env) _ _ s
  generalize (lawStmts w).drop 5 = rest at *
  have C := H.cx
  have hlen : (zs.map vi).length = zs.length := List.length_map _
  have r := X.r
  have Ls1 := X.scr H.rest
  have hscr : ∀ {n : Nat} {s' : Shared} {pos : Pos}, (Res.cell cs (some (.ref sa))).I s'.heap → Eva lawProg w n s'.heap (eval (.Name "script" pos) env) (.ref sa) := fun hI => ev_cell C.F.kind (X.kind (by kernel_rfl)) X.ls hI
  refine y_assign (i := 0) (v := vi (lhead zs : Int)) H r ?_ (by tm_at "at") fun s2 H2 _ => ?_
  · have C := H.cx
    refine Eva.cast (v := vi (Int.fmod (zs.getD 0 0) 1000003)) (ev_bin (a := vi (zs.getD 0 0)) (ev_ifexp (c := decide (0 < zs.length)) (P := fun v _ => er v = vi (zs.getD 0 0)) (EvB.cast (eb_cmp (ev_len C (by kernel_rfl) (X.kind (by kernel_rfl)) (hscr (H.res (i := 0) rfl)) Ls1 (by have := X.len; omega)) (by tm_at "ev") (by tm_at "cm")) ?_) (fun hc => ?_) (fun hc => ?_)) (by tm_at "ev") (by tm_at "bop")) ?_
    · rw [hlen]; show decide ((0 : Int) < (zs.length : Int)) = _; rw [decide_eq_decide]; omega
    · have hc := of_decide_eq_true hc
      exact ev_item (hscr (H.res (i := 0) rfl)) Ls1 (by tm_at "ev") (by omega) (by omega) (by
        rw [show ((0 : Int).toNat) = 0 from rfl, List.getElem?_map, List.getD_eq_getElem?_getD, List.getElem?_eq_getElem hc]; rfl)
    · have hc := of_decide_eq_false hc
      have hz : zs = [] := List.length_eq_zero_iff.mp (by omega)
      subst hz
      exact ev_int
    · unfold lhead
      rw [Int.fmod_eq_emod_of_nonneg _ (by decide), Int.toNat_of_nonneg (Int.emod_nonneg _ (by decide))]
  have C := H2.cx
  refine y_assign (i := 1) (v := vi (lwidth zs : Int)) H2 r (Eva.cast (by tm_at "ev") (congrArg vi ?_)) (by tm_at "at") fun s3 H3 _ => ?_
  · unfold lwidth
    rw [show arI .Mod (lhead zs : Int) 3 = _ from fmod_nat _ 3]; show (3 : Int) + _ = _; omega
  have C := H3.cx
  refine y_assign (i := 2) (v := vi (lmany zs : Int)) H3 r (Eva.cast (by tm_at "ev") (congrArg vi ?_)) (by tm_at "at") fun s4 H4 _ => ?_
  · unfold lmany
    rw [show arI .FloorDiv (lhead zs : Int) 3 = _ from fdiv_nat _ 3, show arI .Mod ((lhead zs / 3 : Nat) : Int) 8 = _ from fmod_nat _ 8]; show (8 : Int) + _ = _; omega
  refine wpAny_execs_cons (x_assignP (i := 3) H4 r ev_nil (by tm_at "at") fun v s5 s6 pv x5 x6 H6 => ?_)
  obtain ⟨ml, rfl, Lm, hml⟩ := pv
  obtain ⟨f1, f2, f3⟩ := H4.fresh hml
  obtain ⟨H7, pw7⟩ := H6.push (r := .lp ml ((lmarks zs 0).map fun (x : Nat) => vi (x : Int))) pw (Lm.at fun o e => x6.hp _ o (by simpa using f3) e) (fun b hb => by rw [show b = ml from hb]; exact ⟨f1, f2, f3⟩)
  have hml0 : h₀.get? ml = none := Gr.none H4.cx.gb hml
  have hml1 : ml ∈ [481] ∨ s₁.heap.get? ml = none := H4.sx.pre hml
  clear H6 H4 H3 H2 H
  have C := H7.cx
  refine wpAny_execs_cons (x_range (a := 0) (b := (lmany zs : Int)) (N := lmany zs) (fun k ρ vals => ∃ u4 u5, ρ = .all [.cell cs (some (.ref sa)), .cell ct none, .cell cw none, .tab #[], .lp ml ((lmarks zs k).map fun (x : Nat) => vi (x : Int))] ∧ PW [.cell cs (some (.ref sa)), .cell ct none, .cell cw none, .tab #[], .lp ml ((lmarks zs k).map fun (x : Nat) => vi (x : Int))] ∧
    vals = [some (vi (lhead zs : Int)), some (vi (lwidth zs : Int)), some (vi (lmany zs : Int)), some (.ref ml), u4, u5, none, none, none, none, none, none, none, none, none, none, none, none, none, none]) H7 r (by tm_at "at") (i := 4)
    (fun b hb => by rw [List.mem_singleton.mp hb]; exact (Res.tab #[]).ex _ (H7.res (i := 3) rfl) _ rfl) ?_ (by omega) (by omega) (by omega) ?_ ⟨_, _, rfl, pw7, rfl⟩ ?_ ?_)
  · exact ev_range1 C (by kernel_rfl) (X.kind (by kernel_rfl)) (by tm_at "ev")
  · unfold lmany; omega
  · rintro k ρ vals R' s8 hk ⟨u4, u5, rfl, pw8, rfl⟩ hR hRI H8
    have C := H8.cx
    have hscr8 : Ls s8.heap sa (zs.map vi) := X.scr (hRI _ H8.rest)
    have hm18 : lmany zs ≤ 15 := by unfold lmany; omega
    refine y_assign (i := 5) (v := vi (mark zs (1 + k) : Int)) H8 r (ev_gcall C (by kernel_rfl) (X.kind (by kernel_rfl)) (by kernel_rfl) (el_cons (hscr (H8.res (i := 0) rfl)) (el1 (by tm_at "ev"))) fun vs' hv => q_mark C.bs C.gb hscr8 (p := 1 + k) (by omega) X.len (by rw [hv]; show [_, vi (1 + (0 + (k : Int)))] = _; congr 3; omega) (by omega)) (by tm_at "at") fun s9 H9 _ => ?_
    have C := H9.cx
    have L9 : Lp s9.heap ml ((lmarks zs k).map fun (x : Nat) => vi (x : Int)) := H9.res (i := 4) rfl
    refine wpAny_execs_cons (x_append C.F r (by tm_at "ev") (v := vi ((if 0 < k ∧ mark zs (1 + k) % 8 = 0 then (lmarks zs k).getD (k - 1) 0 else mark zs (1 + k) : Nat) : Int)) (ev_ifexp (c := decide (0 < k ∧ mark zs (1 + k) % 8 = 0)) (P := fun v _ => er v = vi ((if 0 < k ∧ mark zs (1 + k) % 8 = 0 then (lmarks zs k).getD (k - 1) 0 else mark zs (1 + k) : Nat) : Int)) (EvB.cast (eb_bool (eb_and (by tm_at "eb") (eb_and (by tm_at "eb") eb_and_nil))) ?_) (fun hc => ?_) (fun hc => ?_)) L9 (by rw [List.length_map, lmarks_len]; omega) fun s10 x10 L10 => wpAny_execs_nil ?_)
    · have e1 : cmpI .Gt ((0 : Int) + (k : Int)) 0 = decide (0 < k) := by show decide _ = _; rw [decide_eq_decide]; omega
      have e2 : cmpI .Eq (arI .Mod (mark zs (1 + k) : Int) 8) 0 = decide (mark zs (1 + k) % 8 = 0) := by
        rw [show arI .Mod (mark zs (1 + k) : Int) 8 = _ from fmod_nat _ 8]; exact bq_nat _ 0
      rw [e1, e2, Bool.and_true, Bool.decide_and]
    · have hc := of_decide_eq_true hc
      rw [if_pos hc]
      refine ev_item (k := ((k - 1 : Nat) : Int)) (by tm_at "ev") L9.ls (Eva.cast (by tm_at "ev") (congrArg vi (by show (0 : Int) + (k : Int) - 1 = _; omega))) (by omega) (by omega) ?_
      rw [Int.toNat_natCast, List.getElem?_map, List.getD_eq_getElem?_getD, List.getElem?_eq_getElem (by rw [lmarks_len]; omega)]; rfl
    · have hc := of_decide_eq_false hc
      rw [if_neg hc]
      tm_at "ev"
    · obtain ⟨H10, pw10⟩ := H9.upd (i := 4) (r' := .lp ml ((lmarks zs (k + 1)).map fun (x : Nat) => vi (x : Int))) pw8 rfl x10 (fun b hb => by rw [List.mem_singleton.mp hb]; exact ⟨rfl, hml0, hml1⟩) (by
        show Lp _ _ _
        rw [lmarks, List.map_append]; exact L10) fun b hb => .inl hb
      exact ⟨_, _, ⟨_, _, rfl, pw10, rfl⟩, H10⟩
  · rintro ρ vals s8 ⟨u4, u5, rfl, pw8, rfl⟩ H8
    exact next s8 ml u4 u5 H8 pw8
end
end Mine
end
section
open PySem PySem.W PyProof.Rows PySem.Calls
set_option Elab.async false
set_option maxRecDepth 100000
set_option maxHeartbeats 4000000
set_option linter.unusedVariables false
set_option pp.deepTerms false
set_option pp.maxSteps 700
namespace Mine
section
variable {prog : Program} {w : World} {n : Nat} {A : Around} {E : Value → Shared → Prop}
/-- the loop of a list comprehension over a range -/
theorem comp_loop {elt iter : Expr} {x : Str} {px : Pos} {scope : Scope} {pos : Pos} {it q : Addr} {cenv : Env} {N : Nat} {a : Int} {f : Nat → Value} {RR : Result → Shared → Prop} {s₀ s : Shared} (r : Rm n A) (hN : N ≤ 900)
    (hx : cenv.kindOf x = some .local) (hp : (cenv.scope.kind == .class || (cenv.scope.kind == .module && cenv.locals != cenv.globals)) = false) (hqi : q ≠ it) (hqC : q ≠ cenv.locals) (hiC : it ≠ cenv.locals)
    (hit : IsRangeIter s.heap it a N 1) (hq : Lp s.heap q []) (hC : ∃ m, s.heap.Ns cenv.locals m) (hs : SX [cenv.locals, it, q] s₀ s)
    (helt : ∀ k s, k < N → SX [cenv.locals, it, q] s₀ s → (∃ m v', s.heap.Ns cenv.locals m ∧ m x = some v' ∧ er v' = vi (a + k)) → Eva prog w n s.heap (eval elt cenv) (f k))
    (hR : ∀ s', SX [cenv.locals, it, q] s₀ s' → Lp s'.heap q ((List.range N).map f) → (∃ m, s'.heap.Ns cenv.locals m) → RR (.ok .next) s') :
    codeAny (model prog w) A (.compLoop (.ListComp elt [⟨.Name x px, iter, [], 0⟩] scope pos) 0 (.ref it) (.ref q) cenv) RR s := by
  have W := Walks.range (prog := prog) (w := w) r.hd it a 1 N
  refine codeAny_compLoop_tests (fun m s => ∃ k, m = N + 1 - k ∧ k ≤ N ∧ SX [cenv.locals, it, q] s₀ s ∧ IsRangeIter s.heap it (a + k * 1) (N - k) 1 ∧ Lp s.heap q ((List.range k).map f) ∧ ∃ m, s.heap.Ns cenv.locals m) ?_ (N + 1) ⟨0, rfl, Nat.zero_le _, hs, by simpa using hit, hq, hC⟩
  rintro m s ⟨k, rfl, hk, hs, hit, hq, mm, hC⟩
  by_cases hlt : k < N
  · refine W.item k s _ _ hlt hit fun v h' tk hP st' kk => ?_
    obtain ⟨t, rfl⟩ := hP
    have x1 : SX [it] s { s with heap := h', toks := tk } := SX.heap fun b o nb e => kk b o nb e
    have hC1 : h'.Ns cenv.locals mm := hC.at' fun o e => kk _ o (by simpa using Ne.symm hiC) e
    refine wpAny_assign_Name (wpAny_storeName_local hx hC1 (fun h2 hn2 hs2 => ?_) hp)
    have x2 : SX [cenv.locals] { s with heap := h', toks := tk } { s with heap := h2, toks := tk } := SX.heap fun b o nb e => hs2.extBut b o (by simpa using nb) e
    have x12 : SX [cenv.locals, it, q] s₀ { s with heap := h2, toks := tk } := (hs.trans (x1.mono (by simp))).trans (x2.mono (by simp))
    refine wpAny_pure ?_
    rw [if_pos rfl]
    refine EvaP.go (helt k _ hlt x12 ⟨_, _, hn2, if_pos rfl, by show vi (a + k * 1) = _; rw [Int.mul_one]⟩) A _ _ _ r (Gr.refl _) fun y s3 ey x3 => ?_
    have x3 : SX [] { s with heap := h2, toks := tk } s3 := ⟨x3.hp, x3.gn, x3.os⟩
    have hq3 : Lp s3.heap q ((List.range k).map f) := (hq.at fun o e => x3.gr _ _ (x2.hp _ o (by simpa using hqC) (x1.hp _ o (by simpa using hqi) e)))
    refine wp_append hq3 (by rw [List.length_map, List.length_range]; omega) fun s4 x4 L4 => ?_
    rw [ey] at L4
    refine ⟨N + 1 - (k + 1), by omega, k + 1, rfl, hlt, (x12.transR x3).trans (x4.mono (by simp)), ?_, ?_, ?_⟩
    · have st2 : IsRangeIter h' it (a + ((k + 1 : Nat) : Int) * 1) ((N : Int) - ((k + 1 : Nat) : Int)) 1 := st'
      exact x4.hp _ _ (by simpa using Ne.symm hqi) (x3.gr _ _ (x2.hp _ _ (by simpa using hiC) st2))
    · rw [List.range_succ, List.map_append]; exact L4
    · exact ⟨_, (hn2.keeps x3.gr).at' fun o e => x4.hp _ o (by simpa using Ne.symm hqC) e⟩
  · have hkn : k = N := by omega
    subst hkn
    refine W.done s _ _ hit fun h' tk kk => ?_
    have x1 : SX [it] s { s with heap := h', toks := tk } := SX.heap fun b o nb e => kk b o nb e
    exact hR _ (hs.trans (x1.mono (by simp))) (hq.at fun o e => x1.hp _ o (by simpa using hqi) e) ⟨mm, hC.at' fun o e => kk _ o (by simpa using Ne.symm hiC) e⟩
end
end Mine
end
section
open PySem PySem.W PyProof.Rows PySem.Calls
set_option Elab.async false
set_option maxRecDepth 100000
set_option maxHeartbeats 4000000
set_option linter.unusedVariables false
set_option pp.deepTerms false
set_option pp.maxSteps 900
namespace Mine
section
variable {prog : Program} {w : World} {n : Nat} {A : Around} {E : Value → Shared → Prop} {h₀ : Heap} {env : Env} {K : Frag} {nm : List Str} {vals : List (Option Value)}
/-- a list comprehension over a range, whatever is done with the list -/
theorem wp_comp {elt iter : Expr} {x : Str} {px : Pos} {scope : Scope} {pos ip : Pos} {cl : List (Str × Addr)} {N : Nat} {a : Int} {f : Nat → Value} {use : Option (Value → Sem Unit)} {Q : Value → Shared → Prop} {s : Shared} (C : Cx K h₀ env nm vals s.heap) (r : Rm n A) (hN : N ≤ 900) (ha0 : -(2 ^ 60) ≤ a) (ha : a ≤ 2 ^ 50)
    (hclos : closureFor scope env = Pure.pure cl) (hcell : ∀ y ∈ scope.names, y.2 ≠ .cell) (hkind : scope.kind = .function) (hnames : ∀ y ∈ scope.names, y.2 = .local → scope.names.lookup y.1 = some .local) (hx : scope.names.lookup x = some .local)
    (hit : EvaP prog w n s.heap (eval iter env) fun v h' => ∃ rg t u v', v = .ref rg ∧ IsRange h' rg a (a + N) 1 t u v')
    (helt : ∀ (k : Nat) (C' : Addr) (s' : Shared), k < N → h₀.objs.size ≤ C' → Gr s.heap s'.heap → (∃ m v', s'.heap.Ns C' m ∧ m x = some v' ∧ er v' = vi (a + k)) → Eva prog w n s'.heap (eval elt (compEnvC scope cl C' env)) (f k))
    (k : ∀ (q C' : Addr) (s' : Shared), SX [] s s' → s.heap.get? q = none → s.heap.get? C' = none → q ≠ C' → Lp s'.heap q ((List.range N).map f) → (∃ m, s'.heap.Ns C' m) → compPost (model prog w) A E use Q (.ref q) C' (.ok .next) s')
    (hs : ∀ x, foldedSetIterable iter env x = Pure.pure x := by intro _; rfl) :
    wpAny (model prog w) A (comprehension (.ListComp elt [⟨.Name x px, iter, [], 0⟩] scope pos) scope env ip (newList []) false (eval iter env) use) Q E s := by
  refine wpAny_comprehension_free (use := use) rfl hs hclos hkind hnames (EvaP.go hit _ _ _ s r (Gr.refl _) fun v s1 pv x1 => ?_)
  obtain ⟨rg, t, u, v', rfl, hr⟩ := pv
  refine wpAny_pyIter_range hr (small1 ha0 (by omega) (by omega) (by omega)) ?_
  rw [size1 N rfl]
  have hnew := Heap.get?_push_size s1.heap (o := { cls := Value.type "range_iterator", data := Data.fields #[rawInt a, rawInt N, rawInt 1] }) rfl
  have hit0 := size_none s1.heap
  have x2 : SX [] s1 { s1 with heap := s1.heap.push { cls := Value.type "range_iterator", data := Data.fields #[rawInt a, rawInt N, rawInt 1] } } := SX.heap fun b o _ z => Heap.get?_push_of_some _ z
  obtain ⟨s2, hs2⟩ : ∃ s2 : Shared, s2 = { s1 with heap := s1.heap.push { cls := Value.type "range_iterator", data := Data.fields #[rawInt a, rawInt N, rawInt 1] } } := ⟨_, rfl⟩
  rw [← hs2] at x2 ⊢
  have hri : IsRangeIter s2.heap s1.heap.objs.size a N 1 := by rw [hs2]; simpa [IsRangeIter] using hnew
  generalize s1.heap.objs.size = it at *
  have x02 := x1.trans x2
  refine wpAny_newObj_type (wpAny_newFunctionEnv hcell (by intro y hy; simp at hy) (fun h₁ hns₁ hsb₁ => ?_) hkind)
  dsimp only at hns₁ hsb₁ ⊢
  have hLp0 := Heap.get?_push_size s2.heap (o := { cls := .type "list", dict := none, data := .seq ([] : List Value).toArray }) rfl
  generalize hH2 : s2.heap.push { cls := .type "list", dict := none, data := .seq ([] : List Value).toArray } = H2 at *
  have hCs : H2.objs.size = s2.heap.objs.size + 1 := by rw [← hH2, Heap.size_push]
  have up2 : Gr s2.heap H2 := fun b o e => hH2 ▸ Heap.get?_push_of_some _ e
  have no2 : ∀ b, s2.heap.objs.size ≤ b → s2.heap.get? b = none := fun b hb => Heap.get?_none_of_le hb
  have up : Gr s2.heap h₁ := fun b o e => hsb₁.extBut b o (fun q => by rw [no2 b (by rw [q, hCs]; exact Nat.le_succ _)] at e; cases e) (Heap.get?_push_of_some _ (up2 b o e))
  have x03 : SX [] s { s2 with heap := h₁, toks := s2.toks + ([] : List (Str × Value)).length } := x02.trans (SX.heap fun b o _ e => up b o e)
  have hCn : s2.heap.get? H2.objs.size = none := no2 _ (by rw [hCs]; exact Nat.le_succ _)
  have hqn : s2.heap.get? s2.heap.objs.size = none := size_none _
  have hqC : s2.heap.objs.size ≠ H2.objs.size := by rw [hCs]; exact Nat.ne_of_lt (Nat.lt_succ_self _)
  have hLp : Lp h₁ s2.heap.objs.size [] := ⟨_, _, hsb₁.extBut _ _ hqC (Heap.get?_push_of_some _ hLp0), rfl⟩
  have hri1 : IsRangeIter h₁ it a N 1 := up _ _ hri
  have hqi : s2.heap.objs.size ≠ it := fun q => by
    have z : s2.heap.get? it = some _ := hri
    rw [← q, hqn] at z; cases z
  have hiC : it ≠ H2.objs.size := fun q => by
    have z : s2.heap.get? it = some _ := hri
    rw [q, hCn] at z; cases z
  have hin : s.heap.get? it = none := Gr.none x1.gr hit0
  have loop : codeAny (model prog w) A (.compLoop (.ListComp elt [⟨.Name x px, iter, [], 0⟩] scope pos) 0 (.ref it) (.ref s2.heap.objs.size) (compEnvC scope cl H2.objs.size env)) (compPost (model prog w) A E use Q (.ref s2.heap.objs.size) H2.objs.size) { s2 with heap := h₁, toks := s2.toks + ([] : List (Str × Value)).length } := by
    refine comp_loop (cenv := compEnvC scope cl H2.objs.size env) (f := f) r hN (lookup_relabel_local hx) (by simp [compEnvC, relabel, hkind]) hqi hqC hiC hri1 hLp ⟨_, hns₁⟩ (SX.refl _ _) (fun k s' hk xs hm => ?_) fun s' xs L' hm => ?_
    · refine helt k H2.objs.size s' hk (by have := C.bs.ab (C.gb.trans x02.gr); rw [hCs]; exact Nat.le_succ_of_le this) (fun b o e => xs.hp b o (fun m => ?_) (x03.gr b o e)) hm
      simp only [List.mem_cons, List.not_mem_nil, or_false] at m
      rcases m with z | z | z
      · have := x02.gr b o e; rw [z] at this; rw [show s2.heap.get? H2.objs.size = some o from this] at hCn; cases hCn
      · rw [z, hin] at e; cases e
      · have := x02.gr b o e; rw [z, hqn] at this; cases this
    · refine k _ _ s' (x03.step xs fun b hb => .inr ?_) (Gr.none x02.gr hqn) (Gr.none x02.gr hCn) hqC L' hm
      simp only [List.mem_cons, List.not_mem_nil, or_false] at hb
      rcases hb with z | z | z
      · rw [z]; exact Gr.none x02.gr hCn
      · rw [z]; exact hin
      · rw [z]; exact Gr.none x02.gr hqn
  exact codeAny_compStart_list loop ((Walks.range (prog := prog) (w := w) r.hd it a 1 N).self 0 _ _ _ (by simpa using hri1) loop)
/-- as a value -/
theorem ev_comp {elt iter : Expr} {x : Str} {px : Pos} {scope : Scope} {pos : Pos} {cl : List (Str × Addr)} {N : Nat} {a : Int} {f : Nat → Value} {h : Heap} (C : Cx K h₀ env nm vals h) (hN : N ≤ 900) (ha0 : -(2 ^ 60) ≤ a) (ha : a ≤ 2 ^ 50)
    (hclos : closureFor scope env = Pure.pure cl) (hcell : ∀ y ∈ scope.names, y.2 ≠ .cell) (hkind : scope.kind = .function) (hnames : ∀ y ∈ scope.names, y.2 = .local → scope.names.lookup y.1 = some .local) (hx : scope.names.lookup x = some .local)
    (hit : EvaP prog w n h (eval iter env) fun v h' => ∃ rg t u v', v = .ref rg ∧ IsRange h' rg a (a + N) 1 t u v')
    (helt : ∀ (k : Nat) (C' : Addr) (s' : Shared), k < N → h₀.objs.size ≤ C' → Gr h s'.heap → (∃ m v', s'.heap.Ns C' m ∧ m x = some v' ∧ er v' = vi (a + k)) → Eva prog w n s'.heap (eval elt (compEnvC scope cl C' env)) (f k))
    (hs : ∀ x, foldedSetIterable iter env x = Pure.pure x := by intro _; rfl) :
    EvaP prog w n h (eval (.ListComp elt [⟨.Name x px, iter, [], 0⟩] scope pos) env) (fun v h' => ∃ q, v = .ref q ∧ Lp h' q ((List.range N).map f) ∧ h.get? q = none) := by
  intro A Q E s r g k
  rw [eval_ListComp]
  refine wp_comp (C.gr g) r hN ha0 ha hclos hcell hkind hnames hx (hit.gr g) (fun k C' s' hk hb gs hm => helt k C' s' hk hb (g.trans gs) hm) (fun q C' s' x hq hC hqC L hm => ?_) hs
  obtain ⟨m, hm⟩ := hm
  refine ⟨m, hm, fun h' hs' => k _ _ ⟨q, rfl, L.at fun o e => hs'.extBut q o hqC e, Gr.none g hq⟩ (x.step (D' := [C']) (s'' := { s' with heap := h' }) (SX.heap (tk := s'.toks) fun b o nb e => hs'.extBut b o (by simpa using nb) e) fun b hb => .inr (by rw [List.mem_singleton.mp hb]; exact hC))⟩
end
end Mine
end
section
open PySem PySem.W PyProof.Rows PySem.Calls
set_option Elab.async false
set_option maxRecDepth 100000
set_option maxHeartbeats 4000000
set_option linter.unusedVariables false
set_option pp.deepTerms false
set_option pp.maxSteps 900
namespace Mine
section
variable {prog : Program} {w : World} {n : Nat} {A : Around} {E : Value → Shared → Prop} {h₀ : Heap} {env : Env} {nm : List Str} {vals : List (Option Value)} {D D' : List Addr} {ρ R : Res} {s₀ s s' : Shared}
theorem Act.off (H : Act (KK w) h₀ env nm vals D ρ R s₀ s) (x : SX D' s s') (hD : ∀ b ∈ D', ¬ ρ.fp b ∧ ¬ R.fp b ∧ b ≠ env.locals ∧ h₀.get? b = none ∧ (b ∈ D ∨ s₀.heap.get? b = none)) : Act (KK w) h₀ env nm vals D ρ R s₀ s' :=
  H.stp (g := s₀.gens.size) ⟨x.hp, fun i z _ e => x.gn.1 i z e, x.gn.2, x.os⟩ hD (Array.getElem?_eq_none (Nat.le_refl _))
/-- a name bound to a list comprehension, on one line -/
theorem x_comp {elt iter : Expr} {x y : Str} {px py : Pos} {i : Nat} {scope : Scope} {pos spos : Pos} {cl : List (Str × Addr)} {N : Nat} {a : Int} {f : Nat → Value} {Q : Flow → Shared → Prop} (H : Act (KK w) h₀ env nm vals D ρ R s₀ s) (r : Rm n A) (hy : At nm y i) (hN : N ≤ 900) (ha0 : -(2 ^ 60) ≤ a) (ha : a ≤ 2 ^ 50)
    (hD : ∀ b ∈ D, ∃ o, s.heap.get? b = some o)
    (hsw : swapsWith (.ListComp elt [⟨.Name x px, iter, [], 0⟩] scope pos) (some (.Name y py)) spos.line env = Pure.pure true)
    (hclos : closureFor scope env = Pure.pure cl) (hcell : ∀ y ∈ scope.names, y.2 ≠ .cell) (hkind : scope.kind = .function) (hnames : ∀ y ∈ scope.names, y.2 = .local → scope.names.lookup y.1 = some .local) (hx : scope.names.lookup x = some .local)
    (hit : EvaP prog w n s.heap (eval iter env) fun v h' => ∃ rg t u v', v = .ref rg ∧ IsRange h' rg a (a + N) 1 t u v')
    (helt : ∀ (k : Nat) (C' : Addr) (s' : Shared), k < N → h₀.objs.size ≤ C' → Gr s.heap s'.heap → (∃ m v', s'.heap.Ns C' m ∧ m x = some v' ∧ er v' = vi (a + k)) → Eva prog w n s'.heap (eval elt (compEnvC scope cl C' env)) (f k))
    (k : ∀ q s', Act (KK w) h₀ env nm (vals.set i (some (.ref q))) D ρ R s₀ s' → s.heap.get? q = none → Lp s'.heap q ((List.range N).map f) → Q .next s')
    (hs : ∀ x, foldedSetIterable iter env x = Pure.pure x := by intro _; rfl) :
    wpAny (model prog w) A (exec (.Assign [.Name y py] (.ListComp elt [⟨.Name x px, iter, [], 0⟩] scope pos) spos) env) Q E s := by
  rw [exec_Assign_Name_used _ _ _ _ hsw]
  refine wpAny_bind (wpAny_standAt (wpAny_bind ?_))
  show wpAny _ _ (comprehension _ _ _ _ _ _ _ _ >>= _) _ _ _
  refine wpAny_bind (wp_comp (use := some (assign (.Name y py) env)) H.cx r hN ha0 ha hclos hcell hkind hnames hx hit helt (fun q C' s1 x1 hq hC hqC L hm => ?_) hs)
  obtain ⟨m, hm⟩ := hm
  have H1 := H.pure x1
  have no : ∀ {b : Addr} {o : Obj}, s.heap.get? b = some o → s.heap.get? b = none → False := fun z y => by rw [y] at z; cases z
  have hCl : C' ≠ env.locals := fun z => by obtain ⟨o, y⟩ := H.there; exact no y (z ▸ hC)
  have hql : q ≠ env.locals := fun z => by obtain ⟨o, y⟩ := H.there; exact no y (z ▸ hq)
  refine wpAny_assign_Name (x_store H1 hy rfl fun s2 H2 x2 => ⟨m, hm.at' fun o e => x2.hp _ o (by simpa using hCl) e, fun h' hs' => ?_⟩)
  have x3 : SX [C'] s2 { s2 with heap := h' } := SX.heap (tk := s2.toks) fun b o nb e => hs'.extBut b o (by simpa using nb) e
  have H3 := H2.off x3 fun b hb => by
    rw [List.mem_singleton.mp hb]
    exact ⟨fun f => by obtain ⟨o, z⟩ := ρ.ex _ H.own _ f; exact no z hC, fun f => by obtain ⟨o, z⟩ := R.ex _ H.rest _ f; exact no z hC, hCl, Gr.none H.cx.gb hC, H.sx.pre hC⟩
  exact wpAny_pure (wpAny_pure (k q _ H3 hq ((L.at fun o e => x2.hp _ o (by simpa using hql) e).at fun o e => x3.hp _ o (by simpa using hqC) e)))
end
end Mine
end
section
open PySem PySem.W PyProof.Rows PySem.Calls
set_option Elab.async false
set_option maxRecDepth 100000
set_option maxHeartbeats 4000000
set_option linter.unusedVariables false
set_option pp.deepTerms false
set_option pp.maxSteps 700
namespace Mine
local macro_rules | `(tactic| tm_at "at") => `(tactic| with_reducible (repeat (first | exact At.head | apply At.tail)))
local macro_rules | `(tactic| tm_at "ok") => `(tactic| first | trivial | assumption | decide | (simp only [okI]; omega) | (simp only [okI]; mul_fits))
local macro_rules | `(tactic| tm_at "bop") => `(tactic| exact fun _ _ => bo_any (by tm_at "ok"))
local macro_rules | `(tactic| tm_at "cm") => `(tactic| exact fun _ _ => co_any rfl)
local macro_rules | `(tactic| tm_at "obj") => `(tactic| first | exact QFAt.ob (by assumption) | assumption)
local macro_rules | `(tactic| tm_at "cls") => `(tactic| first | exact cls_qf _ | exact cls_bit _)
local macro_rules | `(tactic| tm_at "lt") => `(tactic| first | assumption | omega)
local macro_rules | `(tactic| tm_at "bitx") => `(tactic| first | exact QFAt.bo (by assumption) | exact QFAt.bc (by assumption) | exact QFAt.bs (by assumption))
local macro_rules | `(tactic| tm_at "ev") => `(tactic| first
  | with_reducible exact ev_int | with_reducible exact ev_true | with_reducible exact ev_none | with_reducible exact ev_str
  | ((with_reducible refine' ev_loc ?h1 ?h2 ?h3); (case h1 => assumption); (case h2 => tm_at "at"); (case h3 => rfl))
  | ((with_reducible refine' ev_attr (Cx.inK ?h1) ?h2 ?h3 ?h4 ?h5 ?h6 ?h7 ?h8); (case h1 => assumption); (case h4 => tm_at "ev"); (case h3 => tm_at "obj"); (case h2 => tm_at "cls"); (case h5 => tm_at "at"); (case h6 => rfl); (case h7 => rfl); (case h8 => rfl))
  | ((with_reducible refine' ev_bin ?h1 ?h2 ?h3); (case h1 => tm_at "ev"); (case h2 => tm_at "ev"); (case h3 => tm_at "bop"))
  | ((with_reducible refine' ev_bit ?h1 ?h2 ?h3 ?h4 ?h5 ?h6 ?h7 ?h8); (case h1 => assumption); (case h3 => tm_at "ev"); (case h4 => tm_at "ev"); (case h2 => tm_at "bitx"); (case h5 => tm_at "lt"); (case h6 => tm_at "lt"); (case h7 => tm_at "lt"); (case h8 => (intros; rfl)))
  | ((with_reducible refine' ev_un ?h1 ?h2); (case h1 => tm_at "ev"); (case h2 => exact fun _ => uo_any rfl)))
local macro_rules | `(tactic| tm_at "eb") => `(tactic| first
  | ((with_reducible refine' eb_cmp ?h1 ?h2 ?h3 ?h4); (case h1 => tm_at "ev"); (case h2 => tm_at "ev"); (case h3 => tm_at "cm"); (case h4 => rfl))
  | ((with_reducible refine' eb_bool ?h1); (case h1 => tm_at "eb"))
  | ((with_reducible refine' eb_or ?h1 ?h2); (case h1 => tm_at "eb"); (case h2 => tm_at "eb"))
  | ((with_reducible refine' eb_and ?h1 ?h2); (case h1 => tm_at "eb"); (case h2 => tm_at "eb"))
  | with_reducible exact eb_or_nil | with_reducible exact eb_and_nil
  | ((with_reducible refine' eb_not ?h1); (case h1 => tm_at "eb")))
theorem forIn_pure {α β : Type} {g : α → β → Sem (ForInStep β)} (f : β → α → β) : ∀ (l : List α) (cs : β), (∀ y ∈ l, ∀ cs, g y cs = Pure.pure (.yield (f cs y))) → forIn l cs g = Pure.pure (l.foldl f cs)
  | [], _, _ => rfl
  | y :: l, cs, h => by
    rw [List.forIn_cons, h y (by simp) cs, pure_bind]
    exact forIn_pure f l _ fun z hz => h z (by simp [hz])
abbrev closF (f : Str → Addr) (cs : List (Str × Addr)) (y : Str × NameKind) : List (Str × Addr) := if (y.2 == NameKind.free) = true then (y.1, f y.1) :: cs else cs
theorem closF_eq (f : Str → Addr) : ∀ (l : List (Str × NameKind)) (cs : List (Str × Addr)), l.foldl (closF f) cs = ((l.filter fun y => y.2 == .free).map fun y => (y.1, f y.1)).reverse ++ cs
  | [], _ => rfl
  | y :: l, cs => by
    rw [List.foldl_cons, closF_eq f l]
    cases hy : y.2 == NameKind.free <;> simp [closF, hy]
theorem clos_gen {scope : Scope} {env : Env} {f : Str → Addr} (h : ∀ y ∈ scope.names, (y.2 == NameKind.free) = true → env.cells.lookup y.1 = some (f y.1)) : closureFor scope env = Pure.pure ((scope.names.filter fun y => y.2 == .free).map fun y => (y.1, f y.1)).reverse := by
  have e := closF_eq f scope.names []
  rw [List.append_nil] at e
  rw [← e]
  unfold closureFor
  show (forIn scope.names [] _ >>= fun cs => Pure.pure cs) = _
  rw [forIn_pure (closF f) scope.names []]
  · try rfl
  · intro y hy cs
    dsimp only
    cases hf : y.2 == NameKind.free with
    | true =>
      have hc : cellOf env y.1 = Pure.pure (f y.1) := by unfold cellOf; rw [h y hy hf]
      simp [hc, closF, hf]
    | false => simp [closF, hf]
theorem clos_one {scope : Scope} {env : Env} {x : Str} {c : Addr} (hc : env.cells.lookup x = some c) (hn : ∃ pre, scope.names = pre ++ [(x, .free)] ∧ ∀ y ∈ pre, (y.2 == NameKind.free) = false) : closureFor scope env = Pure.pure [(x, c)] := by
  obtain ⟨pre, e, hp⟩ := hn
  have h1 : (scope.names.filter fun y => y.2 == NameKind.free) = [(x, .free)] := by
    rw [e, List.filter_append, List.filter_eq_nil_iff.mpr fun y hy => by rw [hp y hy]; decide]; rfl
  rw [clos_gen (f := fun _ => c) (fun y hy hf => ?_), h1]
  · rfl
  · have hm : y ∈ scope.names.filter fun y => y.2 == NameKind.free := List.mem_filter.mpr ⟨hy, hf⟩
    rw [h1] at hm
    rw [List.mem_singleton.mp hm]; exact hc
section
variable {w : World} {n : Nat} {h h₀ : Heap} {env : Env} {nm : List Str} {vals : List (Option Value)} {prog : Program} {scope : Scope} {cl : List (Str × Addr)} {C' : Addr}
/-- inside a comprehension's frame -/
theorem Cx.comp (C : Cx (KK w) h₀ env nm vals h) {x : Str} {v : Value} (hkind : scope.kind = .function) (hx : scope.names.lookup x = some .local) (hd : (x == ("__debug__" : Str)) = false) (hb : h₀.objs.size ≤ C') {h' : Heap} (g : Gr h h') (hm : ∃ m v', h'.Ns C' m ∧ m x = some v' ∧ er v' = v) :
    Cx (KK w) h₀ (compEnvC scope cl C' env) [x] [some v] h' := by
  obtain ⟨m, v', h1, h2, h3⟩ := hm
  refine ⟨⟨by simp [compEnvC, relabel, hkind], fun y hy => ?_, by simp, C.F.gl, C.F.bu⟩, ⟨m, h1, fun i y u e f => ?_⟩, C.bs, C.gb.trans g, hb⟩
  · rw [List.mem_singleton.mp hy]
    exact ⟨lookup_relabel_local hx, hd⟩
  · cases i with
    | zero =>
      have : x = y := by simpa using e
      subst this
      have : v = u := by simpa using f
      subst this
      exact ⟨v', h2, h3⟩
    | succ i => simp at e
end
end Mine
end
section
open PySem PySem.W PyProof.Rows PySem.Calls
set_option Elab.async false
set_option maxRecDepth 100000
set_option maxHeartbeats 4000000
set_option linter.unusedVariables false
set_option pp.deepTerms false
set_option pp.maxSteps 700
namespace Mine
local macro_rules | `(tactic| tm_at "at") => `(tactic| with_reducible (repeat (first | exact At.head | apply At.tail)))
local macro_rules | `(tactic| tm_at "ok") => `(tactic| first | trivial | assumption | decide | (simp only [okI]; omega) | (simp only [okI]; mul_fits))
local macro_rules | `(tactic| tm_at "bop") => `(tactic| exact fun _ _ => bo_any (by tm_at "ok"))
local macro_rules | `(tactic| tm_at "cm") => `(tactic| exact fun _ _ => co_any rfl)
local macro_rules | `(tactic| tm_at "obj") => `(tactic| first | exact QFAt.ob (by assumption) | assumption)
local macro_rules | `(tactic| tm_at "cls") => `(tactic| first | exact cls_qf _ | exact cls_bit _)
local macro_rules | `(tactic| tm_at "lt") => `(tactic| first | assumption | omega)
local macro_rules | `(tactic| tm_at "bitx") => `(tactic| first | exact QFAt.bo (by assumption) | exact QFAt.bc (by assumption) | exact QFAt.bs (by assumption))
local macro_rules | `(tactic| tm_at "ev") => `(tactic| first
  | with_reducible exact ev_int | with_reducible exact ev_true | with_reducible exact ev_none | with_reducible exact ev_str
  | ((with_reducible refine' ev_loc ?h1 ?h2 ?h3); (case h1 => assumption); (case h2 => tm_at "at"); (case h3 => rfl))
  | ((with_reducible refine' ev_attr (Cx.inK ?h1) ?h2 ?h3 ?h4 ?h5 ?h6 ?h7 ?h8); (case h1 => assumption); (case h4 => tm_at "ev"); (case h3 => tm_at "obj"); (case h2 => tm_at "cls"); (case h5 => tm_at "at"); (case h6 => rfl); (case h7 => rfl); (case h8 => rfl))
  | ((with_reducible refine' ev_bin ?h1 ?h2 ?h3); (case h1 => tm_at "ev"); (case h2 => tm_at "ev"); (case h3 => tm_at "bop"))
  | ((with_reducible refine' ev_bit ?h1 ?h2 ?h3 ?h4 ?h5 ?h6 ?h7 ?h8); (case h1 => assumption); (case h3 => tm_at "ev"); (case h4 => tm_at "ev"); (case h2 => tm_at "bitx"); (case h5 => tm_at "lt"); (case h6 => tm_at "lt"); (case h7 => tm_at "lt"); (case h8 => (intros; rfl)))
  | ((with_reducible refine' ev_un ?h1 ?h2); (case h1 => tm_at "ev"); (case h2 => exact fun _ => uo_any rfl)))
local macro_rules | `(tactic| tm_at "eb") => `(tactic| first
  | ((with_reducible refine' eb_cmp ?h1 ?h2 ?h3 ?h4); (case h1 => tm_at "ev"); (case h2 => tm_at "ev"); (case h3 => tm_at "cm"); (case h4 => rfl))
  | ((with_reducible refine' eb_bool ?h1); (case h1 => tm_at "eb"))
  | ((with_reducible refine' eb_or ?h1 ?h2); (case h1 => tm_at "eb"); (case h2 => tm_at "eb"))
  | ((with_reducible refine' eb_and ?h1 ?h2); (case h1 => tm_at "eb"); (case h2 => tm_at "eb"))
  | with_reducible exact eb_or_nil | with_reducible exact eb_and_nil
  | ((with_reducible refine' eb_not ?h1); (case h1 => tm_at "eb")))
theorem clos_last {scope : Scope} {env : Env} {x : Str} {c : Addr} (hc : env.cells.lookup x = some c) (hn : scope.names = scope.names.dropLast ++ [(x, .free)]) (hp : (scope.names.dropLast.all fun y => !(y.2 == NameKind.free)) = true) : closureFor scope env = Pure.pure [(x, c)] :=
  clos_one hc ⟨_, hn, fun y hy => by simpa using List.all_eq_true.mp hp y hy⟩
section
variable {w : World} {s₁ s : Shared} {h₀ : Heap} {mg mb : Str → Option Value} {env : Env} {A : Around} {sa cs ct cw ml : Addr} {zs : List Int} {u4 u5 : Option Value}
abbrev mL (xs : List Nat) : List Value := xs.map fun (x : Nat) => vi (x : Int)
def lothers (zs : List Int) : List Nat := (List.range 4).map fun k => mark zs (25 + k)
theorem law2 (X : LX w s₁ h₀ mg mb env A sa cs ct cw zs) (H : Act (KK w) h₀ env lawNm [some (vi (lhead zs : Int)), some (vi (lwidth zs : Int)), some (vi (lmany zs : Int)), some (.ref ml), u4, u5, none, none, none, none, none, none, none, none, none, none, none, none, none, none] [481]
        (.all [.cell cs (some (.ref sa)), .cell ct none, .cell cw none, .tab #[], .lp ml (mL (lmarks zs (lmany zs)))]) (.keep s₁.heap [481]) s₁ s) (pw : PW [.cell cs (some (.ref sa)), .cell ct none, .cell cw none, .tab #[], .lp ml (mL (lmarks zs (lmany zs)))])
    (next : ∀ s ol, Act (KK w) h₀ env lawNm [some (vi (lhead zs : Int)), some (vi (lwidth zs : Int)), some (vi (lmany zs : Int)), some (.ref ml), u4, u5, some (.ref ol), none, none, none, none, none, none, none, none, none, none, none, none, none] [481]
        (.all [.cell cs (some (.ref sa)), .cell ct none, .cell cw none, .tab #[], .lp ml (mL (lmarks zs (lmany zs))), .lp ol (mL (lothers zs))]) (.keep s₁.heap [481]) s₁ s → PW [.cell cs (some (.ref sa)), .cell ct none, .cell cw none, .tab #[], .lp ml (mL (lmarks zs (lmany zs))), .lp ol (mL (lothers zs))] →
      wpAny (model lawProg w) A (execs ((lawStmts w).drop 6) env) (LEnd s₁) (fun _ _ => False) s) :
    wpAny (model lawProg w) A (execs ((lawStmts w).drop 5) env) (LEnd s₁) (fun _ _ => False) s := by
  show wpAny (model lawProg w) A (execs (_ :: (lawStmts w).drop 6) env) _ _ s
  generalize (lawStmts w).drop 6 = rest at *
  have C := H.cx
  have r := X.r
  have hk := X.kind (x := "others") (k := .local) (by kernel_rfl)
  refine wpAny_execs_cons (x_comp (i := 6) (cl := [("script", cs)]) (N := 4) (a := 0) (f := fun k => vi (mark zs (25 + k) : Int)) H r (by tm_at "at") (by decide) (by decide) (by decide) (fun b hb => by rw [List.mem_singleton.mp hb]; exact (Res.tab #[]).ex _ (H.res (i := 3) rfl) _ rfl) ?_ (clos_last X.ls (by rfl) (by decide +kernel)) (cells_none (by decide +kernel)) rfl ?_ (by decide +kernel) ?_ (fun k C' s' hk hb g hm => ?_) (fun q s' H' hq L => ?_))
  · unfold swapsWith
    simp [Env.blockKind, C.F.kind, hk]
    rfl
  · decide +kernel
  · exact ev_range1 C (by kernel_rfl) (X.kind (by kernel_rfl)) (Eva.cast ev_int (by rfl))
  · have hm' := hm
    refine ev_gcall (C.comp (x := "at") rfl (by decide +kernel) (by decide) hb g hm) (by kernel_rfl) (by rfl) (by kernel_rfl) (el_cons (ev_cell (v := .ref sa) (c := cs) rfl ?_ (by rfl) (Res.I_gr (H.res (i := 0) rfl) g)) (el1 (Eva.cast (v' := vi ((25 + k : Nat) : Int)) (ev_bin ev_int (ev_loc (C.comp (x := "at") rfl (by decide +kernel) (by decide) hb g hm') At.head rfl) (by tm_at "bop")) (congrArg vi (by show (25 : Int) + (0 + (k : Int)) = _; omega))))) fun vs' hv => q_mark C.bs (C.gb.trans g) (X.scr (Res.I_gr H.rest g)) (p := 25 + k) (by omega) X.len hv (by omega)
    have hks : env.kindOf "script" = some .cell := X.kind (by kernel_rfl)
    show List.lookup _ (List.map _ _) = _
    simp [hks, C.F.kind]
    rfl
  · have f := H.fresh hq
    obtain ⟨H2, pw2⟩ := H'.push (r := .lp q (mL (lothers zs))) pw (by
      show Lp _ _ _
      unfold mL lothers; rw [List.map_map]; exact L) (fun b hb => by rw [show b = q from hb]; exact f)
    exact next s' q H2 pw2
end
end Mine
end
section
open PySem PySem.W PyProof.Rows PySem.Calls
set_option Elab.async false
set_option maxRecDepth 100000
set_option maxHeartbeats 4000000
set_option linter.unusedVariables false
set_option pp.deepTerms false
set_option pp.maxSteps 700
namespace Mine
local macro_rules | `(tactic| tm_at "at") => `(tactic| with_reducible (repeat (first | exact At.head | apply At.tail)))
local macro_rules | `(tactic| tm_at "ok") => `(tactic| first | trivial | assumption | decide | (simp only [okI]; omega) | (simp only [okI]; mul_fits))
local macro_rules | `(tactic| tm_at "bop") => `(tactic| exact fun _ _ => bo_any (by tm_at "ok"))
local macro_rules | `(tactic| tm_at "cm") => `(tactic| exact fun _ _ => co_any rfl)
local macro_rules | `(tactic| tm_at "obj") => `(tactic| first | exact QFAt.ob (by assumption) | assumption)
local macro_rules | `(tactic| tm_at "cls") => `(tactic| first | exact cls_qf _ | exact cls_bit _)
local macro_rules | `(tactic| tm_at "lt") => `(tactic| first | assumption | omega)
local macro_rules | `(tactic| tm_at "bitx") => `(tactic| first | exact QFAt.bo (by assumption) | exact QFAt.bc (by assumption) | exact QFAt.bs (by assumption))
local macro_rules | `(tactic| tm_at "ev") => `(tactic| first
  | with_reducible exact ev_int | with_reducible exact ev_true | with_reducible exact ev_none | with_reducible exact ev_str
  | ((with_reducible refine' ev_loc ?h1 ?h2 ?h3); (case h1 => assumption); (case h2 => tm_at "at"); (case h3 => rfl))
  | ((with_reducible refine' ev_attr (Cx.inK ?h1) ?h2 ?h3 ?h4 ?h5 ?h6 ?h7 ?h8); (case h1 => assumption); (case h4 => tm_at "ev"); (case h3 => tm_at "obj"); (case h2 => tm_at "cls"); (case h5 => tm_at "at"); (case h6 => rfl); (case h7 => rfl); (case h8 => rfl))
  | ((with_reducible refine' ev_bin ?h1 ?h2 ?h3); (case h1 => tm_at "ev"); (case h2 => tm_at "ev"); (case h3 => tm_at "bop"))
  | ((with_reducible refine' ev_bit ?h1 ?h2 ?h3 ?h4 ?h5 ?h6 ?h7 ?h8); (case h1 => assumption); (case h3 => tm_at "ev"); (case h4 => tm_at "ev"); (case h2 => tm_at "bitx"); (case h5 => tm_at "lt"); (case h6 => tm_at "lt"); (case h7 => tm_at "lt"); (case h8 => (intros; rfl)))
  | ((with_reducible refine' ev_un ?h1 ?h2); (case h1 => tm_at "ev"); (case h2 => exact fun _ => uo_any rfl)))
local macro_rules | `(tactic| tm_at "eb") => `(tactic| first
  | ((with_reducible refine' eb_cmp ?h1 ?h2 ?h3 ?h4); (case h1 => tm_at "ev"); (case h2 => tm_at "ev"); (case h3 => tm_at "cm"); (case h4 => rfl))
  | ((with_reducible refine' eb_bool ?h1); (case h1 => tm_at "eb"))
  | ((with_reducible refine' eb_or ?h1 ?h2); (case h1 => tm_at "eb"); (case h2 => tm_at "eb"))
  | ((with_reducible refine' eb_and ?h1 ?h2); (case h1 => tm_at "eb"); (case h2 => tm_at "eb"))
  | with_reducible exact eb_or_nil | with_reducible exact eb_and_nil
  | ((with_reducible refine' eb_not ?h1); (case h1 => tm_at "eb")))
section
variable {prog : Program} {w : World} {n : Nat} {h h₀ : Heap} {env : Env} {K : Frag} {nm : List Str} {vals : List (Option Value)}
theorem ev_strint {np cp : Pos} {e : Expr} {i : Nat} (C : Cx K h₀ env nm vals h) (e0 : nsIn K mainGlobals "str" = some Option.none) (hx : env.kindOf "str" = some .globalImplicit) (h1 : Eva prog w n h (eval e env) (vi (i : Int))) (hi : i < 1000)
    (hst : starEach [e] env = (false, eval e env) :: starEach [] env := by rfl)
    (he : eval (.Call (.Name "str" np) [e] [] cp) env = (do callWith cp (← eval (.Name "str" np) env) [] (backTo cp (starEach [e] env)) (backToKw cp (keywordEach [] env))) := by rfl) :
    Eva prog w n h (eval (.Call (.Name "str" np) [e] [] cp) env) (vs (toString (i : Int))) := by
  intro A Q E s r g q
  refine Call_ (EvaP.go (ev_built (v := .type "str") (prog := prog) (w := w) (n := n) C e0 (by decide +kernel) hx (by decide) (by decide)) A _ E s r g fun f s1 ef x1 => ?_) he
  subst ef
  refine Pv.callWith_type1 (args_cons (h1 A _ E s1 r (g.trans x1.gr) fun v s2 ev x2 => args_nil ?_) hst) hst (by rfl)
  obtain ⟨t, rfl⟩ := er_vi ev
  have hlog : ((i : Int).natAbs).log2 < 1920 := by
    rw [Int.natAbs_natCast]
    exact Nat.lt_of_le_of_lt (Nat.log2_le_self i) (by omega)
  exact P.str_of_int hlog (q _ _ rfl ((x1.trans x2).trans .tok))
theorem ev_stradd {l r' : Expr} {pos : Pos} {x y : Str} (h1 : Eva prog w n h (eval l env) (vs x)) (h2 : Eva prog w n h (eval r' env) (vs y)) (hz : x.length + y.length ≤ 1000) : Eva prog w n h (eval (.BinOp l .Add r' pos) env) (vs (x ++ y)) := by
  refine ev_bin h1 h2 fun a b ha hb => ?_
  obtain ⟨t, rfl⟩ := er_vs ha
  obtain ⟨u, rfl⟩ := er_vs hb
  intro A Q E s r g q
  refine SB.add (fun t' k => q _ _ rfl .tok) (by rw [sizeLine_eq]; omega)
theorem ev_listadd {l r' : Expr} {pos : Pos} {xs ys : List Value} {P1 P2 : Value → Heap → Prop} (h1 : EvaP prog w n h (eval l env) fun v h' => ∃ q, v = .ref q ∧ Lp h' q xs) (h2 : ∀ h', Gr h h' → EvaP prog w n h' (eval r' env) fun v h'' => ∃ q, v = .ref q ∧ Lp h'' q ys) (hz : xs.length + ys.length ≤ 1000) :
    EvaP prog w n h (eval (.BinOp l .Add r' pos) env) fun v h' => ∃ q, v = .ref q ∧ Lp h' q (xs ++ ys) ∧ h.get? q = none := by
  intro A Q E s r g q
  refine wpAny_BinOp (h1 A _ E s r g fun v s1 p1 x1 => h2 _ (g.trans x1.gr) A _ E s1 r (Gr.refl _) fun v2 s2 p2 x2 => ?_)
  obtain ⟨q1, rfl, L1⟩ := p1
  obtain ⟨q2, rfl, L2⟩ := p2
  obtain ⟨its, k, e1, e2⟩ := L1.gr x2.gr
  obtain ⟨its2, k2, e3, e4⟩ := L2
  have l1 : its.size = xs.length := by rw [← e2]; simp
  have l2 : its2.size = ys.length := by rw [← e4]; simp
  refine P.add_list e1 e3 (q _ _ ⟨_, rfl, ⟨_, _, Heap.get?_push_size _ rfl, ?_⟩, Gr.none ((g.trans x1.gr).trans x2.gr) (size_none _)⟩ ((x1.trans x2).trans (SX.heap fun b o _ z => Heap.get?_push_of_some _ z))) (by rw [sizeLine_eq]; omega)
  rw [Array.toList_append, List.map_append, e2, e4]
end
end Mine
end
section
open PySem PySem.W PyProof.Rows PySem.Calls
set_option Elab.async false
set_option maxRecDepth 100000
set_option maxHeartbeats 4000000
set_option linter.unusedVariables false
set_option pp.deepTerms false
set_option pp.maxSteps 700
namespace Mine
theorem EvaP.impG {α : Type} {prog : Program} {w : World} {n : Nat} {h : Heap} {t : Sem α} {P P' : α → Heap → Prop} (x : EvaP prog w n h t P) (g : ∀ a h', P a h' → Gr h h' → P' a h') : EvaP prog w n h t P' :=
  fun A Q E s r k q => x A Q E s r k fun a s' p x1 => q a s' (g _ _ p (k.trans x1.gr)) x1
theorem clos_none {scope : Scope} {env : Env} (h : (scope.names.all fun y => !(y.2 == NameKind.free)) = true) : closureFor scope env = Pure.pure [] := by
  have := clos_gen (scope := scope) (env := env) (f := fun _ => 0) (fun y hy e => by have := List.all_eq_true.mp h y hy; rw [e] at this; cases this)
  rw [this]
  have e : (scope.names.filter fun y => y.2 == NameKind.free) = [] := List.filter_eq_nil_iff.mpr fun y hy e => by have := List.all_eq_true.mp h y hy; rw [e] at this; cases this
  rw [e]; rfl
def Own (h₀ : Heap) (D : List Addr) (s₀ : Shared) (r : Res) : Prop := ∀ b, r.fp b → h₀.get? b = none ∧ (b ∈ D ∨ s₀.heap.get? b = none)
section
variable {prog : Program} {w : World} {n : Nat} {h h₀ : Heap} {env : Env} {K : Frag} {nm : List Str} {vals : List (Option Value)} {D : List Addr} {R : Res} {s₀ s : Shared} {rs : List Res} {A : Around} {E : Value → Shared → Prop}
/-- a name bound to a new thing -/
theorem x_new {ι : Type} {mk : ι → Res} {ad : ι → Addr} {x : Str} {j : Nat} {e : Expr} {pos p : Pos} {Q : Flow → Shared → Prop} (H : Act K h₀ env nm vals D (.all rs) R s₀ s) (pw : PW rs) (r : Rm n A) (hx : At nm x j)
    (he : EvaP prog w n s.heap (eval e env) fun v h' => ∃ i, v = .ref (ad i) ∧ (mk i).I h' ∧ ∀ b, (mk i).fp b → s.heap.get? b = none)
    (k : ∀ i s', Act K h₀ env nm (vals.set j (some (.ref (ad i)))) D (.all (rs ++ [mk i])) R s₀ s' → PW (rs ++ [mk i]) → Own h₀ D s₀ (mk i) → Q .next s') (hsw : swapsWith e (some (.Name x p)) pos.line env = Pure.pure false := by rfl) :
    wpAny (model prog w) A (exec (.Assign [.Name x p] e pos) env) Q E s := by
  refine x_assignP H r he hx (fun v s1 s2 pv x1 x2 H2 => ?_) hsw
  obtain ⟨i, rfl, hI, hf⟩ := pv
  have hl : ∀ b, (mk i).fp b → b ≠ env.locals := fun b hb => (H.fresh (hf b hb)).2.2
  obtain ⟨H3, pw3⟩ := H2.push pw (Res.I_off hI x2 fun b hb f => by rw [List.mem_singleton.mp hb] at f; exact hl _ f rfl) fun b hb => H.fresh (hf b hb)
  exact k i s2 H3 pw3 fun b hb => ⟨Gr.none H.cx.gb (hf b hb), H.sx.pre (hf b hb)⟩
/-- a cell bound to a new thing -/
theorem x_cellN {ι : Type} {mk : ι → Res} {ad : ι → Addr} {i : Nat} {x : Str} {c : Addr} {v0 : Option Value} {e : Expr} {pos p : Pos} {Q : Flow → Shared → Prop} (H : Act K h₀ env nm vals D (.all rs) R s₀ s) (pw : PW rs) (hi : rs[i]? = some (.cell c v0)) (hl : env.kindOf x = some .cell) (hc : env.cells.lookup x = some c) (h0 : h₀.get? c = none) (hD : c ∈ D ∨ s₀.heap.get? c = none) (r : Rm n A)
    (he : EvaP prog w n s.heap (eval e env) fun v h' => ∃ i, v = .ref (ad i) ∧ (mk i).I h' ∧ ∀ b, (mk i).fp b → s.heap.get? b = none)
    (k : ∀ j s', Act K h₀ env nm vals D (.all (rs.set i (.cell c (some (.ref (ad j)))) ++ [mk j])) R s₀ s' → PW (rs.set i (.cell c (some (.ref (ad j)))) ++ [mk j]) → Own h₀ D s₀ (mk j) → Q .next s') (hsw : swapsWith e (some (.Name x p)) pos.line env = Pure.pure false := by rfl) :
    wpAny (model prog w) A (exec (.Assign [.Name x p] e pos) env) Q E s := by
  refine x_cell H pw hi hl hc h0 hD r he (fun v s1 s2 pv x1 x2 H2 pw2 => ?_) hsw
  obtain ⟨j, rfl, hI, hf⟩ := pv
  have hcm : Res.cell c v0 ∈ rs := List.mem_of_getElem? hi
  have hlc : ∀ b, (mk j).fp b → b ≠ c := fun b hb q => (H.fresh (hf b hb)).1 _ hcm q
  obtain ⟨H3, pw3⟩ := H2.push pw2 (Res.I_off hI x2 fun b hb f => by rw [List.mem_singleton.mp hb] at f; exact hlc _ f rfl) fun b hb => by
    obtain ⟨f1, f2, f3⟩ := H.fresh (hf b hb)
    refine ⟨fun q hq => ?_, f2, f3⟩
    rcases List.mem_or_eq_of_mem_set hq with z | z
    · exact f1 q z
    · rw [z]; exact hlc b hb
  exact k j s2 H3 pw3 fun b hb => ⟨Gr.none H.cx.gb (hf b hb), H.sx.pre (hf b hb)⟩
/-- a list made, as a new thing -/
theorem ev_lpn {t : Sem Value} {xs : List Value} (x : EvaP prog w n h t fun v h' => ∃ q, v = .ref q ∧ Lp h' q xs ∧ h.get? q = none) : EvaP prog w n h t fun v h' => ∃ i : Addr, v = .ref i ∧ (Res.lp i xs).I h' ∧ ∀ b, (Res.lp i xs).fp b → h.get? b = none :=
  x.imp fun v h' ⟨q, e, L, f⟩ => ⟨q, e, L, fun b hb => by rw [show b = q from hb]; exact f⟩
end
def wd (c : String) (k : Nat) : Str := Str.ofString c ++ Str.ofString (toString (k : Int))
theorem wd_len : ∀ c ∈ ["w", "o"], ∀ k : Nat, k < 30 → (Str.ofString c).length + (Str.ofString (toString ((k : Nat) : Int))).length ≤ 1000 := by decide +kernel
theorem wd_nd : ((List.range 15).map (wd "w") ++ (List.range 4).map (wd "o")).Nodup := by decide +kernel
def lwords (m : Nat) : List Str := (List.range m).map (wd "w") ++ (List.range 4).map (wd "o")
theorem lwords_nd {m : Nat} (h : m ≤ 15) : (lwords m).Nodup := by
  refine List.Nodup.sublist ?_ wd_nd
  exact List.Sublist.append ((List.range_sublist.mpr h).map _) (List.Sublist.refl _)
end Mine
end
section
open PySem PySem.W PyProof.Rows PySem.Calls
set_option Elab.async false
set_option maxRecDepth 100000
set_option maxHeartbeats 4000000
set_option linter.unusedVariables false
set_option pp.deepTerms false
set_option pp.maxSteps 700
namespace Mine
local macro_rules | `(tactic| tm_at "at") => `(tactic| with_reducible (repeat (first | exact At.head | apply At.tail)))
local macro_rules | `(tactic| tm_at "ok") => `(tactic| first | trivial | assumption | decide | (simp only [okI]; omega) | (simp only [okI]; mul_fits))
local macro_rules | `(tactic| tm_at "bop") => `(tactic| exact fun _ _ => bo_any (by tm_at "ok"))
local macro_rules | `(tactic| tm_at "cm") => `(tactic| exact fun _ _ => co_any rfl)
local macro_rules | `(tactic| tm_at "obj") => `(tactic| first | exact QFAt.ob (by assumption) | assumption)
local macro_rules | `(tactic| tm_at "cls") => `(tactic| first | exact cls_qf _ | exact cls_bit _)
local macro_rules | `(tactic| tm_at "lt") => `(tactic| first | assumption | omega)
local macro_rules | `(tactic| tm_at "bitx") => `(tactic| first | exact QFAt.bo (by assumption) | exact QFAt.bc (by assumption) | exact QFAt.bs (by assumption))
local macro_rules | `(tactic| tm_at "ev") => `(tactic| first
  | with_reducible exact ev_int | with_reducible exact ev_true | with_reducible exact ev_none | with_reducible exact ev_str
  | ((with_reducible refine' ev_loc ?h1 ?h2 ?h3); (case h1 => assumption); (case h2 => tm_at "at"); (case h3 => rfl))
  | ((with_reducible refine' ev_attr (Cx.inK ?h1) ?h2 ?h3 ?h4 ?h5 ?h6 ?h7 ?h8); (case h1 => assumption); (case h4 => tm_at "ev"); (case h3 => tm_at "obj"); (case h2 => tm_at "cls"); (case h5 => tm_at "at"); (case h6 => rfl); (case h7 => rfl); (case h8 => rfl))
  | ((with_reducible refine' ev_bin ?h1 ?h2 ?h3); (case h1 => tm_at "ev"); (case h2 => tm_at "ev"); (case h3 => tm_at "bop"))
  | ((with_reducible refine' ev_bit ?h1 ?h2 ?h3 ?h4 ?h5 ?h6 ?h7 ?h8); (case h1 => assumption); (case h3 => tm_at "ev"); (case h4 => tm_at "ev"); (case h2 => tm_at "bitx"); (case h5 => tm_at "lt"); (case h6 => tm_at "lt"); (case h7 => tm_at "lt"); (case h8 => (intros; rfl)))
  | ((with_reducible refine' ev_un ?h1 ?h2); (case h1 => tm_at "ev"); (case h2 => exact fun _ => uo_any rfl)))
local macro_rules | `(tactic| tm_at "eb") => `(tactic| first
  | ((with_reducible refine' eb_cmp ?h1 ?h2 ?h3 ?h4); (case h1 => tm_at "ev"); (case h2 => tm_at "ev"); (case h3 => tm_at "cm"); (case h4 => rfl))
  | ((with_reducible refine' eb_bool ?h1); (case h1 => tm_at "eb"))
  | ((with_reducible refine' eb_or ?h1 ?h2); (case h1 => tm_at "eb"); (case h2 => tm_at "eb"))
  | ((with_reducible refine' eb_and ?h1 ?h2); (case h1 => tm_at "eb"); (case h2 => tm_at "eb"))
  | with_reducible exact eb_or_nil | with_reducible exact eb_and_nil
  | ((with_reducible refine' eb_not ?h1); (case h1 => tm_at "eb")))
abbrev sL (xs : List Str) : List Value := xs.map fun x => vs x
section
variable {w : World} {s₁ s : Shared} {h₀ : Heap} {mg mb : Str → Option Value} {env : Env} {A : Around} {sa cs ct cw ml ol : Addr} {zs : List Int} {u4 u5 : Option Value}
theorem lmarks_lt (zs : List Int) : ∀ k, ∀ x ∈ lmarks zs k, x < 2 ^ 32
  | 0, _, h => nomatch h
  | k + 1, x, h => by
    rw [lmarks] at h
    rcases List.mem_append.mp h with z | z
    · exact lmarks_lt zs k x z
    · rw [List.mem_singleton.mp z]
      split
      · rw [List.getD_eq_getElem?_getD]
        cases q : (lmarks zs k)[k - 1]? with
        | none => exact (by decide : (0 : Nat) < 2 ^ 32)
        | some y => exact lmarks_lt zs k y (List.mem_of_getElem? q)
      · exact mark_lt _ _
/-- one part of the words -/
theorem ev_words {elt iter : Expr} {x : Str} {px : Pos} {scope : Scope} {pos : Pos} {nm : List Str} {vals : List (Option Value)} {h : Heap} {N : Nat} {c : String} (C : Cx (KK w) h₀ env nm vals h) (hN : N ≤ 15) (hc : c ∈ ["w", "o"])
    (hfree : (scope.names.all fun y => !(y.2 == NameKind.free)) = true) (hcell : (scope.names.all fun x => x.2 != .cell) = true) (hkind : scope.kind = .function) (hnames : ∀ y ∈ scope.names, y.2 = .local → scope.names.lookup y.1 = some .local) (hx : scope.names.lookup x = some .local)
    (hit : EvaP lawProg w 100 h (eval iter env) fun v h' => ∃ rg t u v', v = .ref rg ∧ IsRange h' rg 0 (0 + N) 1 t u v')
    (helt : ∀ (k : Nat) (C' : Addr) (s' : Shared), k < N → h₀.objs.size ≤ C' → Gr h s'.heap → (∃ m v', s'.heap.Ns C' m ∧ m x = some v' ∧ er v' = vi (0 + k)) → Eva lawProg w 100 s'.heap (eval elt (compEnvC scope [] C' env)) (vs (wd c k)))
    (hs : ∀ x, foldedSetIterable iter env x = Pure.pure x := by intro _; rfl) :
    EvaP lawProg w 100 h (eval (.ListComp elt [⟨.Name x px, iter, [], 0⟩] scope pos) env) (fun v h' => ∃ q, v = .ref q ∧ Lp h' q (sL ((List.range N).map (wd c)))) := by
  refine (ev_comp (f := fun k => vs (wd c k)) C (by omega) (by decide) (by decide) (clos_none hfree) (cells_none hcell) hkind hnames hx hit helt hs).imp fun v h' ⟨q, e, L, _⟩ => ⟨q, e, ?_⟩
  unfold sL; rw [List.map_map]; exact L
abbrev lv8 (zs : List Int) (ml ol : Addr) (u4 u5 : Option Value) : List (Option Value) := [some (vi (lhead zs : Int)), some (vi (lwidth zs : Int)), some (vi (lmany zs : Int)), some (.ref ml), u4, u5, some (.ref ol), none, none, none, none, none, none, none, none, none, none, none, none, none]
abbrev lr6 (zs : List Int) (sa cs ct cw ml ol : Addr) : List Res := [.cell cs (some (.ref sa)), .cell ct none, .cell cw none, .tab #[], .lp ml (mL (lmarks zs (lmany zs))), .lp ol (mL (lothers zs))]
abbrev ltable (zs : List Int) : List Nat := lmarks zs (lmany zs) ++ lothers zs
abbrev lr8 (zs : List Int) (sa cs ct cw ml ol wl tl : Addr) (ps : Array Value) : List Res := [.cell cs (some (.ref sa)), .cell ct (some (.ref tl)), .cell cw (some (.ref wl)), .tab ps, .lp ml (mL (lmarks zs (lmany zs))), .lp ol (mL (lothers zs)), .lp wl (sL (lwords (lmany zs))), .lp tl (mL (ltable zs))]
theorem lmany_le (zs : List Int) : lmany zs ≤ 15 := by unfold lmany; omega
theorem lmany_ge (zs : List Int) : 8 ≤ lmany zs := by unfold lmany; omega
theorem law3 (X : LX w s₁ h₀ mg mb env A sa cs ct cw zs) (H : Act (KK w) h₀ env lawNm (lv8 zs ml ol u4 u5) [481] (.all (lr6 zs sa cs ct cw ml ol)) (.keep s₁.heap [481]) s₁ s) (pw : PW (lr6 zs sa cs ct cw ml ol))
    (next : ∀ s wl tl, Act (KK w) h₀ env lawNm (lv8 zs ml ol u4 u5) [481] (.all (lr8 zs sa cs ct cw ml ol wl tl #[])) (.keep s₁.heap [481]) s₁ s → PW (lr8 zs sa cs ct cw ml ol wl tl #[]) →
      wpAny (model lawProg w) A (execs ((lawStmts w).drop 8) env) (LEnd s₁) (fun _ _ => False) s) :
    wpAny (model lawProg w) A (execs ((lawStmts w).drop 6) env) (LEnd s₁) (fun _ _ => False) s := by
  show wpAny (model lawProg w) A (execs (_ :: _ :: (lawStmts w).drop 8) env) _ _ s
  generalize (lawStmts w).drop 8 = rest at *
  have C := H.cx
  have r := X.r
  have hm := lmany_le zs
  refine wpAny_execs_cons (x_cellN (i := 2) (mk := fun q : Addr => Res.lp q (sL (lwords (lmany zs)))) (ad := id) H pw rfl (X.kind (by kernel_rfl)) X.lw (Gr.none X.g0 X.nw) (.inr X.nw) r ?_ (fun wl s2 H2 pw2 _ => ?_))
  · refine (ev_lpn (xs := sL ((List.range (lmany zs)).map (wd "w")) ++ sL ((List.range 4).map (wd "o"))) (ev_listadd (P1 := fun _ _ => True) (P2 := fun _ _ => True) (ev_words (c := "w") C hm (by decide) (by decide +kernel) (by decide +kernel) rfl (by decide +kernel) (by decide +kernel) ?_ fun k C' s' hk hb g hm => ?_) (fun h' g => ev_words (c := "o") (N := 4) (C.gr g) (by decide) (by decide) (by decide +kernel) (by decide +kernel) rfl (by decide +kernel) (by decide +kernel) ?_ fun k C' s' hk hb g' hm => ?_) (by simp; omega))).imp fun v h' p => ?_
    · exact ev_range1 C (by kernel_rfl) (X.kind (by kernel_rfl)) (Eva.cast (by tm_at "ev") (congrArg vi (by omega)))
    · have hm' := hm
      exact ev_stradd ev_str (ev_strint (i := k) (C.comp (x := "at") rfl (by decide +kernel) (by decide) hb g hm) (by kernel_rfl) (by rfl) (Eva.cast (ev_loc (C.comp (x := "at") rfl (by decide +kernel) (by decide) hb g hm') At.head rfl) (congrArg vi (by omega))) (by omega)) (wd_len "w" (by decide) k (by omega))
    · exact ev_range1 (C.gr g) (by kernel_rfl) (X.kind (by kernel_rfl)) (Eva.cast ev_int (by rfl))
    · have hm' := hm
      exact ev_stradd ev_str (ev_strint (i := k) ((C.gr g).comp (x := "at") rfl (by decide +kernel) (by decide) hb g' hm) (by kernel_rfl) (by rfl) (Eva.cast (ev_loc ((C.gr g).comp (x := "at") rfl (by decide +kernel) (by decide) hb g' hm') At.head rfl) (congrArg vi (by omega))) (by omega)) (wd_len "o" (by decide) k (by omega))
    · rw [← List.map_append] at p; exact p
  have C := H2.cx
  have Lm : Lp s2.heap ml (mL (lmarks zs (lmany zs))) := H2.res (i := 4) rfl
  have Lo : Lp s2.heap ol (mL (lothers zs)) := H2.res (i := 5) rfl
  refine wpAny_execs_cons (x_cellN (i := 1) (mk := fun q : Addr => Res.lp q (mL (ltable zs))) (ad := id) H2 pw2 rfl (X.kind (by kernel_rfl)) X.lt (Gr.none X.g0 X.nt) (.inr X.nt) r ?_ (fun tl s3 H3 pw3 _ => next s3 wl tl H3 pw3))
  refine (ev_lpn (xs := mL (lmarks zs (lmany zs)) ++ mL (lothers zs)) (ev_listadd (P1 := fun _ _ => True) (P2 := fun _ _ => True) ((ev_loc C (i := 3) (v := .ref ml) (by tm_at "at") rfl).impG fun v h' e g => ⟨ml, er_ref e, Lm.gr g⟩) (fun h1 g1 => (ev_loc (C.gr g1) (i := 6) (v := .ref ol) (by tm_at "at") rfl).impG fun v h' e g => ⟨ol, er_ref e, (Lo.gr g1).gr g⟩) (by rw [List.length_map, List.length_map, lmarks_len]; unfold lothers; rw [List.length_map, List.length_range]; omega))).imp fun v h' p => ?_
  rw [← List.map_append] at p; exact p
end
end Mine
end
section
open PySem PySem.W PyProof.Rows PySem.Calls
set_option Elab.async false
set_option maxRecDepth 100000
set_option maxHeartbeats 4000000
set_option linter.unusedVariables false
set_option pp.deepTerms false
set_option pp.maxSteps 700
namespace Mine
local macro_rules | `(tactic| tm_at "at") => `(tactic| with_reducible (repeat (first | exact At.head | apply At.tail)))
local macro_rules | `(tactic| tm_at "ok") => `(tactic| first | trivial | assumption | decide | (simp only [okI]; omega) | (simp only [okI]; mul_fits))
local macro_rules | `(tactic| tm_at "bop") => `(tactic| exact fun _ _ => bo_any (by tm_at "ok"))
local macro_rules | `(tactic| tm_at "cm") => `(tactic| exact fun _ _ => co_any rfl)
local macro_rules | `(tactic| tm_at "obj") => `(tactic| first | exact QFAt.ob (by assumption) | assumption)
local macro_rules | `(tactic| tm_at "cls") => `(tactic| first | exact cls_qf _ | exact cls_bit _)
local macro_rules | `(tactic| tm_at "lt") => `(tactic| first | assumption | omega)
local macro_rules | `(tactic| tm_at "bitx") => `(tactic| first | exact QFAt.bo (by assumption) | exact QFAt.bc (by assumption) | exact QFAt.bs (by assumption))
local macro_rules | `(tactic| tm_at "ev") => `(tactic| first
  | with_reducible exact ev_int | with_reducible exact ev_true | with_reducible exact ev_none | with_reducible exact ev_str
  | ((with_reducible refine' ev_loc ?h1 ?h2 ?h3); (case h1 => assumption); (case h2 => tm_at "at"); (case h3 => rfl))
  | ((with_reducible refine' ev_attr (Cx.inK ?h1) ?h2 ?h3 ?h4 ?h5 ?h6 ?h7 ?h8); (case h1 => assumption); (case h4 => tm_at "ev"); (case h3 => tm_at "obj"); (case h2 => tm_at "cls"); (case h5 => tm_at "at"); (case h6 => rfl); (case h7 => rfl); (case h8 => rfl))
  | ((with_reducible refine' ev_bin ?h1 ?h2 ?h3); (case h1 => tm_at "ev"); (case h2 => tm_at "ev"); (case h3 => tm_at "bop"))
  | ((with_reducible refine' ev_bit ?h1 ?h2 ?h3 ?h4 ?h5 ?h6 ?h7 ?h8); (case h1 => assumption); (case h3 => tm_at "ev"); (case h4 => tm_at "ev"); (case h2 => tm_at "bitx"); (case h5 => tm_at "lt"); (case h6 => tm_at "lt"); (case h7 => tm_at "lt"); (case h8 => (intros; rfl)))
  | ((with_reducible refine' ev_un ?h1 ?h2); (case h1 => tm_at "ev"); (case h2 => exact fun _ => uo_any rfl)))
local macro_rules | `(tactic| tm_at "eb") => `(tactic| first
  | ((with_reducible refine' eb_cmp ?h1 ?h2 ?h3 ?h4); (case h1 => tm_at "ev"); (case h2 => tm_at "ev"); (case h3 => tm_at "cm"); (case h4 => rfl))
  | ((with_reducible refine' eb_bool ?h1); (case h1 => tm_at "eb"))
  | ((with_reducible refine' eb_or ?h1 ?h2); (case h1 => tm_at "eb"); (case h2 => tm_at "eb"))
  | ((with_reducible refine' eb_and ?h1 ?h2); (case h1 => tm_at "eb"); (case h2 => tm_at "eb"))
  | with_reducible exact eb_or_nil | with_reducible exact eb_and_nil
  | ((with_reducible refine' eb_not ?h1); (case h1 => tm_at "eb")))
theorem ints_of : ∀ {its : List Value} {xs : List Int}, its.map er = xs.map vi → IntsAre its xs
  | [], [], _ => .nil
  | v :: its, x :: xs, h => by
    have h1 := List.cons.inj h
    obtain ⟨t, rfl⟩ := er_vi h1.1
    exact .cons x t (ints_of h1.2)
theorem strs_of : ∀ {its : List Value} {xs : List Str}, its.map er = sL xs → StrsAre its xs
  | [], [], _ => .nil
  | v :: its, x :: xs, h => by
    have h1 := List.cons.inj h
    obtain ⟨t, rfl⟩ := er_vs h1.1
    exact .cons x t (strs_of h1.2)
theorem mL_ints {xs : List Nat} : mL xs = (xs.map fun (x : Nat) => (x : Int)).map vi := by rw [List.map_map]; rfl
section
variable {prog : Program} {w : World} {n : Nat} {h h₀ : Heap} {env : Env} {K : Frag} {nm : List Str} {vals : List (Option Value)} {D : List Addr} {R : Res} {s₀ s : Shared} {A : Around} {E : Value → Shared → Prop} {l : Addr} {x y : Value}
theorem Lp.toA {vs : List Value} (L : Lp h l vs) : ∃ its : List Value, h.IsList l its.toArray ∧ its.map er = vs ∧ ∃ n, h.get? l = some { cls := .type "list", dict := none, data := .seq its.toArray n, slots := #[] } := by
  obtain ⟨its, n, e, r⟩ := L
  exact ⟨its.toList, ⟨_, e, rfl, n, by simp⟩, r, n, by simpa using e⟩
theorem Ls.toA {vs : List Value} (L : Ls h l vs) : ∃ its : List Value, h.IsList l its.toArray ∧ its.map er = vs := by
  obtain ⟨its, e, r⟩ := L
  exact ⟨its.toList, by simpa using e, r⟩
theorem co_in_str {k : Str} {ys : List Str} (L : Ls h l (sL ys)) (ha : er x = vs k) (hb : er y = .ref l) : EvaP prog w n h (compareOp .In x y) fun v _ => v = .bool (decide (k ∈ ys)) := by
  obtain ⟨t, rfl⟩ := er_vs ha
  obtain rfl := er_ref hb
  intro A Q E s r g q
  obtain ⟨its, L1, e⟩ := (L.gr g).toA
  refine in_list_strs L1 (strs_of e) (q _ _ ?_ (.refl _ _))
  congr 1
  rw [Bool.eq_iff_iff]
  simp
theorem any_nat {k : Nat} {ys : List Nat} : ((ys.map fun (x : Nat) => (x : Int)).any (· == (k : Int))) = decide (k ∈ ys) := by
  rw [Bool.eq_iff_iff, List.any_map]
  simp only [List.any_eq_true, Function.comp_apply, beq_iff_eq, decide_eq_true_eq]
  constructor
  · rintro ⟨z, hz, e⟩; rw [show k = z by omega]; exact hz
  · exact fun h => ⟨k, h, rfl⟩
theorem co_in_nat {k : Nat} {ys : List Nat} (L : Ls h l (mL ys)) (ha : er x = vi (k : Int)) (hb : er y = .ref l) : EvaP prog w n h (compareOp .In x y) fun v _ => v = .bool (decide (k ∈ ys)) := by
  obtain ⟨t, rfl⟩ := er_vi ha
  obtain rfl := er_ref hb
  intro A Q E s r g q
  obtain ⟨its, L1, e⟩ := (L.gr g).toA
  exact in_list_ints L1 (ints_of (e.trans mL_ints)) (q _ _ (by rw [any_nat]) (.refl _ _))
theorem co_notin_nat {k : Nat} {ys : List Nat} (L : Ls h l (mL ys)) (ha : er x = vi (k : Int)) (hb : er y = .ref l) : EvaP prog w n h (compareOp .NotIn x y) fun v _ => v = .bool (!decide (k ∈ ys)) := by
  obtain ⟨t, rfl⟩ := er_vi ha
  obtain rfl := er_ref hb
  intro A Q E s r g q
  obtain ⟨its, L1, e⟩ := (L.gr g).toA
  exact notin_list_ints L1 (ints_of (e.trans mL_ints)) (q _ _ (by rw [any_nat]) (.refl _ _))
theorem strs_at {its : List Value} {ys : List Str} (h : its.map er = sL ys) {j : Nat} {y : Str} (e : ys[j]? = some y) : ∃ t, its[j]? = some (.str y t) := (strs_of h).at e
/-- the place of a word in a list of words -/
theorem ev_strindex {o e : Expr} {apos pos : Pos} {pl : Sem Bool} {k : Str} {ys : List Str} (h1 : Eva prog w n h (eval o env) (.ref l)) (h2 : Eva prog w n h (eval e env) (vs k)) (L : Lp h l (sL ys)) (hk : k ∈ ys) (hsz : ys.length ≤ 1000)
    (hst : starEach [e] env = (false, eval e env) :: starEach [] env := by rfl)
    (he : eval (.Call (.Attribute o "index" apos) [e] [] pos) env = (do
      let ov ← eval o env
      standAt apos.atName
      let (f, first) ← holding [ov] (getMethod ov "index" pl)
      callWith pos f first (backTo pos (starEach [e] env)) []) := by rfl) :
    Eva prog w n h (eval (.Call (.Attribute o "index" apos) [e] [] pos) env) (vi (ys.idxOf k : Int)) := by
  intro A Q E s r g q
  refine MethodCall_ (h1 A _ E s r g fun v' s1 p x1 => ?_) he
  obtain rfl := er_ref p
  refine getMethod_list (L.gr (g.trans x1.gr)) PySem.F.slot_list_index.lookup PySem.F.type_list_index ?_
  rw [hst]
  refine Calls.callWith_builtin rfl (Calls.evalArgs_plain (Calls.spliced_cons (h2 A _ E s1 r (g.trans x1.gr) fun v2 s2 p2 x2 => Calls.spliced_nil ?_)))
  obtain ⟨t, rfl⟩ := er_vs p2
  obtain ⟨its, _, e, n, ho⟩ := (L.gr ((g.trans x1.gr).trans x2.gr)).toA
  have hlen : its.length = ys.length := by have := congrArg List.length e; simpa using this
  have hj : ys.idxOf k < ys.length := List.idxOf_lt_length_of_mem hk
  have at' : ∀ (i : Nat) (hi : i < its.length) (hy : i < ys.length), isStrOf k its[i] = (ys[i] == k) := fun i hi hy => by
    obtain ⟨t, z⟩ := strs_at e (List.getElem?_eq_getElem hy)
    rw [List.getElem?_eq_getElem hi] at z
    rw [Option.some.inj z]; rfl
  refine call_meets PySem.F.slot_list_index ⟨_, ho, rfl⟩ PySem.F.entry_list_index (PySem.F.args_list_index_2 _ _)
    (MeetsSeq.list_index l its.toArray n (.str k t) (isStrOf k) (fun y hy => eq_isStrOf k t (strs_of e) y (by simpa using hy)) (ys.idxOf k) (by simp; omega) (by omega) ?_ ?_) ⟨ho, q _ _ rfl ((x1.trans x2).trans .tok)⟩
  · show isStrOf k its[ys.idxOf k] = true
    rw [at' _ (by omega) hj, List.getElem_idxOf hj]; simp
  · intro i hi hlt
    have hi' : i < its.length := by simpa using hi
    show isStrOf k its[i] = false
    rw [at' i hi' (by omega)]
    exact List.not_of_lt_findIdx hlt |> fun z => by simpa using z
/-- entering a def that is no part of the text's own objects -/
theorem fun_enterC {f : Addr} {fd : FuncData} {body : List Stmt} {args args2 avs2 : List Value} {oc od sl} {k : Nat} {P : Value → Heap → Prop} {nm : List Str} (B : Bas K h₀) (gb : Gr h₀ h)
    (hf : h.get? f = some ⟨oc, od, .func fd, sl⟩) (hb : fd.body = .stmts body) (hc : h.CodeRec fd.code fd.qualname)
    (hbind : ∀ s : Shared, BindsTo s fd ⟨args, []⟩ ((nm.take args2.length).zip args2)) (ha : args2.map er = avs2)
    (hloc : (nm.all fun x => fd.scope.names.lookup x == some .local && !(x == ("__debug__" : Str))) = true) (hnd : decide nm.Nodup = true)
    (hcell : (fd.scope.names.all fun x => x.2 != .cell) = true)
    (body_ : ∀ env s s', Gr h s.heap → env.scope = fd.scope → env.cells = fd.closure → Act K h₀ env nm (avs2.map some ++ List.replicate k none) [] (.gr h) .emp s s' →
      ∀ (A : Around) (Q : Flow → Shared → Prop), Rm n A → (∀ v s', P v s'.heap → SX [] s s' → Q (.ret v) s') → (∀ s', P .none s'.heap → SX [] s s' → Q .next s') →
      wpAny (model prog w) A (execs body env) Q (fun _ _ => False) s')
    (hg : fd.globals = mainGlobals := by rfl) (hbu : fd.builtins = builtinsNs := by rfl)
    (hco : fd.scope.isCoroutine = false := by rfl) (hgen : fd.scope.isGenerator = false := by rfl) (hk : fd.scope.kind = .function := by rfl) :
    FunP prog w (n + 1) h f args P := by
  intro A R s r g q
  have hF : ∀ L, FE (callEnv fd L f) nm := fun L => FE.of hk hloc hnd hg hbu
  have hloc : ∀ x ∈ (nm.take args2.length).zip args2, fd.scope.names.lookup x.1 = some .local := fun x hx =>
    ((hF 0).loc x.1 (List.mem_of_mem_take (List.of_mem_zip (by exact hx)).1)).1
  refine codeAny_call_def (binds := (nm.take args2.length).zip args2) r.room (g _ _ hf) rfl (B.nl.keeps (gb.trans g)) (hc.keeps g) hb (hbind s)
    (fun x hx => by have := List.all_eq_true.mp hcell x hx; simpa using this) hloc (fun h1 hn hk1 => ?_) hco hgen hk
  have hfresh := size_none s.heap
  refine wpAny_mono (body_ (callEnv fd s.heap.objs.size f) s _ g rfl rfl ⟨⟨hF _, ?_, B, (gb.trans g).trans hk1, B.ab (gb.trans g)⟩, SX.heap fun b o _ e => hk1 b o e, hfresh, fun b o e => hk1 b o (g b o e), trivial, fun _ _ q => q, fun ⟨o, e⟩ => (by have := g _ _ e; exact absurd (hfresh.symm.trans this) (by nofun)), id⟩ _ _ r.deeper
    (fun v s' p x => q v s' p x) (fun s' p x => q .none s' p x)) (fun _ _ z => z) fun _ _ z => z.elim
  exact locs_binds (hF 0).nd ha hn
end
/-! the law's own reading of words -/
noncomputable def rdDef (w : World) : Arguments × List Stmt × Scope := match (lawStmts w).drop 8 with
  | (.FunctionDef _ params body _ _ _ scope _ _ _) :: _ => (params, body, scope)
  | _ => default
abbrev rdQual : Str := "law.<locals>.reading"
noncomputable abbrev rdObj (w : World) (ct cw : Addr) (doc pm : Value) (c' : Addr) (ctv : Value) : Obj := fnMade "reading" rdQual (rdDef w).1 (rdDef w).2.1 (rdDef w).2.2 [("words", cw), ("table", ct)] doc pm c' ctv
noncomputable def Res.rd (w : World) (ct cw f c' : Addr) (doc pm ctv : Value) : Res := ⟨fun b => b = f ∨ b = c', fun h => h.get? f = some (rdObj w ct cw doc pm c' ctv) ∧ h.CodeRec (.ref c') rdQual,
  fun h h' k ⟨x, c, o, vs, t, e1, e2, r⟩ => ⟨k f _ (.inl rfl) x, c, o, vs, t, e1, k c o (by cases e1; exact .inr rfl) e2, r⟩, fun h ⟨x, c, o, vs, t, e1, e2, r⟩ b hb => hb.elim (fun z => by subst z; exact ⟨_, x⟩) fun z => by subst z; cases e1; exact ⟨o, e2⟩⟩
def rdV (ws : List Str) (tb : List Nat) (key : Str) : Nat := if key ∈ ws then tb.getD (ws.idxOf key) 0 else 0
theorem rd_loc (w : World) : ((["key", "seed"] : List Str).all fun x => (rdDef w).2.2.names.lookup x == some .local && !(x == ("__debug__" : Str))) = true := by kernel_rfl
theorem rd_cell (w : World) : ((rdDef w).2.2.names.all fun x => x.2 != .cell) = true := by kernel_rfl
theorem rd_co (w : World) : (rdDef w).2.2.isCoroutine = false := by kernel_rfl
theorem rd_gen (w : World) : (rdDef w).2.2.isGenerator = false := by kernel_rfl
theorem rd_fun (w : World) : (rdDef w).2.2.kind = .function := by kernel_rfl
abbrev rdFd (pr : Arguments) (bd : List Stmt) (sc : Scope) (ct cw : Addr) (doc pm : Value) (c' : Addr) (ctv : Value) : FuncData := fnX "reading" rdQual pr bd sc [("words", cw), ("table", ct)] .none .none doc pm none (.ref c') ctv
theorem rd_bind (w : World) (ct cw : Addr) (doc pm : Value) (c' : Addr) (ctv a1 a2 : Value) : bindArgs (rdFd (rdDef w).1 (rdDef w).2.1 (rdDef w).2.2 ct cw doc pm c' ctv) ⟨[a1, a2], []⟩ = Pure.pure [(("key" : Str), a1), (("seed" : Str), a2)] := by kernel_rfl
theorem enter_rd {prog : Program} {K : Frag} {w : World} {n : Nat} {h h₀ : Heap} {ct cw f c' : Addr} {doc pm ctv a1 a2 : Value} {avs2 : List Value} {pr : Arguments} {bd : List Stmt} {sc : Scope} {P : Value → Heap → Prop} (B : Bas K h₀) (gb : Gr h₀ h) (hf1 : h.get? f = some (fnMade "reading" rdQual pr bd sc [("words", cw), ("table", ct)] doc pm c' ctv)) (hf2 : h.CodeRec (.ref c') rdQual)
    (hb : bindArgs (rdFd pr bd sc ct cw doc pm c' ctv) ⟨[a1, a2], []⟩ = Pure.pure [(("key" : Str), a1), (("seed" : Str), a2)]) (ha : [a1, a2].map er = avs2)
    (hloc : ((["key", "seed"] : List Str).all fun x => sc.names.lookup x == some .local && !(x == ("__debug__" : Str))) = true) (hcell : (sc.names.all fun x => x.2 != .cell) = true) (hco : sc.isCoroutine = false) (hgen : sc.isGenerator = false) (hk : sc.kind = .function)
    (body_ : ∀ env s s', Gr h s.heap → env.scope = sc → env.cells = [(("words" : Str), cw), (("table" : Str), ct)] → Act K h₀ env ["key", "seed"] (avs2.map some ++ List.replicate 0 none) [] (.gr h) .emp s s' →
      ∀ (A : Around) (Q : Flow → Shared → Prop), Rm n A → (∀ v s', P v s'.heap → SX [] s s' → Q (.ret v) s') → (∀ s', P .none s'.heap → SX [] s s' → Q .next s') →
      wpAny (model prog w) A (execs bd env) Q (fun _ _ => False) s') : FunP prog w (n + 1) h f [a1, a2] P :=
  fun_enterC (k := 0) (fd := rdFd pr bd sc ct cw doc pm c' ctv) (nm := ["key", "seed"]) (args2 := [a1, a2]) B gb hf1 rfl hf2 (fun _ => .of_eq hb) ha hloc (by decide +kernel) hcell body_ rfl rfl hco hgen hk
section
variable {prog : Program} {w : World} {n : Nat} {h h₀ : Heap} {ct cw f c' wl tl : Addr} {doc pm ctv : Value}
theorem q_reading (B : Bas (KK w) h₀) {args : List Value} {key : Str} {ws : List Str} {tb : List Nat} (gb : Gr h₀ h) (hf : (Res.rd w ct cw f c' doc pm ctv).I h) (ht : (Res.cell ct (some (.ref tl))).I h) (hw : (Res.cell cw (some (.ref wl))).I h) (Lt : Lp h tl (mL tb)) (Lw : Lp h wl (sL ws)) (hlen : tb.length = ws.length) (hsz : ws.length ≤ 100)
    (ha : args.map er = [vs key, vi 0]) : FunP prog w (n + 1) h f args (fun v _ => er v = vi (rdV ws tb key : Int)) := by
  obtain ⟨a1, a2, rfl, h1, h2⟩ := m2 ha
  obtain ⟨hf1, hf2⟩ := hf
  refine enter_rd B gb hf1 hf2 (rd_bind w ct cw doc pm c' ctv a1 a2) (avs2 := [vs key, vi 0]) (by simp [h1, h2]) (rd_loc w) (rd_cell w) (rd_co w) (rd_gen w) (rd_fun w) ?_
  intro env s0 s g hs' hcl H A Q r q1 q2
  have C := H.cx
  have Lt1 := Lt.gr H.own
  have Lw1 := Lw.gr H.own
  have hk : env.scope.kind = .function := C.F.kind
  have ht1 := Res.I_gr ht H.own
  have hw1 := Res.I_gr hw H.own
  show wpAny _ _ (execs (_ :: _) env) _ _ _
  have tbl : ∀ {pos : Pos}, Eva prog w n s.heap (eval (.Name "table" pos) env) (.ref tl) := ev_free hk (kindOf_of hs' (by kernel_rfl)) (by rw [hcl]; rfl) ht1
  have wds : ∀ {pos : Pos}, Eva prog w n s.heap (eval (.Name "words" pos) env) (.ref wl) := ev_free hk (kindOf_of hs' (by kernel_rfl)) (by rw [hcl]; rfl) hw1
  refine y_ret H r (P := fun v _ => er v = vi (rdV ws tb key : Int)) (ev_ifexp (c := decide (key ∈ ws)) (eb_cmp (by tm_at "ev") wds fun a b ha hb => co_in_str Lw1.ls ha hb) (fun hc => ?_) (fun hc => ?_)) fun v s2 p H2 x2 => q1 v s2 p H2.sx
  · have hc := of_decide_eq_true hc
    have hi : ws.idxOf key < ws.length := List.idxOf_lt_length_of_mem hc
    refine Eva.cast (ev_item tbl Lt1.ls (ev_strindex (k := key) wds (by tm_at "ev") Lw1 hc (by omega)) (by omega) (by omega) (v := vi (tb.getD (ws.idxOf key) 0 : Nat)) ?_) ?_
    · rw [Int.toNat_natCast, List.getElem?_map, List.getD_eq_getElem?_getD, List.getElem?_eq_getElem (by omega)]; rfl
    · unfold rdV; rw [if_pos hc]
  · have hc := of_decide_eq_false hc
    refine Eva.cast ev_int ?_
    unfold rdV; rw [if_neg hc]; rfl
end
end Mine
end
section
open PySem PySem.W PyProof.Rows PySem.Calls
set_option Elab.async false
set_option maxRecDepth 100000
set_option maxHeartbeats 4000000
set_option linter.unusedVariables false
set_option pp.deepTerms false
set_option pp.maxSteps 700
namespace Mine
noncomputable def rdPos (w : World) : Pos := match (lawStmts w).drop 8 with
  | (.FunctionDef _ _ _ _ _ _ _ _ _ pos) :: _ => pos
  | _ => default
theorem rd_stmt (w : World) : (lawStmts w).drop 8 = .FunctionDef "reading" (rdDef w).1 (rdDef w).2.1 [] none [] (rdDef w).2.2 none "reading" (rdPos w) :: (lawStmts w).drop 9 := by kernel_rfl
theorem rd_free (w : World) : ((rdDef w).2.2.names.filter fun y => y.2 == .free) = [(("table" : Str), .free), (("words" : Str), .free)] := by kernel_rfl
theorem rd_kind (w : World) : (lawScope w).names.lookup ("reading" : Str) = some .local := by kernel_rfl
theorem rd_d0 (w : World) : (rdDef w).1.defaults = [] := by kernel_rfl
theorem rd_k0 (w : World) : (rdDef w).1.kw_defaults = [] := by kernel_rfl
theorem rd_ann (w : World) (env : Env) : annTrees (rdDef w).1 none env = [] := by kernel_rfl
section
variable {w : World} {s₁ s : Shared} {h₀ : Heap} {mg mb : Str → Option Value} {env : Env} {A : Around} {sa cs ct cw ml ol wl tl : Addr} {zs : List Int} {u4 u5 : Option Value}
abbrev lv9 (zs : List Int) (ml ol f : Addr) (u4 u5 : Option Value) : List (Option Value) := [some (vi (lhead zs : Int)), some (vi (lwidth zs : Int)), some (vi (lmany zs : Int)), some (.ref ml), u4, u5, some (.ref ol), some (.ref f), none, none, none, none, none, none, none, none, none, none, none, none]
noncomputable abbrev lr9 (w : World) (zs : List Int) (sa cs ct cw ml ol wl tl f c' : Addr) (doc pm ctv : Value) (ps : Array Value) : List Res := [.cell cs (some (.ref sa)), .cell ct (some (.ref tl)), .cell cw (some (.ref wl)), .tab ps, .lp ml (mL (lmarks zs (lmany zs))), .lp ol (mL (lothers zs)), .lp wl (sL (lwords (lmany zs))), .lp tl (mL (ltable zs)), .rd w ct cw f c' doc pm ctv]
theorem law4 (X : LX w s₁ h₀ mg mb env A sa cs ct cw zs) (H : Act (KK w) h₀ env lawNm (lv8 zs ml ol u4 u5) [481] (.all (lr8 zs sa cs ct cw ml ol wl tl #[])) (.keep s₁.heap [481]) s₁ s) (pw : PW (lr8 zs sa cs ct cw ml ol wl tl #[]))
    (next : ∀ s f c' doc pm ctv ps, Act (KK w) h₀ env lawNm (lv9 zs ml ol f u4 u5) [481] (.all (lr9 w zs sa cs ct cw ml ol wl tl f c' doc pm ctv ps)) (.keep s₁.heap [481]) s₁ s → PW (lr9 w zs sa cs ct cw ml ol wl tl f c' doc pm ctv ps) →
      wpAny (model lawProg w) A (execs ((lawStmts w).drop 9) env) (LEnd s₁) (fun _ _ => False) s) :
    wpAny (model lawProg w) A (execs ((lawStmts w).drop 8) env) (LEnd s₁) (fun _ _ => False) s := by
  rw [rd_stmt]
  generalize (lawStmts w).drop 9 = rest at *
  have C := H.cx
  have r := X.r
  have kp : ∀ {b : Addr} {o : Obj}, b ≠ 481 → s₁.heap.get? b = some o → s.heap.get? b = some o := fun hb e => H.rest _ _ (by simpa using hb) e
  have hP : s.heap.get? 481 = some (tabObj #[]) := H.res (i := 3) rfl
  have hkd : env.kindOf "reading" = some .local := X.kind (rd_kind w)
  have hqual : qualnameIn env "reading" "reading" = rdQual := by
    unfold qualnameIn
    rw [hkd, X.qual]
    decide +kernel
  have hcl : closureFor (rdDef w).2.2 env = Pure.pure [(("words" : Str), cw), (("table" : Str), ct)] := by
    rw [clos_gen (f := fun x => if x = "table" then ct else cw) (fun y hy e => ?_), rd_free]
    · rfl
    · have hm : y ∈ (rdDef w).2.2.names.filter fun y => y.2 == .free := List.mem_filter.mpr ⟨hy, e⟩
      rw [rd_free] at hm
      simp only [List.mem_cons, List.not_mem_nil, or_false] at hm
      rcases hm with z | z <;> subst z
      · exact X.lt
      · exact X.lw
  have hg : s.heap.Ns mainGlobals mg := X.C.g.at' fun o e => kp (by decide) e
  have hC : CodeHd s.heap 483 481 := by
    obtain ⟨o, vs, file, tf, flags, tg, inF, text, tt, e, z⟩ := X.C.ct
    exact ⟨o, vs, file, tf, flags, tg, inF, text, tt, kp (by decide) e, z⟩
  have hbi : s.heap.BuiltinsAt mg 481 := by
    obtain ⟨bm, ob, b1, b2, b3, b4, b5, b6⟩ := X.C.bm
    have h481 : bm ≠ 481 := fun q => by rw [q, X.C.tb] at b3; cases b3; cases b4
    refine ⟨bm, ob, b1, b2, fun q => ?_, h481, kp h481 b3, b4, b5, b6⟩
    obtain ⟨o, es, ep, e, hd, _⟩ := X.C.g
    rw [q, e] at b3; cases b3; rw [hd] at b6; cases b6
  refine wpAny_execs_cons (nestDef_K (rd_d0 w) (rd_k0 w) (rd_ann w env) ?_)
  rw [hqual]
  refine makeFunction_K hcl C.F.gl hg X.code hC hP trivial rfl (by decide) hbi fun c' ctv doc h' tk hx hge hlt hrec htb => ?_
  generalize hf : h'.objs.size = f
  generalize hob : fnMade "reading" rdQual (rdDef w).1 (rdDef w).2.1 (rdDef w).2.2 [("words", cw), ("table", ct)] doc ((mg "__name__").getD .none) c' ctv = ob
  have hnf : s.heap.get? f = none := by
    cases q : s.heap.get? f with
    | none => rfl
    | some o =>
      have h1 : f < s.heap.objs.size := Heap.lt_size q
      have h2 : (s.heap.objs.size : Nat) ≤ c' := hge
      have h3 : (c' : Nat) < h'.objs.size := hlt
      have h4 : (h'.objs.size : Nat) = f := hf
      have h1' : (f : Nat) < s.heap.objs.size := h1
      exact absurd h1' (by omega)
  have hnc : s.heap.get? c' = none := Heap.get?_none_of_le hge
  have x : SX [481] s { s with heap := h'.push ob, toks := tk } := SX.heap fun b o nb e => Heap.get?_push_of_some _ (hx b o (by simpa using nb) e)
  obtain ⟨H2, pw2⟩ := H.upd (i := 3) (r' := .tab (#[] ++ #[rawInt (rdPos w).line, rawInt (rdPos w).col, .ref c'])) pw rfl x (fun b hb => by rw [List.mem_singleton.mp hb]; exact ⟨rfl, X.p0, .inl (by simp)⟩) (Heap.get?_push_of_some _ htb) fun b hb => .inl hb
  have fresh2 : ∀ b, s.heap.get? b = none → (∀ q ∈ (lr8 zs sa cs ct cw ml ol wl tl #[]).set 3 (.tab (#[] ++ #[rawInt (rdPos w).line, rawInt (rdPos w).col, .ref c'])), ¬ q.fp b) ∧ ¬ (Res.keep s₁.heap [481]).fp b ∧ b ≠ env.locals := fun b hb => by
    obtain ⟨f1, f2, f3⟩ := H.fresh hb
    refine ⟨fun q hq => ?_, f2, f3⟩
    rcases List.mem_or_eq_of_mem_set hq with z | z
    · exact f1 q z
    · rw [z]; exact fun z => by rw [show b = 481 from z, hP] at hb; cases hb
  obtain ⟨H3, pw3⟩ := H2.push (r := .rd w ct cw f c' doc ((mg "__name__").getD .none) ctv) pw2 ⟨by rw [← hf]; show (h'.push ob).get? _ = some (fnMade _ _ _ _ _ _ _ _ _ _); rw [hob]; exact Heap.get?_push_size _ (by rw [← hob]; rfl), hrec.push _⟩ fun b hb => by
    rcases hb with z | z <;> rw [z]
    · exact fresh2 f hnf
    · exact fresh2 c' hnc
  exact x_store (i := 7) H3 (x := "reading") (by with_reducible (repeat (first | exact At.head | apply At.tail))) rfl fun s4 H4 x4 => next s4 f c' doc _ ctv _ H4 pw3
end
end Mine
end
section
open PySem PySem.W PyProof.Rows PySem.Calls
set_option Elab.async false
set_option maxRecDepth 100000
set_option maxHeartbeats 4000000
set_option linter.unusedVariables false
set_option pp.deepTerms false
set_option pp.maxSteps 700
namespace Mine
/-! the reading, as owned -/
noncomputable def RfR (w : World) (zs : List Int) (ct cw wl tl f c' : Addr) (doc pm ctv : Value) (h₀ : Heap) : Res := .all [.cell ct (some (.ref tl)), .cell cw (some (.ref wl)), .lp wl (sL (lwords (lmany zs))), .lp tl (mL (ltable zs)), .rd w ct cw f c' doc pm ctv, .gr h₀]
abbrev rdZ (zs : List Int) (key : Str) : Nat := rdV (lwords (lmany zs)) (ltable zs) key
theorem lwords_len (m : Nat) : (lwords m).length = m + 4 := by unfold lwords; simp
theorem ltable_len (zs : List Int) : (ltable zs).length = lmany zs + 4 := by unfold ltable lothers; simp [lmarks_len]
section
variable {prog : Program} {w : World} {n i : Nat} {h h₀ : Heap} {env : Env} {nm : List Str} {vals : List (Option Value)} {a : Addr} {F F' : FP} {t t' : QS} {D : List Addr} {R : Res} {s₀ s s' : Shared} {rs more : List Res} {A : Around} {E : Value → Shared → Prop} {zs : List Int} {sa cs ct cw ml ol wl tl f c' : Addr} {doc pm ctv : Value} {ps : Array Value}
theorem hashF_of (B : Bas (KK w) h₀) : ∀ n, 7 ≤ n → HashF prog w n f (RfR w zs ct cw wl tl f c' doc pm ctv h₀) (rdZ zs) := by
  intro n hn h hI
  obtain ⟨n, rfl⟩ : ∃ m, n = m + 1 := ⟨n - 1, by omega⟩
  have h1 := hI _ (show Res.cell ct (some (.ref tl)) ∈ _ by simp)
  have h2 := hI _ (show Res.cell cw (some (.ref wl)) ∈ _ by simp)
  have h3 := hI _ (show Res.lp wl (sL (lwords (lmany zs))) ∈ _ by simp)
  have h4 := hI _ (show Res.lp tl (mL (ltable zs)) ∈ _ by simp)
  have h5 := hI _ (show Res.rd w ct cw f c' doc pm ctv ∈ _ by simp)
  have h6 := hI _ (show Res.gr h₀ ∈ _ by simp)
  refine ⟨⟨_, _, h5.1, rfl⟩, fun x args ha => q_reading B h6 h5 h1 h2 h4 h3 (by rw [ltable_len, lwords_len]) (by rw [lwords_len]; have := lmany_le zs; omega) ha⟩
theorem rf_I (H : Act (KK w) h₀ env nm vals D (.all (lr9 w zs sa cs ct cw ml ol wl tl f c' doc pm ctv ps ++ more)) R s₀ s) : (RfR w zs ct cw wl tl f c' doc pm ctv h₀).I s.heap := by
  intro r hr
  simp only [List.mem_cons, List.not_mem_nil, or_false] at hr
  rcases hr with z | z | z | z | z | z <;> subst z
  · exact H.res (i := 1) rfl
  · exact H.res (i := 2) rfl
  · exact H.res (i := 6) rfl
  · exact H.res (i := 7) rfl
  · exact H.res (i := 8) rfl
  · exact H.cx.gb
theorem wr_all {F : FP} {a b : Addr} (hb : b ∈ F.wr) : b ∈ F.all a := by
  simp only [FP.wr, List.mem_cons, List.not_mem_nil, or_false] at hb
  rcases hb with q | q | q | q | q <;> subst q <;> simp
theorem pw_ne {rs : List Res} (p : PW rs) {i j : Nat} {r q : Res} (hi : rs[i]? = some r) (hj : rs[j]? = some q) (hn : i ≠ j) {b : Addr} (h1 : r.fp b) (h2 : q.fp b) : False := by
  obtain ⟨l1, e1⟩ := List.getElem?_eq_some_iff.mp hi
  obtain ⟨l2, e2⟩ := List.getElem?_eq_some_iff.mp hj
  exact p.get l1 l2 hn b (e1 ▸ h1) (e2 ▸ h2)
theorem rf_dj (pw : PW (lr9 w zs sa cs ct cw ml ol wl tl f c' doc pm ctv ps ++ more)) (hi : (lr9 w zs sa cs ct cw ml ol wl tl f c' doc pm ctv ps ++ more)[i]? = some (.qf a F t)) (h9 : 9 ≤ i) (ok : Fok h₀ D s₀ F) : ∀ b ∈ F.wr, ¬ (RfR w zs ct cw wl tl f c' doc pm ctv h₀).fp b := by
  rintro b hb ⟨r, hr, hf⟩
  have hq : (Res.qf a F t).fp b := wr_all hb
  simp only [List.mem_cons, List.not_mem_nil, or_false] at hr
  rcases hr with z | z | z | z | z | z <;> subst z
  · exact pw_ne pw hi (j := 1) rfl (by omega) hq hf
  · exact pw_ne pw hi (j := 2) rfl (by omega) hq hf
  · exact pw_ne pw hi (j := 6) rfl (by omega) hq hf
  · exact pw_ne pw hi (j := 7) rfl (by omega) hq hf
  · exact pw_ne pw hi (j := 8) rfl (by omega) hq hf
  · obtain ⟨o, e⟩ := hf
    rw [(ok b hb).1] at e; cases e
theorem Act.qupd (H : Act (KK w) h₀ env nm vals D (.all rs) R s₀ s) (pw : PW rs) (hi : rs[i]? = some (.qf a F t)) (ok : Fok h₀ D s₀ F) (x : SX F.wr s s') (N : Fnew a s F F') (X : QFAt s'.heap a F' t') :
    Act (KK w) h₀ env nm vals D (.all (rs.set i (.qf a F' t'))) R s₀ s' ∧ PW (rs.set i (.qf a F' t')) ∧ Fok h₀ D s₀ F' := by
  obtain ⟨H2, pw2⟩ := H.upd (r' := .qf a F' t') pw hi x (fun b hb => ⟨wr_all hb, ok b hb⟩) X fun b hb => N.1 b hb
  exact ⟨H2, pw2, Fok.grow H ok N⟩
/-- a method of a filter called, that changes it -/
theorem x_callq {name : Str} {m : Addr} {o : Expr} {args : List Expr} {avs : List Value} {apos pos p2 : Pos} {pl : Sem Bool} {Q : Flow → Shared → Prop} (G : QS → Prop) (H : Act (KK w) h₀ env nm vals D (.all rs) R s₀ s) (pw : PW rs) (r : Rm n A) (hi : rs[i]? = some (.qf a F t)) (ok : Fok h₀ D s₀ F) (Me : Mth (KK w) QFc qfNm name m)
    (h1 : Eva prog w n s.heap (eval o env) (.ref a)) (ha : EvL prog w n s.heap pos env args avs)
    (hc : ∀ vs' s', vs'.map er = avs → SX [] s s' → Act (KK w) h₀ env nm vals D (.all rs) R s₀ s' → MutP prog w n m (.ref a :: vs') s' F.wr (fun v s'' => v = .none ∧ ∃ F' t', Fnew a s' F F' ∧ QFAt s''.heap a F' t' ∧ G t'))
    (k : ∀ F' t' s', G t' → Act (KK w) h₀ env nm vals D (.all (rs.set i (.qf a F' t'))) R s₀ s' → PW (rs.set i (.qf a F' t')) → Fok h₀ D s₀ F' → Q .next s')
    (hplain : (backTo pos (starEach args env)).any (·.1) = false := by rfl) (h0 : args ≠ [] ∨ avs = [] := by first | exact .inr rfl | exact .inl (by nofun))
    (he : eval (.Call (.Attribute o name apos) args [] pos) env = (do
      let ov ← eval o env
      standAt apos.atName
      let (f, first) ← holding [ov] (getMethod ov name pl)
      callWith pos f first (backTo pos (starEach args env)) []) := by rfl) (hsw : swapsWith (.Call (.Attribute o name apos) args [] pos) none p2.line env = Pure.pure false := by rfl) :
    wpAny (model prog w) A (exec (.Expr (.Call (.Attribute o name apos) args [] pos) p2) env) Q E s := by
  have X : QFAt s.heap a F t := H.res hi
  refine wpAny_Expr_any (wp_mcall H.cx.inK (cls_qf w) X.ob Me r (Gr.refl _) h1 ha (fun vs' s' e x => ?_) hplain h0 he) H.cx.F.inter hsw
  have H' := H.pure x
  refine (hc vs' s' e x H').call r fun v s2 p x2 => ?_
  obtain ⟨_, F', t', N, X', hG⟩ := p
  obtain ⟨H2, pw2, ok2⟩ := H'.qupd pw hi ok x2 N X'
  exact k F' t' s2 hG H2 pw2 ok2
end
/-! numbers -/
abbrev stp (p : Nat × List Nat) (x : Nat) : Nat × List Nat := (gw true p.1 p.2.length, addL p.2 x)
structure POk (p : Nat × List Nat) : Prop where
  q3 : 3 ≤ p.1
  q5 : p.1 ≤ 5
  lt : p.2.length < 2 ^ p.1
theorem num1 {q k : Nat} (h3 : 3 ≤ q) (h5 : q ≤ 5) (h : ¬ 85 * 2 ^ q ≤ 100 * k) : k + 1 < 2 ^ q := by
  have : q = 3 ∨ q = 4 ∨ q = 5 := by omega
  rcases this with e | e | e <;> subst e <;> omega
theorem gw_t {q k : Nat} : gw true q k = if 85 * 2 ^ q ≤ 100 * k then q + 1 else q := by unfold gw; simp
theorem gw5 {q k : Nat} (h5 : q ≤ 5) (hk : k ≤ 20) : gw true q k ≤ 5 := by
  rw [gw_t]
  split
  · rename_i h
    by_cases e : q = 5
    · subst e; omega
    · omega
  · exact h5
theorem POk.step {p : Nat × List Nat} (h : POk p) (hl : p.2.length ≤ 20) (x : Nat) : POk (stp p x) := by
  have hg := gw5 h.q5 hl
  have h3 := h.q3; have h5 := h.q5; have hlt := h.lt
  refine ⟨?_, hg, ?_⟩
  · show 3 ≤ gw true p.1 _
    rw [gw_t]; split <;> omega
  · have hal := addL_len (S := p.2) (x := x)
    show (addL p.2 x).length < 2 ^ gw true p.1 p.2.length
    rw [gw_t]
    split
    · have : 2 ^ (p.1 + 1) = 2 * 2 ^ p.1 := by rw [Nat.pow_succ]; omega
      omega
    · rename_i hh
      have := num1 h3 h5 hh
      omega
abbrev runL (p : Nat × List Nat) (xs : List Nat) : Nat × List Nat := xs.foldl stp p
theorem runL_len (p : Nat × List Nat) : ∀ xs, (runL p xs).2.length ≤ p.2.length + xs.length := by
  intro xs
  induction xs generalizing p with
  | nil => simp
  | cons x xs ih =>
    have := ih (stp p x)
    have h2 := addL_len (S := p.2) (x := x)
    show (runL (stp p x) xs).2.length ≤ _
    have h3 : (stp p x).2.length = (addL p.2 x).length := rfl
    rw [List.length_cons]; omega
theorem runL_ok {p : Nat × List Nat} (h : POk p) : ∀ xs : List Nat, p.2.length + xs.length ≤ 20 → POk (runL p xs) := by
  intro xs
  induction xs generalizing p with
  | nil => exact fun _ => h
  | cons x xs ih =>
    intro hl
    rw [List.length_cons] at hl
    have h2 := addL_len (S := p.2) (x := x)
    refine ih (h.step (by omega) x) ?_
    show (addL p.2 x).length + xs.length ≤ 20
    omega
theorem runL_snoc {p : Nat × List Nat} {xs : List Nat} {k : Nat} {x : Nat} (hx : xs[k]? = some x) : runL p (xs.take (k + 1)) = stp (runL p (xs.take k)) x := by
  unfold runL
  rw [List.take_add_one, hx, Option.toList_some, List.foldl_append]; rfl
section
variable {prog : Program} {w : World} {n : Nat} {h h₀ : Heap} {a : Addr} {F : FP} {t : QS} {s : Shared} {hf : Addr} {p : Nat × List Nat}
theorem c_stp (B : Bas (KK w) h₀) {args : List Value} {x : Nat} (gb : Gr h₀ s.heap) (X : QFAt s.heap a F t) (hB : ∀ b ∈ F.wr, h₀.get? b = none) (Y : St p.1 true hf p.2 t) (hp : POk p) (hl : p.2.length ≤ 20) (hx : x < 2 ^ 32) (ha : args.map er = [.ref a, vi (x : Int)]) (hn : 22 ≤ n) :
    MutP prog w n 295 args s F.wr (fun v s' => v = .none ∧ ∃ F' t', Fnew a s F F' ∧ QFAt s'.heap a F' t' ∧ St (stp p x).1 true hf (stp p x).2 t') :=
  c_add B gb X hB Y hx hp.q3 (gw5 hp.q5 hl) hp.lt (fun h => num1 hp.q3 hp.q5 (by simpa using h)) ha hn
end
end Mine
end
section
open PySem PySem.W PyProof.Rows PySem.Calls
set_option Elab.async false
set_option maxRecDepth 100000
set_option maxHeartbeats 4000000
set_option linter.unusedVariables false
set_option pp.deepTerms false
set_option pp.maxSteps 700
namespace Mine
local macro_rules | `(tactic| tm_at "at") => `(tactic| with_reducible (repeat (first | exact At.head | apply At.tail)))
local macro_rules | `(tactic| tm_at "ok") => `(tactic| first | trivial | assumption | decide | (simp only [okI]; omega) | (simp only [okI]; mul_fits))
local macro_rules | `(tactic| tm_at "bop") => `(tactic| exact fun _ _ => bo_any (by tm_at "ok"))
local macro_rules | `(tactic| tm_at "cm") => `(tactic| exact fun _ _ => co_any rfl)
local macro_rules | `(tactic| tm_at "obj") => `(tactic| first | exact QFAt.ob (by assumption) | assumption)
local macro_rules | `(tactic| tm_at "cls") => `(tactic| first | exact cls_qf _ | exact cls_bit _)
local macro_rules | `(tactic| tm_at "lt") => `(tactic| first | assumption | omega)
local macro_rules | `(tactic| tm_at "bitx") => `(tactic| first | exact QFAt.bo (by assumption) | exact QFAt.bc (by assumption) | exact QFAt.bs (by assumption))
local macro_rules | `(tactic| tm_at "ev") => `(tactic| first
  | with_reducible exact ev_int | with_reducible exact ev_true | with_reducible exact ev_none | with_reducible exact ev_str
  | ((with_reducible refine' ev_loc ?h1 ?h2 ?h3); (case h1 => assumption); (case h2 => tm_at "at"); (case h3 => rfl))
  | ((with_reducible refine' ev_attr (Cx.inK ?h1) ?h2 ?h3 ?h4 ?h5 ?h6 ?h7 ?h8); (case h1 => assumption); (case h4 => tm_at "ev"); (case h3 => tm_at "obj"); (case h2 => tm_at "cls"); (case h5 => tm_at "at"); (case h6 => rfl); (case h7 => rfl); (case h8 => rfl))
  | ((with_reducible refine' ev_bin ?h1 ?h2 ?h3); (case h1 => tm_at "ev"); (case h2 => tm_at "ev"); (case h3 => tm_at "bop"))
  | ((with_reducible refine' ev_bit ?h1 ?h2 ?h3 ?h4 ?h5 ?h6 ?h7 ?h8); (case h1 => assumption); (case h3 => tm_at "ev"); (case h4 => tm_at "ev"); (case h2 => tm_at "bitx"); (case h5 => tm_at "lt"); (case h6 => tm_at "lt"); (case h7 => tm_at "lt"); (case h8 => (intros; rfl)))
  | ((with_reducible refine' ev_un ?h1 ?h2); (case h1 => tm_at "ev"); (case h2 => exact fun _ => uo_any rfl)))
local macro_rules | `(tactic| tm_at "eb") => `(tactic| first
  | ((with_reducible refine' eb_cmp ?h1 ?h2 ?h3 ?h4); (case h1 => tm_at "ev"); (case h2 => tm_at "ev"); (case h3 => tm_at "cm"); (case h4 => rfl))
  | ((with_reducible refine' eb_bool ?h1); (case h1 => tm_at "eb"))
  | ((with_reducible refine' eb_or ?h1 ?h2); (case h1 => tm_at "eb"); (case h2 => tm_at "eb"))
  | ((with_reducible refine' eb_and ?h1 ?h2); (case h1 => tm_at "eb"); (case h2 => tm_at "eb"))
  | with_reducible exact eb_or_nil | with_reducible exact eb_and_nil
  | ((with_reducible refine' eb_not ?h1); (case h1 => tm_at "eb")))
theorem ar_pow2 (k : Nat) : arI .Pow 2 (k : Int) = ((2 ^ k : Nat) : Int) := by
  show (2 : Int) ^ (k : Int).toNat = _
  rw [Int.toNat_natCast]; simp
theorem idx_of {ws : List Str} (nd : ws.Nodup) {k : Nat} {y : Str} (h : ws[k]? = some y) : y ∈ ws ∧ ws.idxOf y = k := by
  obtain ⟨hk, e⟩ := List.getElem?_eq_some_iff.mp h
  have hm : y ∈ ws := List.mem_of_getElem? h
  have hj : ws.idxOf y < ws.length := List.idxOf_lt_length_of_mem hm
  exact ⟨hm, nodup_inj nd hj hk (by rw [List.getElem_idxOf hj, e])⟩
theorem rdV_at {ws : List Str} {tb : List Nat} (nd : ws.Nodup) {k : Nat} {y : Str} {x : Nat} (h : ws[k]? = some y) (h2 : tb[k]? = some x) : rdV ws tb y = x := by
  obtain ⟨h3, h4⟩ := idx_of nd h
  unfold rdV
  rw [if_pos h3, h4, List.getD_eq_getElem?_getD, h2]; rfl
theorem rdV_lt {ws : List Str} {tb : List Nat} {y : Str} (h : ∀ x ∈ tb, x < 2 ^ 32) : rdV ws tb y < 2 ^ 32 := by
  unfold rdV
  split
  · rw [List.getD_eq_getElem?_getD]
    cases q : tb[ws.idxOf y]? with
    | none => exact (by decide : (0 : Nat) < 2 ^ 32)
    | some x => exact h x (List.mem_of_getElem? q)
  · decide
theorem lothers_lt (zs : List Int) : ∀ x ∈ lothers zs, x < 2 ^ 32 := by
  intro x hx
  obtain ⟨k, _, rfl⟩ := List.mem_map.mp hx
  exact mark_lt _ _
theorem ltable_lt (zs : List Int) : ∀ x ∈ ltable zs, x < 2 ^ 32 := by
  intro x hx
  rcases List.mem_append.mp hx with z | z
  · exact lmarks_lt zs _ x z
  · exact lothers_lt zs x z
theorem lwords_w {m k : Nat} (h : k < m) : (lwords m)[k]? = some (wd "w" k) := by
  unfold lwords
  rw [List.getElem?_append_left (by simp; exact h), List.getElem?_map, List.getElem?_range h]; rfl
theorem lwords_o {m k : Nat} (h : k < 4) : (lwords m)[m + k]? = some (wd "o" k) := by
  unfold lwords
  rw [List.getElem?_append_right (by simp), List.length_map, List.length_range, Nat.add_sub_cancel_left, List.getElem?_map, List.getElem?_range h]; rfl
theorem rd_w {zs : List Int} {k x : Nat} (h : (lmarks zs (lmany zs))[k]? = some x) : rdZ zs (wd "w" k) = x := by
  have hk := (List.getElem?_eq_some_iff.mp h).1
  rw [lmarks_len] at hk
  exact rdV_at (lwords_nd (lmany_le zs)) (lwords_w hk) (by rw [List.getElem?_append_left (by rw [lmarks_len]; exact hk)]; exact h)
theorem rd_o {zs : List Int} {k x : Nat} (h : (lothers zs)[k]? = some x) : rdZ zs (wd "o" k) = x := by
  have hk := (List.getElem?_eq_some_iff.mp h).1
  have hk4 : k < 4 := by unfold lothers at hk; simpa using hk
  exact rdV_at (lwords_nd (lmany_le zs)) (lwords_o hk4) (by rw [List.getElem?_append_right (by rw [lmarks_len]; omega), lmarks_len, Nat.add_sub_cancel_left]; exact h)
theorem rd_lt (zs : List Int) (y : Str) : rdZ zs y < 2 ^ 32 := rdV_lt (ltable_lt zs)
section
variable {w : World} {s₁ s : Shared} {h₀ : Heap} {mg mb : Str → Option Value} {env : Env} {A : Around} {sa cs ct cw ml ol wl tl f c' ra pa : Addr} {zs : List Int} {u4 u5 : Option Value} {doc pm ctv : Value} {ps : Array Value}
theorem lwidth_b (zs : List Int) : 3 ≤ lwidth zs ∧ lwidth zs ≤ 5 := by unfold lwidth; omega
abbrev OwnA (h₀ : Heap) (s₁ : Shared) (a : Addr) : Prop := h₀.get? a = none ∧ (a ∈ [481] ∨ s₁.heap.get? a = none)
abbrev lv12 (zs : List Int) (ml ol f ra pa : Addr) (q : Nat) (u4 u5 : Option Value) : List (Option Value) := [some (vi (lhead zs : Int)), some (vi (lwidth zs : Int)), some (vi (lmany zs : Int)), some (.ref ml), u4, u5, some (.ref ol), some (.ref f), some (.ref ra), some (.ref pa), some (vi ((2 ^ q : Nat) : Int)), none, none, none, none, none, none, none, none, none]
noncomputable abbrev lr11 (w : World) (zs : List Int) (sa cs ct cw ml ol wl tl f c' : Addr) (doc pm ctv : Value) (ps : Array Value) (ra : Addr) (F : FP) (t : QS) (pa : Addr) (S : List Nat) : List Res := lr9 w zs sa cs ct cw ml ol wl tl f c' doc pm ctv ps ++ [.qf ra F t, .lp pa (mL S)]
theorem law5 (X : LX w s₁ h₀ mg mb env A sa cs ct cw zs) (H : Act (KK w) h₀ env lawNm (lv9 zs ml ol f u4 u5) [481] (.all (lr9 w zs sa cs ct cw ml ol wl tl f c' doc pm ctv ps)) (.keep s₁.heap [481]) s₁ s) (pw : PW (lr9 w zs sa cs ct cw ml ol wl tl f c' doc pm ctv ps))
    (next : ∀ s ra F pa, Act (KK w) h₀ env lawNm (lv12 zs ml ol f ra pa (lwidth zs) u4 u5) [481] (.all (lr11 w zs sa cs ct cw ml ol wl tl f c' doc pm ctv ps ra F (.new (lwidth zs) true f) pa [])) (.keep s₁.heap [481]) s₁ s → PW (lr11 w zs sa cs ct cw ml ol wl tl f c' doc pm ctv ps ra F (.new (lwidth zs) true f) pa []) → Fok h₀ [481] s₁ F → OwnA h₀ s₁ pa →
      wpAny (model lawProg w) A (execs ((lawStmts w).drop 12) env) (LEnd s₁) (fun _ _ => False) s) :
    wpAny (model lawProg w) A (execs ((lawStmts w).drop 9) env) (LEnd s₁) (fun _ _ => False) s := by
  show wpAny (model lawProg w) A (execs (_ :: _ :: _ :: (lawStmts w).drop 12) env) _ _ s
  generalize (lawStmts w).drop 12 = rest at *
  have C := H.cx
  have r := X.r
  obtain ⟨hw3, hw5⟩ := lwidth_b zs
  refine wpAny_execs_cons (x_new (ι := Addr × FP) (mk := fun p => .qf p.1 p.2 (.new (lwidth zs) true f)) (ad := Prod.fst) (j := 8) H pw r (by tm_at "at") ((ev_qfnew (auto := true) C (X.kind (by kernel_rfl)) (by tm_at "ev") (by tm_at "ev") (by tm_at "ev") hw3 hw5 (by omega)).imp fun v h' ⟨a, F, e, x, k⟩ => ⟨(a, F), e, x, k⟩) fun i s2 H2 pw2 own2 => ?_)
  obtain ⟨ra, F⟩ := i
  refine wpAny_execs_cons (x_new (ι := Addr) (mk := fun p => .lp p (mL [])) (ad := id) (j := 9) H2 pw2 r (by tm_at "at") (ev_lpn ev_nil) fun pa s3 H3 pw3 own3 => ?_)
  have C := H3.cx
  refine y_assign (i := 10) (v := vi ((2 ^ lwidth zs : Nat) : Int)) H3 r (Eva.cast (by tm_at "ev") (congrArg vi (ar_pow2 _))) (by tm_at "at") fun s4 H4 _ => ?_
  exact next s4 ra F pa H4 pw3 (fun b hb => own2 b (wr_all hb)) (own3 pa rfl)
end
end Mine
end
section
open PySem PySem.W PyProof.Rows PySem.Calls
set_option Elab.async false
set_option maxRecDepth 100000
set_option maxHeartbeats 4000000
set_option linter.unusedVariables false
set_option pp.deepTerms false
set_option pp.maxSteps 700
namespace Mine
local macro_rules | `(tactic| tm_at "at") => `(tactic| with_reducible (repeat (first | exact At.head | apply At.tail)))
local macro_rules | `(tactic| tm_at "ok") => `(tactic| first | trivial | assumption | decide | (simp only [okI]; omega) | (simp only [okI]; mul_fits))
local macro_rules | `(tactic| tm_at "bop") => `(tactic| exact fun _ _ => bo_any (by tm_at "ok"))
local macro_rules | `(tactic| tm_at "cm") => `(tactic| exact fun _ _ => co_any rfl)
local macro_rules | `(tactic| tm_at "obj") => `(tactic| first | exact QFAt.ob (by assumption) | assumption)
local macro_rules | `(tactic| tm_at "cls") => `(tactic| first | exact cls_qf _ | exact cls_bit _)
local macro_rules | `(tactic| tm_at "lt") => `(tactic| first | assumption | omega)
local macro_rules | `(tactic| tm_at "bitx") => `(tactic| first | exact QFAt.bo (by assumption) | exact QFAt.bc (by assumption) | exact QFAt.bs (by assumption))
local macro_rules | `(tactic| tm_at "ev") => `(tactic| first
  | with_reducible exact ev_int | with_reducible exact ev_true | with_reducible exact ev_none | with_reducible exact ev_str
  | ((with_reducible refine' ev_loc ?h1 ?h2 ?h3); (case h1 => assumption); (case h2 => tm_at "at"); (case h3 => rfl))
  | ((with_reducible refine' ev_attr (Cx.inK ?h1) ?h2 ?h3 ?h4 ?h5 ?h6 ?h7 ?h8); (case h1 => assumption); (case h4 => tm_at "ev"); (case h3 => tm_at "obj"); (case h2 => tm_at "cls"); (case h5 => tm_at "at"); (case h6 => rfl); (case h7 => rfl); (case h8 => rfl))
  | ((with_reducible refine' ev_bin ?h1 ?h2 ?h3); (case h1 => tm_at "ev"); (case h2 => tm_at "ev"); (case h3 => tm_at "bop"))
  | ((with_reducible refine' ev_bit ?h1 ?h2 ?h3 ?h4 ?h5 ?h6 ?h7 ?h8); (case h1 => assumption); (case h3 => tm_at "ev"); (case h4 => tm_at "ev"); (case h2 => tm_at "bitx"); (case h5 => tm_at "lt"); (case h6 => tm_at "lt"); (case h7 => tm_at "lt"); (case h8 => (intros; rfl)))
  | ((with_reducible refine' ev_un ?h1 ?h2); (case h1 => tm_at "ev"); (case h2 => exact fun _ => uo_any rfl)))
local macro_rules | `(tactic| tm_at "eb") => `(tactic| first
  | ((with_reducible refine' eb_cmp ?h1 ?h2 ?h3 ?h4); (case h1 => tm_at "ev"); (case h2 => tm_at "ev"); (case h3 => tm_at "cm"); (case h4 => rfl))
  | ((with_reducible refine' eb_bool ?h1); (case h1 => tm_at "eb"))
  | ((with_reducible refine' eb_or ?h1 ?h2); (case h1 => tm_at "eb"); (case h2 => tm_at "eb"))
  | ((with_reducible refine' eb_and ?h1 ?h2); (case h1 => tm_at "eb"); (case h2 => tm_at "eb"))
  | with_reducible exact eb_or_nil | with_reducible exact eb_and_nil
  | ((with_reducible refine' eb_not ?h1); (case h1 => tm_at "eb")))
section
variable {w : World} {s₁ s : Shared} {h₀ : Heap} {mg mb : Str → Option Value} {env : Env} {A : Around} {sa cs ct cw ml ol wl tl f c' ra pa : Addr} {zs : List Int} {u4 u5 : Option Value} {doc pm ctv : Value} {ps : Array Value} {F : FP} {t : QS}
abbrev lms (zs : List Int) : List Nat := lmarks zs (lmany zs)
abbrev lP (zs : List Int) (k : Nat) : Nat × List Nat := runL (lwidth zs, []) ((lms zs).take k)
theorem lms_len (zs : List Int) : (lms zs).length = lmany zs := lmarks_len zs _
theorem lP_ok (zs : List Int) (k : Nat) : POk (lP zs k) := by
  have hw := lwidth_b zs
  have hm := lmany_le zs
  refine runL_ok ⟨hw.1, hw.2, ?_⟩ _ (by rw [List.length_take, lms_len]; simp; omega)
  exact Nat.pow_pos (by decide)
theorem lP_len (zs : List Int) (k : Nat) : (lP zs k).2.length ≤ 15 := by
  have hm := lmany_le zs
  have := runL_len (lwidth zs, []) ((lms zs).take k)
  rw [List.length_take, lms_len] at this
  have h0 : ((lwidth zs, ([] : List Nat)).2).length = 0 := rfl
  show (runL (lwidth zs, []) ((lms zs).take k)).2.length ≤ 15
  omega
theorem mL_len (xs : List Nat) : (mL xs).length = xs.length := List.length_map _
theorem mL_at {xs : List Nat} {k x : Nat} (h : xs[k]? = some x) : (mL xs)[((k : Nat) : Int).toNat]? = some (vi (x : Int)) := by rw [Int.toNat_natCast, List.getElem?_map, h]; rfl
theorem sL_at {xs : List Str} {k : Nat} {x : Str} (h : xs[k]? = some x) : (sL xs)[((k : Nat) : Int).toNat]? = some (vs x) := by rw [Int.toNat_natCast, List.getElem?_map, h]; rfl
/-- 100 * n >= 85 * places, told of the width -/
theorem cmp85 (q n : Nat) : cmpI .GtE (arI .Mult 100 (n : Int)) (arI .Mult 85 ((2 ^ q : Nat) : Int)) = decide (85 * 2 ^ q ≤ 100 * n) := by
  show decide (85 * ((2 ^ q : Nat) : Int) ≤ 100 * (n : Int)) = _
  rw [decide_eq_decide]
  omega
theorem pow_gw (q n : Nat) : ((2 ^ gw true q n : Nat) : Int) = if 85 * 2 ^ q ≤ 100 * n then arI .Mult ((2 ^ q : Nat) : Int) 2 else ((2 ^ q : Nat) : Int) := by
  rw [gw_t]
  split
  · rw [Nat.pow_succ]; show _ = ((2 ^ q : Nat) : Int) * 2; omega
  · rfl
theorem law6 (X : LX w s₁ h₀ mg mb env A sa cs ct cw zs) (H : Act (KK w) h₀ env lawNm (lv12 zs ml ol f ra pa (lwidth zs) u4 u5) [481] (.all (lr11 w zs sa cs ct cw ml ol wl tl f c' doc pm ctv ps ra F (.new (lwidth zs) true f) pa [])) (.keep s₁.heap [481]) s₁ s) (pw : PW (lr11 w zs sa cs ct cw ml ol wl tl f c' doc pm ctv ps ra F (.new (lwidth zs) true f) pa [])) (ok : Fok h₀ [481] s₁ F) (op : OwnA h₀ s₁ pa)
    (next : ∀ s F t u4 u5, Act (KK w) h₀ env lawNm (lv12 zs ml ol f ra pa (lP zs (lmany zs)).1 u4 u5) [481] (.all (lr11 w zs sa cs ct cw ml ol wl tl f c' doc pm ctv ps ra F t pa (lP zs (lmany zs)).2)) (.keep s₁.heap [481]) s₁ s → PW (lr11 w zs sa cs ct cw ml ol wl tl f c' doc pm ctv ps ra F t pa (lP zs (lmany zs)).2) → Fok h₀ [481] s₁ F → St (lP zs (lmany zs)).1 true f (lP zs (lmany zs)).2 t →
      wpAny (model lawProg w) A (execs ((lawStmts w).drop 13) env) (LEnd s₁) (fun _ _ => False) s) :
    wpAny (model lawProg w) A (execs ((lawStmts w).drop 12) env) (LEnd s₁) (fun _ _ => False) s := by
  show wpAny (model lawProg w) A (execs (_ :: (lawStmts w).drop 13) env) _ _ s
  generalize (lawStmts w).drop 13 = rest at *
  have C := H.cx
  have r := X.r
  obtain ⟨hw3, hw5⟩ := lwidth_b zs
  have hm := lmany_le zs
  have hlen : env.kindOf "len" = some .globalImplicit := X.kind (by kernel_rfl)
  have hwk : env.kindOf "words" = some .cell := X.kind (by kernel_rfl)
  refine wpAny_execs_cons (x_range (a := 0) (b := (lmany zs : Int)) (N := lmany zs) (fun k ρ vals => ∃ F t u4 u5, ρ = .all (lr11 w zs sa cs ct cw ml ol wl tl f c' doc pm ctv ps ra F t pa (lP zs k).2) ∧ PW (lr11 w zs sa cs ct cw ml ol wl tl f c' doc pm ctv ps ra F t pa (lP zs k).2) ∧ Fok h₀ [481] s₁ F ∧ St (lP zs k).1 true f (lP zs k).2 t ∧ vals = lv12 zs ml ol f ra pa (lP zs k).1 u4 u5) H r (by tm_at "at") (i := 4)
    (fun b hb => by rw [List.mem_singleton.mp hb]; exact (Res.tab ps).ex _ (H.res (i := 3) rfl) _ rfl) ?_ (by omega) (by omega) (by omega) (by omega) ⟨F, _, u4, u5, rfl, pw, ok, St.new hw3 hw5, rfl⟩ ?_ ?_)
  · exact ev_range1 C (by kernel_rfl) (X.kind (by kernel_rfl)) (by tm_at "ev")
  · rintro k ρ vals R' s2 hk ⟨F, t, u4, u5, rfl, pw, ok, Y, rfl⟩ hR hRI H
    obtain ⟨x, hx⟩ : ∃ x, (lms zs)[k]? = some x := ⟨_, List.getElem?_eq_getElem (by rw [lms_len]; exact hk)⟩
    have hx32 : x < 2 ^ 32 := lmarks_lt zs _ x (List.mem_of_getElem? hx)
    have hP1 : lP zs (k + 1) = stp (lP zs k) x := runL_snoc hx
    have hok := lP_ok zs k
    have hl := lP_len zs k
    rw [hP1]
    clear hP1
    generalize lP zs k = p at *
    obtain ⟨q, S⟩ := p
    have hq3 : 3 ≤ q := hok.q3
    have hq5 : q ≤ 5 := hok.q5
    have hSl : S.length ≤ 15 := hl
    have h32 : 2 ^ q ≤ 32 := Nat.le_trans (Nat.pow_le_pow_right (by decide) hq5) (by decide)
    have hk15 : (k : Nat) < 15 := by omega
    have hz : (0 : Int) + (k : Int) = (k : Int) := by omega
    -- the places grow
    suffices key : ∀ s3, Act (KK w) h₀ env lawNm ((lv12 zs ml ol f ra pa (gw true q S.length) u4 u5).set 4 (some (vi (k : Int)))) [481] (.all (lr11 w zs sa cs ct cw ml ol wl tl f c' doc pm ctv ps ra F t pa S)) R' s₁ s3 → wpAny (model lawProg w) A _ _ _ s3 by
      have C := H.cx
      have Lp1 : Lp s2.heap pa (mL S) := H.res (i := 10) rfl
      have e := pow_gw q S.length
      refine y_if (c := decide (85 * 2 ^ q ≤ 100 * S.length)) H r (EvB.cast (eb_cmp (ev_bin ev_int (ev_len C (by kernel_rfl) hlen (by tm_at "ev") Lp1.ls (by rw [mL_len]; omega)) (by tm_at "bop")) (by tm_at "ev") (by tm_at "cm")) (by rw [mL_len]; exact cmp85 q S.length)) (fun hc s3 H3 _ => ?_) (fun hc s3 H3 _ => ?_)
      · have hc := of_decide_eq_true hc
        rw [if_pos hc] at e
        have C := H3.cx
        refine y_assign (i := 10) (v := vi ((2 ^ gw true q S.length : Nat) : Int)) H3 r (Eva.cast (by tm_at "ev") (congrArg vi e.symm)) (by tm_at "at") fun s4 H4 _ => wpAny_execs_nil (key s4 (H4.eqv (by rw [hz]; rfl)))
      · have hc := of_decide_eq_false hc
        have eg : gw true q S.length = q := by rw [gw_t, if_neg hc]
        exact wpAny_execs_nil (key s3 (H3.eqv (by rw [hz, eg])))
    clear H
    intro s3 H
    suffices key : ∀ s3, Act (KK w) h₀ env lawNm ((lv12 zs ml ol f ra pa (gw true q S.length) u4 u5).set 4 (some (vi (k : Int)))) [481] (.all (lr11 w zs sa cs ct cw ml ol wl tl f c' doc pm ctv ps ra F t pa (addL S x))) R' s₁ s3 → PW (lr11 w zs sa cs ct cw ml ol wl tl f c' doc pm ctv ps ra F t pa (addL S x)) → wpAny (model lawProg w) A _ _ _ s3 by
      have C := H.cx
      have Lp1 : Lp s3.heap pa (mL S) := H.res (i := 10) rfl
      have Lm : Lp s3.heap ml (mL (lms zs)) := H.res (i := 4) rfl
      refine y_if (c := !decide (x ∈ S)) H r (eb_cmp (ev_item (by tm_at "ev") Lm.ls (by tm_at "ev") (by omega) (by omega) (mL_at hx)) (by tm_at "ev") fun a b ha hb => co_notin_nat Lp1.ls ha hb) (fun hc s4 H4 _ => ?_) (fun hc s4 H4 _ => ?_)
      · have hc : x ∉ S := by simpa using hc
        have C := H4.cx
        have Lp1 : Lp s4.heap pa (mL S) := H4.res (i := 10) rfl
        have Lm : Lp s4.heap ml (mL (lms zs)) := H4.res (i := 4) rfl
        refine wpAny_execs_cons (x_append C.F r (by tm_at "ev") (ev_item (by tm_at "ev") Lm.ls (by tm_at "ev") (by omega) (by omega) (mL_at hx)) Lp1 (by rw [mL_len]; omega) fun s5 x5 L5 => wpAny_execs_nil ?_)
        obtain ⟨H5, pw5⟩ := H4.upd (i := 10) (r' := .lp pa (mL (addL S x))) pw rfl x5 (fun b hb => by rw [List.mem_singleton.mp hb]; exact ⟨rfl, op⟩) (by
          show Lp _ _ _
          unfold addL mL; rw [if_neg hc, List.map_append]; exact L5) fun b hb => .inl hb
        exact key s5 H5 pw5
      · have hc : x ∈ S := by simpa using hc
        have e : addL S x = S := by unfold addL; rw [if_pos hc]
        rw [e] at key
        exact wpAny_execs_nil (key s4 H4 pw)
    clear H pw
    intro s3 H pw
    have hst : ∀ {n : Nat} {s : Shared} {args : List Value}, Gr h₀ s.heap → QFAt s.heap ra F t → args.map er = [.ref ra, vi (x : Int)] → 22 ≤ n → MutP lawProg w n 295 args s F.wr (fun v s' => v = .none ∧ ∃ F' t', Fnew ra s F F' ∧ QFAt s'.heap ra F' t' ∧ St (gw true q S.length) true f (addL S x) t') :=
      fun gb X ha hn => c_stp (p := (q, S)) C.bs gb X (fun b hb => (ok b hb).1) Y hok (show S.length ≤ 20 by omega) hx32 ha hn
    suffices key : ∀ F t s3, Act (KK w) h₀ env lawNm ((lv12 zs ml ol f ra pa (gw true q S.length) u4 u5).set 4 (some (vi (k : Int)))) [481] (.all (lr11 w zs sa cs ct cw ml ol wl tl f c' doc pm ctv ps ra F t pa (addL S x))) R' s₁ s3 → PW (lr11 w zs sa cs ct cw ml ol wl tl f c' doc pm ctv ps ra F t pa (addL S x)) → Fok h₀ [481] s₁ F → St (gw true q S.length) true f (addL S x) t → wpAny (model lawProg w) A _ _ _ s3 by
      have C := H.cx
      have e : cmpI .Eq (arI .Mod (k : Int) 2) 0 = decide (k % 2 = 0) := by
        rw [show arI .Mod (k : Int) 2 = _ from fmod_nat _ 2]; exact bq_nat _ 0
      refine y_if (c := decide (k % 2 = 0)) H r (EvB.cast (by tm_at "eb") e) (fun hc s4 H4 _ => ?_) (fun hc s4 H4 _ => ?_)
      · have C := H4.cx
        have Lw : Lp s4.heap wl (sL (lwords (lmany zs))) := H4.res (i := 6) rfl
        refine wpAny_execs_cons (x_callq (i := 9) (St (gw true q S.length) true f (addL S x)) H4 pw r rfl ok (mth_addk w) (by tm_at "ev") (el1 (ev_item (ev_cell (v := .ref wl) C.F.kind hwk X.lw (H4.res (i := 2) rfl)) Lw.ls (by tm_at "ev") (by omega) (by omega) (sL_at (lwords_w hk)))) (fun vs' s5 hv x5 H5 => ?_) (fun F' t' s5 G H5 pw5 ok5 => wpAny_execs_nil (key F' t' s5 H5 pw5 ok5 G)))
        have hI := rf_I (more := [.qf ra F t, .lp pa (mL (addL S x))]) H5
        refine q_addk (k := wd "w" k) H5.cx.bs H5.cx.gb (H5.res (i := 9) rfl) (fun b hb => (ok b hb).1) hI (rf_dj (i := 9) (a := ra) (t := t) pw rfl (by omega) ok) (by rw [Y.hf]; exact hashF_of H5.cx.bs) _ (fun s1 m args g1 X1 hm ha => ?_) (by rw [List.map_cons, hv]; rfl) (by omega)
        rw [rd_w hx] at ha
        exact hst g1 X1 ha (by omega)
      · have C := H4.cx
        have Lm : Lp s4.heap ml (mL (lms zs)) := H4.res (i := 4) rfl
        refine wpAny_execs_cons (x_callq (i := 9) (St (gw true q S.length) true f (addL S x)) H4 pw r rfl ok (mth_add_alt w) (by tm_at "ev") (el1 (ev_item (by tm_at "ev") Lm.ls (by tm_at "ev") (by omega) (by omega) (mL_at hx))) (fun vs' s5 hv x5 H5 => ?_) (fun F' t' s5 G H5 pw5 ok5 => wpAny_execs_nil (key F' t' s5 H5 pw5 ok5 G)))
        exact hst H5.cx.gb (H5.res (i := 9) rfl) (by rw [List.map_cons, hv]; rfl) (by omega)
    clear H pw ok Y hst
    intro F t s3 H pw ok Y
    have C := H.cx
    have Q1 : QFAt s3.heap ra F t := H.res (i := 9) rfl
    have Lp1 : Lp s3.heap pa (mL (addL S x)) := H.res (i := 10) rfl
    have hN : t.N = 2 ^ gw true q S.length := by unfold QS.N; rw [Y.q]
    have hal := addL_len (S := S) (x := x)
    refine y_if (c := false) H r (EvB.cast (eb_bool (eb_or (eb_cmp (ev_qprop C Q1 (prp_size w) (fun n => q_size C.bs C.gb Q1) (by tm_at "ev") (by omega)) (by tm_at "ev") (by tm_at "cm")) (eb_or (eb_cmp (ev_qprop C Q1 (prp_added w) (fun n => q_added C.bs C.gb Q1) (by tm_at "ev") (by omega)) (ev_len C (by kernel_rfl) hlen (by tm_at "ev") Lp1.ls (by rw [mL_len]; omega)) (by tm_at "cm")) eb_or_nil))) ?_) (fun q => nomatch q) fun _ s4 H4 _ => wpAny_execs_nil (wpAny_execs_nil ?_)
    · rw [mL_len, hN, Y.I.cnt]; simp [cmpI]
    · exact ⟨_, _, ⟨F, t, _, _, rfl, pw, ok, Y, rfl⟩, H4⟩
  · rintro ρ vals s2 ⟨F, t, u4, u5, rfl, pw, ok, Y, rfl⟩ H
    exact next s2 F t u4 u5 H pw ok Y
end
end Mine
end
section
open PySem PySem.W PyProof.Rows PySem.Calls
set_option Elab.async false
set_option maxRecDepth 100000
set_option maxHeartbeats 4000000
set_option linter.unusedVariables false
set_option pp.deepTerms false
set_option pp.maxSteps 700
namespace Mine
local macro_rules | `(tactic| tm_at "at") => `(tactic| with_reducible (repeat (first | exact At.head | apply At.tail)))
local macro_rules | `(tactic| tm_at "ok") => `(tactic| first | trivial | assumption | decide | (simp only [okI]; omega) | (simp only [okI]; mul_fits))
local macro_rules | `(tactic| tm_at "bop") => `(tactic| exact fun _ _ => bo_any (by tm_at "ok"))
local macro_rules | `(tactic| tm_at "cm") => `(tactic| exact fun _ _ => co_any rfl)
local macro_rules | `(tactic| tm_at "obj") => `(tactic| first | exact QFAt.ob (by assumption) | assumption)
local macro_rules | `(tactic| tm_at "cls") => `(tactic| first | exact cls_qf _ | exact cls_bit _)
local macro_rules | `(tactic| tm_at "lt") => `(tactic| first | assumption | omega)
local macro_rules | `(tactic| tm_at "bitx") => `(tactic| first | exact QFAt.bo (by assumption) | exact QFAt.bc (by assumption) | exact QFAt.bs (by assumption))
local macro_rules | `(tactic| tm_at "ev") => `(tactic| first
  | with_reducible exact ev_int | with_reducible exact ev_true | with_reducible exact ev_none | with_reducible exact ev_str
  | ((with_reducible refine' ev_loc ?h1 ?h2 ?h3); (case h1 => assumption); (case h2 => tm_at "at"); (case h3 => rfl))
  | ((with_reducible refine' ev_attr (Cx.inK ?h1) ?h2 ?h3 ?h4 ?h5 ?h6 ?h7 ?h8); (case h1 => assumption); (case h4 => tm_at "ev"); (case h3 => tm_at "obj"); (case h2 => tm_at "cls"); (case h5 => tm_at "at"); (case h6 => rfl); (case h7 => rfl); (case h8 => rfl))
  | ((with_reducible refine' ev_bin ?h1 ?h2 ?h3); (case h1 => tm_at "ev"); (case h2 => tm_at "ev"); (case h3 => tm_at "bop"))
  | ((with_reducible refine' ev_bit ?h1 ?h2 ?h3 ?h4 ?h5 ?h6 ?h7 ?h8); (case h1 => assumption); (case h3 => tm_at "ev"); (case h4 => tm_at "ev"); (case h2 => tm_at "bitx"); (case h5 => tm_at "lt"); (case h6 => tm_at "lt"); (case h7 => tm_at "lt"); (case h8 => (intros; rfl)))
  | ((with_reducible refine' ev_un ?h1 ?h2); (case h1 => tm_at "ev"); (case h2 => exact fun _ => uo_any rfl)))
local macro_rules | `(tactic| tm_at "eb") => `(tactic| first
  | ((with_reducible refine' eb_cmp ?h1 ?h2 ?h3 ?h4); (case h1 => tm_at "ev"); (case h2 => tm_at "ev"); (case h3 => tm_at "cm"); (case h4 => rfl))
  | ((with_reducible refine' eb_bool ?h1); (case h1 => tm_at "eb"))
  | ((with_reducible refine' eb_or ?h1 ?h2); (case h1 => tm_at "eb"); (case h2 => tm_at "eb"))
  | ((with_reducible refine' eb_and ?h1 ?h2); (case h1 => tm_at "eb"); (case h2 => tm_at "eb"))
  | with_reducible exact eb_or_nil | with_reducible exact eb_and_nil
  | ((with_reducible refine' eb_not ?h1); (case h1 => tm_at "eb")))
section
variable {prog : Program} {w : World} {n i j : Nat} {h h₀ : Heap} {env : Env} {nm : List Str} {vals : List (Option Value)} {a : Addr} {F F' : FP} {t t' : QS} {D : List Addr} {R r : Res} {s₀ s s' : Shared} {rs : List Res} {A : Around} {E : Value → Shared → Prop} {zs : List Int} {ct cw wl tl f c' : Addr} {doc pm ctv : Value} {K : Frag}
theorem rf_I2 (H : Act (KK w) h₀ env nm vals D (.all rs) R s₀ s) (h1 : rs[1]? = some (.cell ct (some (.ref tl)))) (h2 : rs[2]? = some (.cell cw (some (.ref wl)))) (h6 : rs[6]? = some (.lp wl (sL (lwords (lmany zs))))) (h7 : rs[7]? = some (.lp tl (mL (ltable zs)))) (h8 : rs[8]? = some (.rd w ct cw f c' doc pm ctv)) : (RfR w zs ct cw wl tl f c' doc pm ctv h₀).I s.heap := by
  intro r hr
  simp only [List.mem_cons, List.not_mem_nil, or_false] at hr
  rcases hr with z | z | z | z | z | z <;> subst z
  · exact H.res h1
  · exact H.res h2
  · exact H.res h6
  · exact H.res h7
  · exact H.res h8
  · exact H.cx.gb
theorem rf_dj2 (pw : PW rs) (h1 : rs[1]? = some (.cell ct (some (.ref tl)))) (h2 : rs[2]? = some (.cell cw (some (.ref wl)))) (h6 : rs[6]? = some (.lp wl (sL (lwords (lmany zs))))) (h7 : rs[7]? = some (.lp tl (mL (ltable zs)))) (h8 : rs[8]? = some (.rd w ct cw f c' doc pm ctv)) (hi : rs[i]? = some (.qf a F t)) (h9 : 9 ≤ i) (ok : Fok h₀ D s₀ F) : ∀ b ∈ F.wr, ¬ (RfR w zs ct cw wl tl f c' doc pm ctv h₀).fp b := by
  rintro b hb ⟨r, hr, hf⟩
  have hq : (Res.qf a F t).fp b := wr_all hb
  simp only [List.mem_cons, List.not_mem_nil, or_false] at hr
  rcases hr with z | z | z | z | z | z <;> subst z
  · exact pw_ne pw hi h1 (by omega) hq hf
  · exact pw_ne pw hi h2 (by omega) hq hf
  · exact pw_ne pw hi h6 (by omega) hq hf
  · exact pw_ne pw hi h7 (by omega) hq hf
  · exact pw_ne pw hi h8 (by omega) hq hf
  · obtain ⟨o, e⟩ := hf
    rw [(ok b hb).1] at e; cases e
/-- a thing given over to the rest -/
theorem Act.out (H : Act K h₀ env nm vals D (.all rs) R s₀ s) (pw : PW rs) (hj : rs[j]? = some r) : Act K h₀ env nm vals D (.all (rs.set j .emp)) (R.and r) s₀ s ∧ PW (rs.set j .emp) := by
  obtain ⟨hl, he⟩ := List.getElem?_eq_some_iff.mp hj
  have sub : ∀ q ∈ rs.set j .emp, q = .emp ∨ ∃ i, i ≠ j ∧ rs[i]? = some q := fun q hq => by
    obtain ⟨i, hi, rfl⟩ := List.mem_iff_getElem.mp hq
    rw [List.length_set] at hi
    by_cases e : j = i
    · subst e; rw [List.getElem_set_self]; exact .inl rfl
    · rw [List.getElem_set_ne e]; exact .inr ⟨i, Ne.symm e, List.getElem?_eq_getElem hi⟩
  refine ⟨H.as (fun q hq => ?_) ⟨H.rest, H.res hj⟩ (fun b ⟨q, hq, f⟩ q2 => ?_) (fun ⟨q, hq, f⟩ => ?_) (fun q => q.elim H.lr fun f => H.lo ⟨r, List.mem_of_getElem? hj, f⟩), List.pairwise_iff_getElem.mpr fun x y hx hy hxy => ?_⟩
  · rcases sub q hq with z | ⟨i, _, e⟩
    · rw [z]; trivial
    · exact H.res e
  · rcases sub q hq with z | ⟨i, hi, e⟩
    · rw [z] at f; exact f
    · rcases q2 with q2 | q2
      · exact H.dj b ⟨q, List.mem_of_getElem? e, f⟩ q2
      · exact pw_ne pw e hj hi f q2
  · rcases sub q hq with z | ⟨i, hi, e⟩
    · rw [z] at f; exact f
    · exact H.lo ⟨q, List.mem_of_getElem? e, f⟩
  · rw [List.length_set] at hx hy
    by_cases e1 : j = x
    · subst e1; rw [List.getElem_set_self]; exact fun b q1 _ => q1
    · by_cases e2 : j = y
      · subst e2; rw [List.getElem_set_self]; exact fun b _ q2 => q2
      · rw [List.getElem_set_ne e1, List.getElem_set_ne e2]; exact pw.get hx hy (by omega)
theorem c_stp2 (B : Bas (KK w) h₀) {args : List Value} {S : List Nat} {hf : Addr} {x : Nat} (gb : Gr h₀ s.heap) (X : QFAt s.heap a F t) (hB : ∀ b ∈ F.wr, h₀.get? b = none) (Y : St 3 false hf S t) (hl : S.length ≤ 4) (hx : x < 2 ^ 32) (ha : args.map er = [.ref a, vi (x : Int)]) (hn : 22 ≤ n) :
    MutP prog w n 295 args s F.wr (fun v s' => v = .none ∧ ∃ F' t', Fnew a s F F' ∧ QFAt s'.heap a F' t' ∧ St 3 false hf (addL S x) t') :=
  c_add (q := 3) (auto := false) B gb X hB Y hx (by decide) (by show 3 ≤ 5; decide) (by show S.length < 8; omega) (fun _ => by show S.length + 1 < 8; omega) ha hn
end
section
variable {w : World} {s₁ s : Shared} {h₀ : Heap} {mg mb : Str → Option Value} {env : Env} {A : Around} {sa cs ct cw ml ol wl tl f c' ra pa ba : Addr} {zs : List Int} {q : Nat} {S : List Nat} {u4 u5 : Option Value} {doc pm ctv : Value} {ps : Array Value} {F : FP} {t : QS}
abbrev sP (zs : List Int) (k : Nat) : List Nat := ((lothers zs).take k).foldl addL []
theorem lothers_len (zs : List Int) : (lothers zs).length = 4 := by unfold lothers; simp
theorem foldA_len (S : List Nat) : ∀ xs : List Nat, (xs.foldl addL S).length ≤ S.length + xs.length := by
  intro xs
  induction xs generalizing S with
  | nil => simp
  | cons x xs ih =>
    have := ih (addL S x)
    have h2 := addL_len (S := S) (x := x)
    rw [List.foldl_cons, List.length_cons]; omega
theorem sP_len (zs : List Int) (k : Nat) : (sP zs k).length ≤ 4 := by
  have := foldA_len [] ((lothers zs).take k)
  rw [List.length_take, lothers_len] at this
  have h0 : ([] : List Nat).length = 0 := rfl
  show (((lothers zs).take k).foldl addL []).length ≤ 4
  omega
theorem foldA_snoc {S xs : List Nat} {k x : Nat} (hx : xs[k]? = some x) : (xs.take (k + 1)).foldl addL S = addL ((xs.take k).foldl addL S) x := by
  rw [List.take_add_one, hx, Option.toList_some, List.foldl_append]; rfl
abbrev lv13 (zs : List Int) (ml ol f ra pa : Addr) (q : Nat) (ba : Addr) (u4 u5 : Option Value) : List (Option Value) := [some (vi (lhead zs : Int)), some (vi (lwidth zs : Int)), some (vi (lmany zs : Int)), some (.ref ml), u4, u5, some (.ref ol), some (.ref f), some (.ref ra), some (.ref pa), some (vi ((2 ^ q : Nat) : Int)), some (.ref ba), none, none, none, none, none, none, none, none]
noncomputable abbrev lr12 (w : World) (zs : List Int) (sa cs ct cw ml ol wl tl f c' : Addr) (doc pm ctv : Value) (ps : Array Value) (ra : Addr) (F : FP) (t : QS) (pa : Addr) (S : List Nat) (ba : Addr) (F2 : FP) (t2 : QS) : List Res := lr11 w zs sa cs ct cw ml ol wl tl f c' doc pm ctv ps ra F t pa S ++ [.qf ba F2 t2]
theorem law7 (X : LX w s₁ h₀ mg mb env A sa cs ct cw zs) (H : Act (KK w) h₀ env lawNm (lv12 zs ml ol f ra pa q u4 u5) [481] (.all (lr11 w zs sa cs ct cw ml ol wl tl f c' doc pm ctv ps ra F t pa S)) (.keep s₁.heap [481]) s₁ s) (pw : PW (lr11 w zs sa cs ct cw ml ol wl tl f c' doc pm ctv ps ra F t pa S))
    (next : ∀ s ba F2 t2 u4, Act (KK w) h₀ env lawNm (lv13 zs ml ol f ra pa q ba u4 u5) [481] (.all (lr12 w zs sa cs ct cw ml ol wl tl f c' doc pm ctv ps ra F t pa S ba F2 t2)) (.keep s₁.heap [481]) s₁ s → PW (lr12 w zs sa cs ct cw ml ol wl tl f c' doc pm ctv ps ra F t pa S ba F2 t2) → Fok h₀ [481] s₁ F2 → St 3 false f (sP zs 4) t2 →
      wpAny (model lawProg w) A (execs ((lawStmts w).drop 15) env) (LEnd s₁) (fun _ _ => False) s) :
    wpAny (model lawProg w) A (execs ((lawStmts w).drop 13) env) (LEnd s₁) (fun _ _ => False) s := by
  show wpAny (model lawProg w) A (execs (_ :: _ :: (lawStmts w).drop 15) env) _ _ s
  generalize (lawStmts w).drop 15 = rest at *
  have C := H.cx
  have r := X.r
  have hm := lmany_le zs
  have hwk : env.kindOf "words" = some .cell := X.kind (by kernel_rfl)
  refine wpAny_execs_cons (x_new (ι := Addr × FP) (mk := fun p => .qf p.1 p.2 (.new 3 false f)) (ad := Prod.fst) (j := 11) H pw r (by tm_at "at") ((ev_qfnew (q := 3) (auto := false) C (X.kind (by kernel_rfl)) ev_int (by tm_at "ev") (by tm_at "ev") (by decide) (by decide) (by omega)).imp fun v h' ⟨a, F, e, x, k⟩ => ⟨(a, F), e, x, k⟩) fun i s2 H2 pw2 own2 => ?_)
  obtain ⟨ba, F2⟩ := i
  have C := H2.cx
  refine wpAny_execs_cons (x_range (a := 0) (b := 4) (N := 4) (fun k ρ vals => ∃ F2 t2 u4, ρ = .all (lr12 w zs sa cs ct cw ml ol wl tl f c' doc pm ctv ps ra F t pa S ba F2 t2) ∧ PW (lr12 w zs sa cs ct cw ml ol wl tl f c' doc pm ctv ps ra F t pa S ba F2 t2) ∧ Fok h₀ [481] s₁ F2 ∧ St 3 false f (sP zs k) t2 ∧ vals = lv13 zs ml ol f ra pa q ba u4 u5) H2 r (by tm_at "at") (i := 4)
    (fun b hb => by rw [List.mem_singleton.mp hb]; exact (Res.tab ps).ex _ (H2.res (i := 3) rfl) _ rfl) ?_ (by omega) (by omega) (by omega) (by omega) ⟨F2, _, u4, rfl, pw2, fun b hb => own2 b (wr_all hb), St.new (by decide) (by decide), rfl⟩ ?_ ?_)
  · exact ev_range1 C (by kernel_rfl) (X.kind (by kernel_rfl)) ev_int
  · rintro k ρ vals R' s3 hk ⟨F2, t2, u4, rfl, pw, ok, Y, rfl⟩ hR hRI H
    obtain ⟨x, hx⟩ : ∃ x, (lothers zs)[k]? = some x := ⟨_, List.getElem?_eq_getElem (by rw [lothers_len]; exact hk)⟩
    have hx32 : x < 2 ^ 32 := lothers_lt zs x (List.mem_of_getElem? hx)
    have C := H.cx
    have hl := sP_len zs k
    have hP1 : sP zs (k + 1) = addL (sP zs k) x := foldA_snoc hx
    have Lw : Lp s3.heap wl (sL (lwords (lmany zs))) := H.res (i := 6) rfl
    refine wpAny_execs_cons (x_callq (i := 11) (St 3 false f (addL (sP zs k) x)) H pw r rfl ok (mth_addk w) (by tm_at "ev") (el1 (ev_item (ev_cell (v := .ref wl) C.F.kind hwk X.lw (H.res (i := 2) rfl)) Lw.ls (Eva.cast (v' := vi ((lmany zs + k : Nat) : Int)) (by tm_at "ev") (congrArg vi (by show (lmany zs : Int) + (0 + (k : Int)) = _; omega))) (by omega) (by omega) (sL_at (lwords_o hk)))) (fun vs' s5 hv x5 H5 => ?_) (fun F' t' s5 G H5 pw5 ok5 => wpAny_execs_nil ?_))
    · have hI := rf_I (more := [.qf ra F t, .lp pa (mL S), .qf ba F2 t2]) H5
      refine q_addk (k := wd "o" k) H5.cx.bs H5.cx.gb (H5.res (i := 11) rfl) (fun b hb => (ok b hb).1) hI (rf_dj (i := 11) (a := ba) (t := t2) (more := [.qf ra F t, .lp pa (mL S), .qf ba F2 t2]) pw rfl (by omega) ok) (by rw [Y.hf]; exact hashF_of H5.cx.bs) _ (fun s1 m args g1 X1 hm ha => ?_) (by rw [List.map_cons, hv]; rfl) (by omega)
      rw [rd_o hx] at ha
      exact c_stp2 C.bs g1 X1 (fun b hb => (ok b hb).1) Y hl hx32 ha (by omega)
    · rw [hP1]
      exact ⟨_, _, ⟨F', t', _, rfl, pw5, ok5, G, rfl⟩, H5⟩
  · rintro ρ vals s2 ⟨F2, t2, u4, rfl, pw, ok, Y, rfl⟩ H
    exact next s2 ba F2 t2 u4 H pw ok Y
end
end Mine
end
section
open PySem PySem.W PyProof.Rows PySem.Calls
set_option Elab.async false
set_option maxRecDepth 100000
set_option maxHeartbeats 4000000
set_option linter.unusedVariables false
set_option pp.deepTerms false
set_option pp.maxSteps 700
namespace Mine
local macro_rules | `(tactic| tm_at "at") => `(tactic| with_reducible (repeat (first | exact At.head | apply At.tail)))
local macro_rules | `(tactic| tm_at "ok") => `(tactic| first | trivial | assumption | decide | (simp only [okI]; omega) | (simp only [okI]; mul_fits))
local macro_rules | `(tactic| tm_at "bop") => `(tactic| exact fun _ _ => bo_any (by tm_at "ok"))
local macro_rules | `(tactic| tm_at "cm") => `(tactic| exact fun _ _ => co_any rfl)
local macro_rules | `(tactic| tm_at "obj") => `(tactic| first | exact QFAt.ob (by assumption) | assumption)
local macro_rules | `(tactic| tm_at "cls") => `(tactic| first | exact cls_qf _ | exact cls_bit _)
local macro_rules | `(tactic| tm_at "lt") => `(tactic| first | assumption | omega)
local macro_rules | `(tactic| tm_at "bitx") => `(tactic| first | exact QFAt.bo (by assumption) | exact QFAt.bc (by assumption) | exact QFAt.bs (by assumption))
local macro_rules | `(tactic| tm_at "ev") => `(tactic| first
  | with_reducible exact ev_int | with_reducible exact ev_true | with_reducible exact ev_none | with_reducible exact ev_str
  | ((with_reducible refine' ev_loc ?h1 ?h2 ?h3); (case h1 => assumption); (case h2 => tm_at "at"); (case h3 => rfl))
  | ((with_reducible refine' ev_attr (Cx.inK ?h1) ?h2 ?h3 ?h4 ?h5 ?h6 ?h7 ?h8); (case h1 => assumption); (case h4 => tm_at "ev"); (case h3 => tm_at "obj"); (case h2 => tm_at "cls"); (case h5 => tm_at "at"); (case h6 => rfl); (case h7 => rfl); (case h8 => rfl))
  | ((with_reducible refine' ev_bin ?h1 ?h2 ?h3); (case h1 => tm_at "ev"); (case h2 => tm_at "ev"); (case h3 => tm_at "bop"))
  | ((with_reducible refine' ev_bit ?h1 ?h2 ?h3 ?h4 ?h5 ?h6 ?h7 ?h8); (case h1 => assumption); (case h3 => tm_at "ev"); (case h4 => tm_at "ev"); (case h2 => tm_at "bitx"); (case h5 => tm_at "lt"); (case h6 => tm_at "lt"); (case h7 => tm_at "lt"); (case h8 => (intros; rfl)))
  | ((with_reducible refine' ev_un ?h1 ?h2); (case h1 => tm_at "ev"); (case h2 => exact fun _ => uo_any rfl)))
local macro_rules | `(tactic| tm_at "eb") => `(tactic| first
  | ((with_reducible refine' eb_cmp ?h1 ?h2 ?h3 ?h4); (case h1 => tm_at "ev"); (case h2 => tm_at "ev"); (case h3 => tm_at "cm"); (case h4 => rfl))
  | ((with_reducible refine' eb_bool ?h1); (case h1 => tm_at "eb"))
  | ((with_reducible refine' eb_or ?h1 ?h2); (case h1 => tm_at "eb"); (case h2 => tm_at "eb"))
  | ((with_reducible refine' eb_and ?h1 ?h2); (case h1 => tm_at "eb"); (case h2 => tm_at "eb"))
  | with_reducible exact eb_or_nil | with_reducible exact eb_and_nil
  | ((with_reducible refine' eb_not ?h1); (case h1 => tm_at "eb")))
section
variable {w : World} {s₁ s : Shared} {h₀ : Heap} {mg mb : Str → Option Value} {env : Env} {A : Around} {sa cs ct cw ml ol wl tl f c' ra pa ba : Addr} {zs : List Int} {q : Nat} {S : List Nat} {u4 u5 : Option Value} {doc pm ctv : Value} {ps : Array Value} {F F2 : FP} {t t2 : QS}
noncomputable abbrev lrE (w : World) (zs : List Int) (sa cs ct cw ml wl tl f c' : Addr) (doc pm ctv : Value) (ps : Array Value) (more : List Res) : List Res := [.cell cs (some (.ref sa)), .cell ct (some (.ref tl)), .cell cw (some (.ref wl)), .tab ps, .lp ml (mL (lmarks zs (lmany zs))), .emp, .lp wl (sL (lwords (lmany zs))), .lp tl (mL (ltable zs)), .rd w ct cw f c' doc pm ctv] ++ more
abbrev lv15 (zs : List Int) (ml ol f ra pa : Addr) (q : Nat) (ba aa ll : Addr) (u4 u5 : Option Value) : List (Option Value) := [some (vi (lhead zs : Int)), some (vi (lwidth zs : Int)), some (vi (lmany zs : Int)), some (.ref ml), u4, u5, some (.ref ol), some (.ref f), some (.ref ra), some (.ref pa), some (vi ((2 ^ q : Nat) : Int)), some (.ref ba), some (.ref aa), some (.ref ll), none, none, none, none, none, none]
abbrev lv14 (zs : List Int) (ml ol f ra pa : Addr) (q : Nat) (ba aa : Addr) (u4 u5 : Option Value) : List (Option Value) := [some (vi (lhead zs : Int)), some (vi (lwidth zs : Int)), some (vi (lmany zs : Int)), some (.ref ml), u4, u5, some (.ref ol), some (.ref f), some (.ref ra), some (.ref pa), some (vi ((2 ^ q : Nat) : Int)), some (.ref ba), some (.ref aa), none, none, none, none, none, none, none]
theorem ls_new {prog : Program} {n : Nat} {h : Heap} {t : Sem Value} {xs : List Value} (x : EvaP prog w n h t fun v h' => ∃ l, v = .ref l ∧ Ls h' l xs ∧ h.get? l = none) : EvaP prog w n h t fun v h' => ∃ i : Addr, v = .ref i ∧ (Res.ls i xs).I h' ∧ ∀ b, (Res.ls i xs).fp b → h.get? b = none :=
  x.imp fun v h' ⟨q, e, L, f⟩ => ⟨q, e, L, fun b hb => by rw [show b = q from hb]; exact f⟩
theorem law8 (X : LX w s₁ h₀ mg mb env A sa cs ct cw zs) (H : Act (KK w) h₀ env lawNm (lv13 zs ml ol f ra pa q ba u4 u5) [481] (.all (lr12 w zs sa cs ct cw ml ol wl tl f c' doc pm ctv ps ra F t pa S ba F2 t2)) (.keep s₁.heap [481]) s₁ s) (pw : PW (lr12 w zs sa cs ct cw ml ol wl tl f c' doc pm ctv ps ra F t pa S ba F2 t2))
    (Y2 : St 3 false f (sP zs 4) t2)
    (next : ∀ s aa ll xs u5 R, Act (KK w) h₀ env lawNm (lv15 zs ml ol f ra pa q ba aa ll u4 u5) [481] (.all (lrE w zs sa cs ct cw ml wl tl f c' doc pm ctv ps [.qf ra F t, .lp pa (mL S), .qf ba F2 t2, .lp aa (mL (sP zs 4)), .ls ll (mL xs)])) R s₁ s → PW (lrE w zs sa cs ct cw ml wl tl f c' doc pm ctv ps [.qf ra F t, .lp pa (mL S), .qf ba F2 t2, .lp aa (mL (sP zs 4)), .ls ll (mL xs)]) → t2.hashes = some xs → xs.Perm (sP zs 4) →
      wpAny (model lawProg w) A (execs ((lawStmts w).drop 18) env) (LEnd s₁) (fun _ _ => False) s) :
    wpAny (model lawProg w) A (execs ((lawStmts w).drop 15) env) (LEnd s₁) (fun _ _ => False) s := by
  show wpAny (model lawProg w) A (execs (_ :: _ :: _ :: (lawStmts w).drop 18) env) _ _ s
  generalize (lawStmts w).drop 18 = rest at *
  have r := X.r
  refine wpAny_execs_cons (x_new (ι := Addr) (mk := fun p => .lp p (mL [])) (ad := id) (j := 12) H pw r (by tm_at "at") (ev_lpn ev_nil) fun aa s2 H2 pw2 own2 => ?_)
  have op := own2 aa rfl
  clear own2
  obtain ⟨H3, pw3⟩ := H2.out pw2 (j := 5) rfl
  clear H2 pw2 H pw
  have C := H3.cx
  refine wpAny_execs_cons (x_list (a := ol) (xs := mL (lothers zs)) (fun k ρ vals => ∃ u5, ρ = .all (lrE w zs sa cs ct cw ml wl tl f c' doc pm ctv ps [.qf ra F t, .lp pa (mL S), .qf ba F2 t2, .lp aa (mL (sP zs k))]) ∧ PW (lrE w zs sa cs ct cw ml wl tl f c' doc pm ctv ps [.qf ra F t, .lp pa (mL S), .qf ba F2 t2, .lp aa (mL (sP zs k))]) ∧ vals = lv14 zs ml ol f ra pa q ba aa u4 u5) H3 r (by tm_at "at") (i := 5)
    (fun b hb => by rw [List.mem_singleton.mp hb]; exact (Res.tab ps).ex _ (H3.res (i := 3) rfl) _ rfl) (by tm_at "ev") (Lp.ls H3.rest.2) (fun z => H3.dj ol z (.inr rfl)) (fun z => H3.lr (.inr z.symm)) ⟨u5, rfl, pw3, rfl⟩ ?_ ?_)
  · rintro k v ρ vals R' s3 hk hv ⟨u5, rfl, pw, rfl⟩ hR hRI H
    rw [mL_len, lothers_len] at hk
    obtain ⟨x, hx⟩ : ∃ x, (lothers zs)[k]? = some x := ⟨_, List.getElem?_eq_getElem (by rw [lothers_len]; exact hk)⟩
    have hvx : v = vi (x : Int) := by
      rw [List.getElem?_map, hx] at hv
      exact (Option.some.inj hv).symm
    subst hvx
    have C := H.cx
    have hl := sP_len zs k
    have hP1 : sP zs (k + 1) = addL (sP zs k) x := foldA_snoc hx
    have La : Lp s3.heap aa (mL (sP zs k)) := H.res (i := 12) rfl
    refine y_if (c := !decide (x ∈ sP zs k)) H r (eb_cmp (by tm_at "ev") (by tm_at "ev") fun a b ha hb => co_notin_nat La.ls ha hb) (fun hc s4 H4 _ => ?_) (fun hc s4 H4 _ => ?_)
    · have hc : x ∉ sP zs k := by simpa using hc
      have C := H4.cx
      have La : Lp s4.heap aa (mL (sP zs k)) := H4.res (i := 12) rfl
      refine wpAny_execs_cons (x_append C.F r (by tm_at "ev") (v := vi (x : Int)) (by tm_at "ev") La (by rw [mL_len]; omega) fun s5 x5 L5 => wpAny_execs_nil ?_)
      obtain ⟨H5, pw5⟩ := H4.upd (i := 12) (r' := .lp aa (mL (sP zs (k + 1)))) pw rfl x5 (fun b hb => by rw [List.mem_singleton.mp hb]; exact ⟨rfl, op⟩) (by
        show Lp _ _ _
        rw [hP1]
        unfold addL mL; rw [if_neg hc, List.map_append]; exact L5) fun b hb => .inl hb
      exact wpAny_execs_nil ⟨_, _, ⟨_, rfl, pw5, rfl⟩, H5⟩
    · have hc : x ∈ sP zs k := by simpa using hc
      have e : sP zs (k + 1) = sP zs k := by rw [hP1]; unfold addL; rw [if_pos hc]
      refine wpAny_execs_nil (wpAny_execs_nil ⟨_, _, ⟨some (vi (x : Int)), rfl, ?_, rfl⟩, ?_⟩)
      · rw [e]; exact pw
      · rw [e]; exact H4
  · rintro ρ vals s3 ⟨u5, rfl, pw, rfl⟩ H
    rw [mL_len, lothers_len] at H pw
    have C := H.cx
    obtain ⟨xs, hxs, hp⟩ := Y2.I.hashes
    have Q2 : QFAt s3.heap ba F2 t2 := H.res (i := 11) rfl
    have hl := sP_len zs 4
    refine wpAny_execs_cons (x_new (ι := Addr) (mk := fun l => .ls l (mL xs)) (ad := id) (j := 13) H pw r (by tm_at "at") (ls_new (ev_mcall C.inK (cls_qf w) Q2.ob (mth_gethashes w) (by tm_at "ev") el_nil fun vs' hv => q_gethashes C.bs C.gb Q2 hxs (by rw [hp.length_eq]; omega) (by rw [List.map_cons, hv]; rfl) (by omega))) fun ll s4 H4 pw4 own4 => ?_)
    exact next s4 aa ll xs u5 _ H4 pw4 hxs hp
end
end Mine
end
section
open PySem PySem.W PyProof.Rows PySem.Calls
set_option Elab.async false
set_option maxRecDepth 100000
set_option maxHeartbeats 4000000
set_option linter.unusedVariables false
set_option pp.deepTerms false
set_option pp.maxSteps 700
namespace Mine
local macro_rules | `(tactic| tm_at "at") => `(tactic| with_reducible (repeat (first | exact At.head | apply At.tail)))
local macro_rules | `(tactic| tm_at "ok") => `(tactic| first | trivial | assumption | decide | (simp only [okI]; omega) | (simp only [okI]; mul_fits))
local macro_rules | `(tactic| tm_at "bop") => `(tactic| exact fun _ _ => bo_any (by tm_at "ok"))
local macro_rules | `(tactic| tm_at "cm") => `(tactic| exact fun _ _ => co_any rfl)
local macro_rules | `(tactic| tm_at "obj") => `(tactic| first | exact QFAt.ob (by assumption) | assumption)
local macro_rules | `(tactic| tm_at "cls") => `(tactic| first | exact cls_qf _ | exact cls_bit _)
local macro_rules | `(tactic| tm_at "lt") => `(tactic| first | assumption | omega)
local macro_rules | `(tactic| tm_at "bitx") => `(tactic| first | exact QFAt.bo (by assumption) | exact QFAt.bc (by assumption) | exact QFAt.bs (by assumption))
local macro_rules | `(tactic| tm_at "ev") => `(tactic| first
  | with_reducible exact ev_int | with_reducible exact ev_true | with_reducible exact ev_none | with_reducible exact ev_str
  | ((with_reducible refine' ev_loc ?h1 ?h2 ?h3); (case h1 => assumption); (case h2 => tm_at "at"); (case h3 => rfl))
  | ((with_reducible refine' ev_attr (Cx.inK ?h1) ?h2 ?h3 ?h4 ?h5 ?h6 ?h7 ?h8); (case h1 => assumption); (case h4 => tm_at "ev"); (case h3 => tm_at "obj"); (case h2 => tm_at "cls"); (case h5 => tm_at "at"); (case h6 => rfl); (case h7 => rfl); (case h8 => rfl))
  | ((with_reducible refine' ev_bin ?h1 ?h2 ?h3); (case h1 => tm_at "ev"); (case h2 => tm_at "ev"); (case h3 => tm_at "bop"))
  | ((with_reducible refine' ev_bit ?h1 ?h2 ?h3 ?h4 ?h5 ?h6 ?h7 ?h8); (case h1 => assumption); (case h3 => tm_at "ev"); (case h4 => tm_at "ev"); (case h2 => tm_at "bitx"); (case h5 => tm_at "lt"); (case h6 => tm_at "lt"); (case h7 => tm_at "lt"); (case h8 => (intros; rfl)))
  | ((with_reducible refine' ev_un ?h1 ?h2); (case h1 => tm_at "ev"); (case h2 => exact fun _ => uo_any rfl)))
local macro_rules | `(tactic| tm_at "eb") => `(tactic| first
  | ((with_reducible refine' eb_cmp ?h1 ?h2 ?h3 ?h4); (case h1 => tm_at "ev"); (case h2 => tm_at "ev"); (case h3 => tm_at "cm"); (case h4 => rfl))
  | ((with_reducible refine' eb_bool ?h1); (case h1 => tm_at "eb"))
  | ((with_reducible refine' eb_or ?h1 ?h2); (case h1 => tm_at "eb"); (case h2 => tm_at "eb"))
  | ((with_reducible refine' eb_and ?h1 ?h2); (case h1 => tm_at "eb"); (case h2 => tm_at "eb"))
  | with_reducible exact eb_or_nil | with_reducible exact eb_and_nil
  | ((with_reducible refine' eb_not ?h1); (case h1 => tm_at "eb")))
section
variable {prog : Program} {w : World} {n : Nat} {h h₀ : Heap} {env : Env} {K : Frag} {nm : List Str} {vals : List (Option Value)}
/-- sorted(a list of numbers) -/
def SrtP (xs : List Nat) (v : Value) (h' : Heap) : Prop := ∃ (q : Addr) (ns : List Int), v = .ref q ∧ Ls h' q (ns.map vi) ∧ ns.Perm (xs.map fun (x : Nat) => (x : Int)) ∧ ns.Pairwise (· ≤ ·)
theorem SrtP.gr {xs : List Nat} {v : Value} {h h' : Heap} (x : SrtP xs v h) (g : Gr h h') : SrtP xs v h' := let ⟨q, ns, e, L, r⟩ := x; ⟨q, ns, e, L.gr g, r⟩
theorem ints_er2 : ∀ {vs : List Value} {ns : List Int}, IntsAre vs ns → vs.map er = ns.map vi
  | _, _, .nil => rfl
  | _, _, .cons n t h => by rw [List.map_cons, List.map_cons, ints_er2 h]; rfl
theorem ev_sorted {np cp : Pos} {e : Expr} {xs : List Nat} (C : Cx K h₀ env nm vals h) (e0 : nsIn K mainGlobals "sorted" = some Option.none) (hx : env.kindOf "sorted" = some .globalImplicit) (h1 : EvaP prog w n h (eval e env) fun v h' => ∃ q, v = .ref q ∧ Ls h' q (mL xs)) (hsz : xs.length < 64)
    (hst : starEach [e] env = (false, eval e env) :: starEach [] env := by rfl)
    (he : eval (.Call (.Name "sorted" np) [e] [] cp) env = (do callWith cp (← eval (.Name "sorted" np) env) [] (backTo cp (starEach [e] env)) (backToKw cp (keywordEach [] env))) := by rfl) :
    EvaP prog w n h (eval (.Call (.Name "sorted" np) [e] [] cp) env) (SrtP xs) := by
  intro A Q E s r g q
  refine Call_ (EvaP.go (ev_built (v := .builtin "sorted") (prog := prog) (w := w) (n := n) C e0 (by decide +kernel) hx (by decide) (by decide)) A _ E s r g fun f s1 ef x1 => ?_) he
  subst ef
  refine PyProof.Rows.callWith_builtin1 (args_cons (h1 A _ E s1 r (g.trans x1.gr) fun v s2 ev x2 => args_nil ?_) hst) hst
  obtain ⟨l, rfl, L⟩ := ev
  obtain ⟨its, L1, e2⟩ := L.toA
  have hlen : its.length = xs.length := by have := congrArg List.length e2; simpa using this
  refine sorted_ints L1 (ints_of (e2.trans mL_ints)) (by omega) fun out ns' hI hp hs => ?_
  obtain ⟨ep, ho⟩ := sortedAll_at s2.heap its out
  refine q _ _ ⟨_, ns', rfl, ⟨out, ⟨_, ho, rfl, _, rfl⟩, ints_er2 hI⟩, hp, hs⟩ ((x1.trans x2).trans (SX.heap (tk := s2.toks) fun b o _ z => sortedAll_old z))
theorem srt_uniq {a b : List Int} (p : a.Perm b) (ha : a.Pairwise (· ≤ ·)) (hb : b.Pairwise (· ≤ ·)) : a = b := List.Perm.eq_of_pairwise (fun x y _ _ h1 h2 => by omega) ha hb p
theorem eb_nesorted {l r' : Expr} {pos : Pos} {whole : Sem Value} {xs ys : List Nat} (hn : 1 ≤ n) (h1 : EvaP prog w n h (eval l env) (SrtP xs)) (h2 : EvaP prog w n h (eval r' env) (SrtP ys)) (hp : xs.Perm ys) (hb : behindInMarks .NotEq r' = false := by rfl) :
    EvB prog w n h (PySem.isTrue (.Compare l [.NotEq] [r'] pos) env whole) false := by
  intro A Q E s r g q
  refine wpAny_isTrue_Compare1 (h1 A _ E s r g fun a' s1 ha x1 => h2 A _ E s1 r (g.trans x1.gr) fun b' s2 hb x2 => ?_) hb
  obtain ⟨q1, ns, rfl, L1, p1, s1'⟩ := ha.gr x2.gr
  obtain ⟨q2, ms, rfl, L2, p2, s2'⟩ := hb
  obtain ⟨i1, A1, e1⟩ := L1.toA
  obtain ⟨i2, A2, e2⟩ := L2.toA
  have e : ns = ms := srt_uniq (p1.trans ((hp.map _).trans p2.symm)) s1' s2'
  exact ne_intsK A1 (ints_of e1) A2 (ints_of e2) (by have := r.un; omega) (by rw [decide_eq_true e]; exact wpAny_truthy_bool (q _ _ rfl (x1.trans x2)))
/-- a list display -/
theorem ev_list {es : List Expr} {pos : Pos} {xs : List Value} (h1 : EvL prog w n h pos env es xs) (hsz : xs.length ≤ 1000) : EvaP prog w n h (eval (.List es pos) env) fun v h' => ∃ q, v = .ref q ∧ Lp h' q xs ∧ h.get? q = none := by
  intro A Q E s r g q
  refine wpAny_List_spliced ?_
  refine h1 A _ E s r g fun vs s1 ev x1 => ?_
  have hl : vs.length = xs.length := by have := congrArg List.length ev; simpa using this
  exact ⟨by rw [sizeLine_eq]; omega, q _ _ ⟨_, rfl, ⟨_, _, Heap.get?_push_size _ rfl, ev⟩, Gr.none (g.trans x1.gr) (size_none _)⟩ (x1.trans (SX.heap fun b o _ z => Heap.get?_push_of_some _ z))⟩
end
end Mine
end
section
open PySem PySem.W PyProof.Rows PySem.Calls
set_option Elab.async false
set_option maxRecDepth 100000
set_option maxHeartbeats 4000000
set_option linter.unusedVariables false
set_option pp.deepTerms false
set_option pp.maxSteps 700
namespace Mine
local macro_rules | `(tactic| tm_at "at") => `(tactic| with_reducible (repeat (first | exact At.head | apply At.tail)))
local macro_rules | `(tactic| tm_at "ok") => `(tactic| first | trivial | assumption | decide | (simp only [okI]; omega) | (simp only [okI]; mul_fits))
local macro_rules | `(tactic| tm_at "bop") => `(tactic| exact fun _ _ => bo_any (by tm_at "ok"))
local macro_rules | `(tactic| tm_at "cm") => `(tactic| exact fun _ _ => co_any rfl)
local macro_rules | `(tactic| tm_at "obj") => `(tactic| first | exact QFAt.ob (by assumption) | assumption)
local macro_rules | `(tactic| tm_at "cls") => `(tactic| first | exact cls_qf _ | exact cls_bit _)
local macro_rules | `(tactic| tm_at "lt") => `(tactic| first | assumption | omega)
local macro_rules | `(tactic| tm_at "bitx") => `(tactic| first | exact QFAt.bo (by assumption) | exact QFAt.bc (by assumption) | exact QFAt.bs (by assumption))
local macro_rules | `(tactic| tm_at "ev") => `(tactic| first
  | with_reducible exact ev_int | with_reducible exact ev_true | with_reducible exact ev_none | with_reducible exact ev_str
  | ((with_reducible refine' ev_loc ?h1 ?h2 ?h3); (case h1 => assumption); (case h2 => tm_at "at"); (case h3 => rfl))
  | ((with_reducible refine' ev_attr (Cx.inK ?h1) ?h2 ?h3 ?h4 ?h5 ?h6 ?h7 ?h8); (case h1 => assumption); (case h4 => tm_at "ev"); (case h3 => tm_at "obj"); (case h2 => tm_at "cls"); (case h5 => tm_at "at"); (case h6 => rfl); (case h7 => rfl); (case h8 => rfl))
  | ((with_reducible refine' ev_bin ?h1 ?h2 ?h3); (case h1 => tm_at "ev"); (case h2 => tm_at "ev"); (case h3 => tm_at "bop"))
  | ((with_reducible refine' ev_bit ?h1 ?h2 ?h3 ?h4 ?h5 ?h6 ?h7 ?h8); (case h1 => assumption); (case h3 => tm_at "ev"); (case h4 => tm_at "ev"); (case h2 => tm_at "bitx"); (case h5 => tm_at "lt"); (case h6 => tm_at "lt"); (case h7 => tm_at "lt"); (case h8 => (intros; rfl)))
  | ((with_reducible refine' ev_un ?h1 ?h2); (case h1 => tm_at "ev"); (case h2 => exact fun _ => uo_any rfl)))
local macro_rules | `(tactic| tm_at "eb") => `(tactic| first
  | ((with_reducible refine' eb_cmp ?h1 ?h2 ?h3 ?h4); (case h1 => tm_at "ev"); (case h2 => tm_at "ev"); (case h3 => tm_at "cm"); (case h4 => rfl))
  | ((with_reducible refine' eb_bool ?h1); (case h1 => tm_at "eb"))
  | ((with_reducible refine' eb_or ?h1 ?h2); (case h1 => tm_at "eb"); (case h2 => tm_at "eb"))
  | ((with_reducible refine' eb_and ?h1 ?h2); (case h1 => tm_at "eb"); (case h2 => tm_at "eb"))
  | with_reducible exact eb_or_nil | with_reducible exact eb_and_nil
  | ((with_reducible refine' eb_not ?h1); (case h1 => tm_at "eb")))
theorem mth_merge (w : World) : Mth (KK w) QFc qfNm "merge" 352 := .of (by kernel_rfl) (by kernel_rfl) (by kernel_rfl) (by decide +kernel)
section
variable {w : World} {s₁ s : Shared} {h₀ : Heap} {mg mb : Str → Option Value} {env : Env} {A : Around} {sa cs ct cw ml ol wl tl f c' ra pa ba aa ll : Addr} {zs : List Int} {q : Nat} {S xs : List Nat} {u4 u5 : Option Value} {doc pm ctv : Value} {ps : Array Value} {F F2 : FP} {t t2 : QS} {R : Res}
theorem law9 (X : LX w s₁ h₀ mg mb env A sa cs ct cw zs) (H : Act (KK w) h₀ env lawNm (lv15 zs ml ol f ra pa q ba aa ll u4 u5) [481] (.all (lrE w zs sa cs ct cw ml wl tl f c' doc pm ctv ps [.qf ra F t, .lp pa (mL S), .qf ba F2 t2, .lp aa (mL (sP zs 4)), .ls ll (mL xs)])) R s₁ s) (pw : PW (lrE w zs sa cs ct cw ml wl tl f c' doc pm ctv ps [.qf ra F t, .lp pa (mL S), .qf ba F2 t2, .lp aa (mL (sP zs 4)), .ls ll (mL xs)]))
    (ok : Fok h₀ [481] s₁ F) (Y : St q true f S t) (hok : POk (q, S)) (hS : S.length ≤ 15) (Y2 : St 3 false f (sP zs 4) t2) (hxs : t2.hashes = some xs) (hp : xs.Perm (sP zs 4))
    (next : ∀ s F t, Act (KK w) h₀ env lawNm (lv15 zs ml ol f ra pa q ba aa ll u4 u5) [481] (.all (lrE w zs sa cs ct cw ml wl tl f c' doc pm ctv ps [.qf ra F t, .lp pa (mL S), .qf ba F2 t2, .lp aa (mL (sP zs 4)), .ls ll (mL xs)])) R s₁ s → PW (lrE w zs sa cs ct cw ml wl tl f c' doc pm ctv ps [.qf ra F t, .lp pa (mL S), .qf ba F2 t2, .lp aa (mL (sP zs 4)), .ls ll (mL xs)]) → Fok h₀ [481] s₁ F → St (runL (q, S) xs).1 true f (runL (q, S) xs).2 t →
      wpAny (model lawProg w) A (execs ((lawStmts w).drop 20) env) (LEnd s₁) (fun _ _ => False) s) :
    wpAny (model lawProg w) A (execs ((lawStmts w).drop 18) env) (LEnd s₁) (fun _ _ => False) s := by
  show wpAny (model lawProg w) A (execs (_ :: _ :: (lawStmts w).drop 20) env) _ _ s
  generalize (lawStmts w).drop 20 = rest at *
  have r := X.r
  have C := H.cx
  have hl := sP_len zs 4
  have hxl : xs.length ≤ 4 := by rw [hp.length_eq]; exact hl
  have hso : env.kindOf "sorted" = some .globalImplicit := X.kind (by kernel_rfl)
  have Ll : Ls s.heap ll (mL xs) := H.res (i := 13) rfl
  have La : Lp s.heap aa (mL (sP zs 4)) := H.res (i := 12) rfl
  refine y_if (c := false) H r (eb_nesorted (by omega) (ev_sorted (xs := xs) C (by kernel_rfl) hso ((ev_loc C (i := 13) (v := .ref ll) (by tm_at "at") rfl).impG fun v h' e g => ⟨ll, er_ref e, Ll.gr g⟩) (by omega)) (ev_sorted (xs := sP zs 4) C (by kernel_rfl) hso ((ev_loc C (i := 12) (v := .ref aa) (by tm_at "at") rfl).impG fun v h' e g => ⟨aa, er_ref e, (La.gr g).ls⟩) (by omega)) hp) (fun q => nomatch q) fun _ s2 H2 _ => wpAny_execs_nil ?_
  clear H C Ll La
  show wpAny _ _ (execs (_ :: rest) _) _ _ _
  have C := H2.cx
  refine wpAny_execs_cons (x_callq (i := 9) (St (runL (q, S) xs).1 true f (runL (q, S) xs).2) H2 pw r rfl ok (mth_merge w) (by tm_at "ev") (el1 (by tm_at "ev")) (fun vs' s5 hv x5 H5 => ?_) (fun F' t' s5 G H5 pw5 ok5 => next s5 F' t' H5 pw5 ok5 G))
  have hI := rf_I2 (zs := zs) (w := w) H5 rfl rfl rfl rfl rfl
  have hdj := rf_dj2 (h₀ := h₀) (D := [481]) (s₀ := s₁) (zs := zs) (w := w) (a := ra) (t := t) (F := F) pw rfl rfl rfl rfl rfl (i := 9) rfl (by omega) ok
  have X5 : QFAt s5.heap ra F t := H5.res (i := 9) rfl
  have X6 : QFAt s5.heap ba F2 t2 := H5.res (i := 11) rfl
  have e : xs.take xs.length = xs := List.take_of_length_le (Nat.le_refl _)
  have key := q_merge (prog := lawProg) (w := w) (n := 100) (s := s5) (args := .ref ra :: vs') H5.cx.bs (fun k t' => St (runL (q, S) (xs.take k)).1 true f (runL (q, S) (xs.take k)).2 t') H5.cx.gb X5 X6 (fun b hb => (ok b hb).1) (fun x hx hx2 => pw_ne pw (i := 9) (j := 11) rfl rfl (by omega) (show (Res.qf ra F t).fp x from wr_all hx) hx2) hI hdj (by rw [Y.hf]; exact hashF_of H5.cx.bs) (by rw [Y2.hf]; exact hashF_of H5.cx.bs) hxs (by omega) Y ?_ (by rw [List.map_cons, hv]; rfl) (by omega)
  · rw [e] at key; exact key
  · intro k x F1 t1 s1 m args hx G1 g1 X1 hB1 hm ha
    have hk := (List.getElem?_eq_some_iff.mp hx).1
    have hx32 : x < 2 ^ 32 := Y2.lt x (hp.mem_iff.mp (List.mem_of_getElem? hx))
    show MutP _ _ _ _ _ _ _ fun v s' => v = .none ∧ ∃ F' t', Fnew ra s1 F1 F' ∧ QFAt s'.heap ra F' t' ∧ St (runL (q, S) (xs.take (k + 1))).1 true f (runL (q, S) (xs.take (k + 1))).2 t'
    have hlt : (xs.take k).length ≤ 4 := by rw [List.length_take]; omega
    have hll := runL_len (q, S) (xs.take k)
    have h0 : ((q, S) : Nat × List Nat).2.length = S.length := rfl
    rw [runL_snoc hx]
    exact c_stp (p := runL (q, S) (xs.take k)) C.bs g1 X1 hB1 G1 (runL_ok hok _ (by omega)) (by omega) hx32 ha (by omega)
end
end Mine
end
section
open PySem PySem.W PyProof.Rows PySem.Calls
set_option Elab.async false
set_option maxRecDepth 100000
set_option maxHeartbeats 4000000
set_option linter.unusedVariables false
set_option pp.deepTerms false
set_option pp.maxSteps 700
namespace Mine
local macro_rules | `(tactic| tm_at "at") => `(tactic| with_reducible (repeat (first | exact At.head | apply At.tail)))
local macro_rules | `(tactic| tm_at "ok") => `(tactic| first | trivial | assumption | decide | (simp only [okI]; omega) | (simp only [okI]; mul_fits))
local macro_rules | `(tactic| tm_at "bop") => `(tactic| exact fun _ _ => bo_any (by tm_at "ok"))
local macro_rules | `(tactic| tm_at "cm") => `(tactic| exact fun _ _ => co_any rfl)
local macro_rules | `(tactic| tm_at "obj") => `(tactic| first | exact QFAt.ob (by assumption) | assumption)
local macro_rules | `(tactic| tm_at "cls") => `(tactic| first | exact cls_qf _ | exact cls_bit _)
local macro_rules | `(tactic| tm_at "lt") => `(tactic| first | assumption | omega)
local macro_rules | `(tactic| tm_at "bitx") => `(tactic| first | exact QFAt.bo (by assumption) | exact QFAt.bc (by assumption) | exact QFAt.bs (by assumption))
local macro_rules | `(tactic| tm_at "ev") => `(tactic| first
  | with_reducible exact ev_int | with_reducible exact ev_true | with_reducible exact ev_none | with_reducible exact ev_str
  | ((with_reducible refine' ev_loc ?h1 ?h2 ?h3); (case h1 => assumption); (case h2 => tm_at "at"); (case h3 => rfl))
  | ((with_reducible refine' ev_attr (Cx.inK ?h1) ?h2 ?h3 ?h4 ?h5 ?h6 ?h7 ?h8); (case h1 => assumption); (case h4 => tm_at "ev"); (case h3 => tm_at "obj"); (case h2 => tm_at "cls"); (case h5 => tm_at "at"); (case h6 => rfl); (case h7 => rfl); (case h8 => rfl))
  | ((with_reducible refine' ev_bin ?h1 ?h2 ?h3); (case h1 => tm_at "ev"); (case h2 => tm_at "ev"); (case h3 => tm_at "bop"))
  | ((with_reducible refine' ev_bit ?h1 ?h2 ?h3 ?h4 ?h5 ?h6 ?h7 ?h8); (case h1 => assumption); (case h3 => tm_at "ev"); (case h4 => tm_at "ev"); (case h2 => tm_at "bitx"); (case h5 => tm_at "lt"); (case h6 => tm_at "lt"); (case h7 => tm_at "lt"); (case h8 => (intros; rfl)))
  | ((with_reducible refine' ev_un ?h1 ?h2); (case h1 => tm_at "ev"); (case h2 => exact fun _ => uo_any rfl)))
local macro_rules | `(tactic| tm_at "eb") => `(tactic| first
  | ((with_reducible refine' eb_cmp ?h1 ?h2 ?h3 ?h4); (case h1 => tm_at "ev"); (case h2 => tm_at "ev"); (case h3 => tm_at "cm"); (case h4 => rfl))
  | ((with_reducible refine' eb_bool ?h1); (case h1 => tm_at "eb"))
  | ((with_reducible refine' eb_or ?h1 ?h2); (case h1 => tm_at "eb"); (case h2 => tm_at "eb"))
  | ((with_reducible refine' eb_and ?h1 ?h2); (case h1 => tm_at "eb"); (case h2 => tm_at "eb"))
  | with_reducible exact eb_or_nil | with_reducible exact eb_and_nil
  | ((with_reducible refine' eb_not ?h1); (case h1 => tm_at "eb")))
section
variable {w : World} {s₁ s : Shared} {h₀ : Heap} {mg mb : Str → Option Value} {env : Env} {A : Around} {sa cs ct cw ml ol wl tl f c' ra pa ba aa ll : Addr} {zs : List Int} {q : Nat} {S xs : List Nat} {u4 u5 : Option Value} {doc pm ctv : Value} {ps : Array Value} {F F2 : FP} {t t2 : QS} {R : Res}
theorem law10 (X : LX w s₁ h₀ mg mb env A sa cs ct cw zs) (H : Act (KK w) h₀ env lawNm (lv15 zs ml ol f ra pa q ba aa ll u4 u5) [481] (.all (lrE w zs sa cs ct cw ml wl tl f c' doc pm ctv ps [.qf ra F t, .lp pa (mL S), .qf ba F2 t2, .lp aa (mL (sP zs 4)), .ls ll (mL xs)])) R s₁ s) (pw : PW (lrE w zs sa cs ct cw ml wl tl f c' doc pm ctv ps [.qf ra F t, .lp pa (mL S), .qf ba F2 t2, .lp aa (mL (sP zs 4)), .ls ll (mL xs)]))
    (op : OwnA h₀ s₁ pa) (Y : St (runL (q, S) xs).1 true f (runL (q, S) xs).2 t) (hok : POk (q, S)) (hS : S.length ≤ 15) (Y2 : St 3 false f (sP zs 4) t2) (hxs : t2.hashes = some xs) (hp : xs.Perm (sP zs 4))
    (next : ∀ s R u5, Act (KK w) h₀ env lawNm (lv15 zs ml ol f ra pa (runL (q, S) xs).1 ba aa ll u4 u5) [481] (.all (lrE w zs sa cs ct cw ml wl tl f c' doc pm ctv ps [.qf ra F t, .lp pa (mL (runL (q, S) xs).2), .qf ba F2 t2, .lp aa (mL (sP zs 4)), .emp])) R s₁ s → PW (lrE w zs sa cs ct cw ml wl tl f c' doc pm ctv ps [.qf ra F t, .lp pa (mL (runL (q, S) xs).2), .qf ba F2 t2, .lp aa (mL (sP zs 4)), .emp]) →
      wpAny (model lawProg w) A (execs ((lawStmts w).drop 23) env) (LEnd s₁) (fun _ _ => False) s) :
    wpAny (model lawProg w) A (execs ((lawStmts w).drop 20) env) (LEnd s₁) (fun _ _ => False) s := by
  show wpAny (model lawProg w) A (execs (_ :: _ :: _ :: (lawStmts w).drop 23) env) _ _ s
  generalize (lawStmts w).drop 23 = rest at *
  have r := X.r
  have hl := sP_len zs 4
  have hxl : xs.length ≤ 4 := by rw [hp.length_eq]; exact hl
  have hso : env.kindOf "sorted" = some .globalImplicit := X.kind (by kernel_rfl)
  have hlen : env.kindOf "len" = some .globalImplicit := X.kind (by kernel_rfl)
  obtain ⟨H, pw⟩ := H.out pw (j := 13) rfl
  have C := H.cx
  refine wpAny_execs_cons (x_list (a := ll) (xs := mL xs) (fun k ρ vals => ∃ u5, ρ = .all (lrE w zs sa cs ct cw ml wl tl f c' doc pm ctv ps [.qf ra F t, .lp pa (mL (runL (q, S) (xs.take k)).2), .qf ba F2 t2, .lp aa (mL (sP zs 4)), .emp]) ∧ PW (lrE w zs sa cs ct cw ml wl tl f c' doc pm ctv ps [.qf ra F t, .lp pa (mL (runL (q, S) (xs.take k)).2), .qf ba F2 t2, .lp aa (mL (sP zs 4)), .emp]) ∧ vals = lv15 zs ml ol f ra pa (runL (q, S) (xs.take k)).1 ba aa ll u4 u5) H r (by tm_at "at") (i := 5)
    (fun b hb => by rw [List.mem_singleton.mp hb]; exact (Res.tab ps).ex _ (H.res (i := 3) rfl) _ rfl) (by tm_at "ev") H.rest.2 (fun z => H.dj ll z (.inr rfl)) (fun z => H.lr (.inr z.symm)) ⟨u5, rfl, pw, rfl⟩ ?_ ?_)
  · rintro k v ρ vals R' s2 hk hv ⟨u5, rfl, pw, rfl⟩ hR hRI H
    rw [mL_len] at hk
    obtain ⟨x, hx⟩ : ∃ x, xs[k]? = some x := ⟨_, List.getElem?_eq_getElem hk⟩
    have hvx : v = vi (x : Int) := by
      rw [List.getElem?_map, hx] at hv
      exact (Option.some.inj hv).symm
    subst hvx
    have hll := runL_len (q, S) (xs.take k)
    have h0 : ((q, S) : Nat × List Nat).2.length = S.length := rfl
    have hlt : (xs.take k).length ≤ 4 := by rw [List.length_take]; omega
    have hokp := runL_ok hok (xs.take k) (by omega)
    rw [runL_snoc hx]
    generalize hpp : runL (q, S) (xs.take k) = p at *
    obtain ⟨q', S'⟩ := p
    have hq5 : q' ≤ 5 := hokp.q5
    have hSl : S'.length ≤ 19 := by
      have : (q', S').2.length = S'.length := rfl
      omega
    have h32 : 2 ^ q' ≤ 32 := Nat.le_trans (Nat.pow_le_pow_right (by decide) hq5) (by decide)
    suffices key : ∀ s3, Act (KK w) h₀ env lawNm (lv15 zs ml ol f ra pa (gw true q' S'.length) ba aa ll u4 (some (vi (x : Int)))) [481] (.all (lrE w zs sa cs ct cw ml wl tl f c' doc pm ctv ps [.qf ra F t, .lp pa (mL S'), .qf ba F2 t2, .lp aa (mL (sP zs 4)), .emp])) R' s₁ s3 → wpAny (model lawProg w) A _ _ _ s3 by
      have C := H.cx
      have Lp1 : Lp s2.heap pa (mL S') := H.res (i := 10) rfl
      have e := pow_gw q' S'.length
      refine y_if (c := decide (85 * 2 ^ q' ≤ 100 * S'.length)) H r (EvB.cast (eb_cmp (ev_bin ev_int (ev_len C (by kernel_rfl) hlen (by tm_at "ev") Lp1.ls (by rw [mL_len]; omega)) (by tm_at "bop")) (by tm_at "ev") (by tm_at "cm")) (by rw [mL_len]; exact cmp85 q' S'.length)) (fun hc s3 H3 _ => ?_) (fun hc s3 H3 _ => ?_)
      · have hc := of_decide_eq_true hc
        rw [if_pos hc] at e
        have C := H3.cx
        refine y_assign (i := 10) (v := vi ((2 ^ gw true q' S'.length : Nat) : Int)) H3 r (Eva.cast (by tm_at "ev") (congrArg vi e.symm)) (by tm_at "at") fun s4 H4 _ => wpAny_execs_nil (key s4 H4)
      · have hc := of_decide_eq_false hc
        have eg : gw true q' S'.length = q' := by rw [gw_t, if_neg hc]
        exact wpAny_execs_nil (key s3 (H3.eqv (by rw [eg]; rfl)))
    clear H
    intro s3 H
    have C := H.cx
    have Lp1 : Lp s3.heap pa (mL S') := H.res (i := 10) rfl
    refine y_if (c := !decide (x ∈ S')) H r (eb_cmp (by tm_at "ev") (by tm_at "ev") fun a b ha hb => co_notin_nat Lp1.ls ha hb) (fun hc s4 H4 _ => ?_) (fun hc s4 H4 _ => ?_)
    · have hc : x ∉ S' := by simpa using hc
      have C := H4.cx
      have Lp1 : Lp s4.heap pa (mL S') := H4.res (i := 10) rfl
      refine wpAny_execs_cons (x_append C.F r (by tm_at "ev") (v := vi (x : Int)) (by tm_at "ev") Lp1 (by rw [mL_len]; omega) fun s5 x5 L5 => wpAny_execs_nil ?_)
      obtain ⟨H5, pw5⟩ := H4.upd (i := 10) (r' := .lp pa (mL (addL S' x))) pw rfl x5 (fun b hb => by rw [List.mem_singleton.mp hb]; exact ⟨rfl, op⟩) (by
        show Lp _ _ _
        unfold addL mL; rw [if_neg hc, List.map_append]; exact L5) fun b hb => .inl hb
      exact wpAny_execs_nil ⟨_, _, ⟨some (vi (x : Int)), rfl, pw5, rfl⟩, H5⟩
    · have hc : x ∈ S' := by simpa using hc
      have e : addL S' x = S' := by unfold addL; rw [if_pos hc]
      refine wpAny_execs_nil (wpAny_execs_nil ⟨_, _, ⟨some (vi (x : Int)), rfl, ?_, rfl⟩, ?_⟩)
      · show PW (lrE w zs sa cs ct cw ml wl tl f c' doc pm ctv ps [.qf ra F t, .lp pa (mL (addL S' x)), .qf ba F2 t2, .lp aa (mL (sP zs 4)), .emp])
        rw [e]; exact pw
      · show Act _ _ _ _ (lv15 zs ml ol f ra pa (gw true q' S'.length) ba aa ll u4 (some (vi (x : Int)))) _ (.all (lrE w zs sa cs ct cw ml wl tl f c' doc pm ctv ps [.qf ra F t, .lp pa (mL (addL S' x)), .qf ba F2 t2, .lp aa (mL (sP zs 4)), .emp])) _ _ _
        rw [e]; exact H4
  · rintro ρ vals s2 ⟨u5, rfl, pw, rfl⟩ H
    rw [mL_len] at H pw
    have e : xs.take xs.length = xs := List.take_of_length_le (Nat.le_refl _)
    rw [e] at H pw
    have hll := runL_len (q, S) xs
    have h0 : ((q, S) : Nat × List Nat).2.length = S.length := rfl
    generalize runL (q, S) xs = p at *
    obtain ⟨q', S'⟩ := p
    have hSl : S'.length ≤ 19 := by
      have : (q', S').2.length = S'.length := rfl
      omega
    have C := H.cx
    have La : Lp s2.heap aa (mL (sP zs 4)) := H.res (i := 12) rfl
    have Q2 : QFAt s2.heap ba F2 t2 := H.res (i := 11) rfl
    have hN2 : t2.N = 8 := by unfold QS.N; rw [Y2.q]
    refine y_if (c := false) H r (EvB.cast (eb_bool (eb_or (eb_nesorted (by omega) (ev_sorted (xs := xs) C (by kernel_rfl) hso ((ev_mcall C.inK (cls_qf w) Q2.ob (mth_gethashes w) (by tm_at "ev") el_nil fun vs' hv => q_gethashes C.bs C.gb Q2 hxs (by omega) (by rw [List.map_cons, hv]; rfl) (by omega)).imp fun v h' ⟨l, e, L, _⟩ => ⟨l, e, L⟩) (by omega)) (ev_sorted (xs := sP zs 4) C (by kernel_rfl) hso ((ev_loc C (i := 12) (v := .ref aa) (by tm_at "at") rfl).impG fun v h' e g => ⟨aa, er_ref e, (La.gr g).ls⟩) (by omega)) hp)
      (eb_or (eb_cmp (ev_qprop C Q2 (prp_added w) (fun n => q_added C.bs C.gb Q2) (by tm_at "ev") (by omega)) (ev_len C (by kernel_rfl) hlen (by tm_at "ev") La.ls (by rw [mL_len]; omega)) (by tm_at "cm"))
      (eb_or (eb_cmp (ev_qprop C Q2 (prp_size w) (fun n => q_size C.bs C.gb Q2) (by tm_at "ev") (by omega)) ev_int (by tm_at "cm")) eb_or_nil)))) ?_) (fun q => nomatch q) fun _ s3 H3 _ => wpAny_execs_nil ?_
    · rw [mL_len, hN2, Y2.I.cnt]; first | done | simp [cmpI]
    clear H C La Q2
    show wpAny _ _ (execs (_ :: rest) _) _ _ _
    have C := H3.cx
    have Q1 : QFAt s3.heap ra F t := H3.res (i := 9) rfl
    have Lp1 : Lp s3.heap pa (mL S') := H3.res (i := 10) rfl
    have hN : t.N = 2 ^ q' := by unfold QS.N; rw [Y.q]
    refine y_if (c := false) H3 r (EvB.cast (eb_bool (eb_or (eb_cmp (ev_qprop C Q1 (prp_size w) (fun n => q_size C.bs C.gb Q1) (by tm_at "ev") (by omega)) (by tm_at "ev") (by tm_at "cm")) (eb_or (eb_cmp (ev_qprop C Q1 (prp_added w) (fun n => q_added C.bs C.gb Q1) (by tm_at "ev") (by omega)) (ev_len C (by kernel_rfl) hlen (by tm_at "ev") Lp1.ls (by rw [mL_len]; omega)) (by tm_at "cm")) eb_or_nil))) ?_) (fun q => nomatch q) fun _ s4 H4 _ => wpAny_execs_nil ?_
    · rw [mL_len, hN, Y.I.cnt]; first | done | simp [cmpI]
    · exact next s4 _ u5 H4 pw
end
end Mine
end
section
open PySem PySem.W PyProof.Rows PySem.Calls
set_option Elab.async false
set_option maxRecDepth 100000
set_option maxHeartbeats 4000000
set_option linter.unusedVariables false
set_option pp.deepTerms false
set_option pp.maxSteps 700
namespace Mine
local macro_rules | `(tactic| tm_at "at") => `(tactic| with_reducible (repeat (first | exact At.head | apply At.tail)))
local macro_rules | `(tactic| tm_at "ok") => `(tactic| first | trivial | assumption | decide | (simp only [okI]; omega) | (simp only [okI]; mul_fits))
local macro_rules | `(tactic| tm_at "bop") => `(tactic| exact fun _ _ => bo_any (by tm_at "ok"))
local macro_rules | `(tactic| tm_at "cm") => `(tactic| exact fun _ _ => co_any rfl)
local macro_rules | `(tactic| tm_at "obj") => `(tactic| first | exact QFAt.ob (by assumption) | assumption)
local macro_rules | `(tactic| tm_at "cls") => `(tactic| first | exact cls_qf _ | exact cls_bit _)
local macro_rules | `(tactic| tm_at "lt") => `(tactic| first | assumption | omega)
local macro_rules | `(tactic| tm_at "bitx") => `(tactic| first | exact QFAt.bo (by assumption) | exact QFAt.bc (by assumption) | exact QFAt.bs (by assumption))
local macro_rules | `(tactic| tm_at "ev") => `(tactic| first
  | with_reducible exact ev_int | with_reducible exact ev_true | with_reducible exact ev_none | with_reducible exact ev_str
  | ((with_reducible refine' ev_loc ?h1 ?h2 ?h3); (case h1 => assumption); (case h2 => tm_at "at"); (case h3 => rfl))
  | ((with_reducible refine' ev_attr (Cx.inK ?h1) ?h2 ?h3 ?h4 ?h5 ?h6 ?h7 ?h8); (case h1 => assumption); (case h4 => tm_at "ev"); (case h3 => tm_at "obj"); (case h2 => tm_at "cls"); (case h5 => tm_at "at"); (case h6 => rfl); (case h7 => rfl); (case h8 => rfl))
  | ((with_reducible refine' ev_bin ?h1 ?h2 ?h3); (case h1 => tm_at "ev"); (case h2 => tm_at "ev"); (case h3 => tm_at "bop"))
  | ((with_reducible refine' ev_bit ?h1 ?h2 ?h3 ?h4 ?h5 ?h6 ?h7 ?h8); (case h1 => assumption); (case h3 => tm_at "ev"); (case h4 => tm_at "ev"); (case h2 => tm_at "bitx"); (case h5 => tm_at "lt"); (case h6 => tm_at "lt"); (case h7 => tm_at "lt"); (case h8 => (intros; rfl)))
  | ((with_reducible refine' ev_un ?h1 ?h2); (case h1 => tm_at "ev"); (case h2 => exact fun _ => uo_any rfl)))
local macro_rules | `(tactic| tm_at "eb") => `(tactic| first
  | ((with_reducible refine' eb_cmp ?h1 ?h2 ?h3 ?h4); (case h1 => tm_at "ev"); (case h2 => tm_at "ev"); (case h3 => tm_at "cm"); (case h4 => rfl))
  | ((with_reducible refine' eb_bool ?h1); (case h1 => tm_at "eb"))
  | ((with_reducible refine' eb_or ?h1 ?h2); (case h1 => tm_at "eb"); (case h2 => tm_at "eb"))
  | ((with_reducible refine' eb_and ?h1 ?h2); (case h1 => tm_at "eb"); (case h2 => tm_at "eb"))
  | with_reducible exact eb_or_nil | with_reducible exact eb_and_nil
  | ((with_reducible refine' eb_not ?h1); (case h1 => tm_at "eb")))
/-! widths -/
def lst (n : Nat) : Nat := if n < 8 then 3 else if n < 16 then 4 else 5
theorem lst_spec {n : Nat} (h : n ≤ 19) : 3 ≤ lst n ∧ lst n ≤ 5 ∧ n < 2 ^ lst n ∧ ∀ l, 3 ≤ l → l < lst n → 2 ^ l ≤ n := by
  unfold lst
  split
  · exact ⟨by omega, by omega, by omega, fun l h1 h2 => by omega⟩
  · split
    · refine ⟨by omega, by omega, by omega, fun l h1 h2 => ?_⟩
      have : l = 3 := by omega
      subst this; omega
    · refine ⟨by omega, by omega, by omega, fun l h1 h2 => ?_⟩
      have : l = 3 ∨ l = 4 := by omega
      rcases this with e | e <;> subst e <;> omega
def wdt (q0 : Nat) : Nat → Nat
  | 0 => q0
  | k + 1 => gw true (wdt q0 k) k
theorem wdt_ok {q0 : Nat} (h3 : 3 ≤ q0) (h5 : q0 ≤ 5) : ∀ k, k ≤ 20 → 3 ≤ wdt q0 k ∧ wdt q0 k ≤ 5 ∧ k < 2 ^ wdt q0 k
  | 0, _ => ⟨h3, h5, Nat.pow_pos (by decide)⟩
  | k + 1, hk => by
    obtain ⟨a, b, c⟩ := wdt_ok h3 h5 k (by omega)
    have hg := gw5 b (show k ≤ 20 by omega)
    refine ⟨?_, hg, ?_⟩
    · show 3 ≤ gw true _ _
      rw [gw_t]; split <;> omega
    · show k + 1 < 2 ^ gw true _ _
      rw [gw_t]
      split
      · have : 2 ^ (wdt q0 k + 1) = 2 * 2 ^ wdt q0 k := by rw [Nat.pow_succ]; omega
        omega
      · rename_i hh
        exact num1 a b hh
section
variable {prog : Program} {w : World} {n : Nat} {h h₀ : Heap} {env : Env} {K : Frag} {nm : List Str} {vals : List (Option Value)}
theorem eb_nelist {l r' : Expr} {pos : Pos} {whole : Sem Value} {ns ms : List Int} (hn : 1 ≤ n) (h1 : EvaP prog w n h (eval l env) fun v h' => ∃ q, v = .ref q ∧ Ls h' q (ns.map vi)) (h2 : EvaP prog w n h (eval r' env) fun v h' => ∃ q, v = .ref q ∧ Ls h' q (ms.map vi)) (hb : behindInMarks .NotEq r' = false := by rfl) :
    EvB prog w n h (PySem.isTrue (.Compare l [.NotEq] [r'] pos) env whole) (!decide (ns = ms)) := by
  intro A Q E s r g q
  refine wpAny_isTrue_Compare1 (h1 A _ E s r g fun a' s1 ha x1 => h2 A _ E s1 r (g.trans x1.gr) fun b' s2 hb x2 => ?_) hb
  obtain ⟨q1, rfl, L1⟩ := ha
  obtain ⟨q2, rfl, L2⟩ := hb
  obtain ⟨i1, A1, e1⟩ := (L1.gr x2.gr).toA
  obtain ⟨i2, A2, e2⟩ := L2.toA
  exact ne_intsK A1 (ints_of e1) A2 (ints_of e2) (by have := r.un; omega) (wpAny_truthy_bool (q _ _ rfl (x1.trans x2)))
end
section
variable {w : World} {s₁ s : Shared} {h₀ : Heap} {mg mb : Str → Option Value} {env : Env} {A : Around} {sa cs ct cw ml ol wl tl f c' ra pa ba aa ll : Addr} {zs : List Int} {q q0 : Nat} {S : List Nat} {u4 u5 : Option Value} {doc pm ctv : Value} {ps : Array Value} {F F2 : FP} {t t2 : QS} {R : Res}
abbrev lvZ (zs : List Int) (ml ol f ra pa : Addr) (q : Nat) (ba aa ll : Addr) (u4 u5 u14 u15 u16 u17 u18 u19 : Option Value) : List (Option Value) := [some (vi (lhead zs : Int)), some (vi (lwidth zs : Int)), some (vi (lmany zs : Int)), some (.ref ml), u4, u5, some (.ref ol), some (.ref f), some (.ref ra), some (.ref pa), some (vi ((2 ^ q : Nat) : Int)), some (.ref ba), some (.ref aa), some (.ref ll), u14, u15, u16, u17, u18, u19]
noncomputable abbrev lrF (w : World) (zs : List Int) (sa cs ct cw ml wl tl f c' : Addr) (doc pm ctv : Value) (ps : Array Value) (ra : Addr) (F : FP) (t : QS) (pa : Addr) (S : List Nat) (ba : Addr) (F2 : FP) (t2 : QS) (aa : Addr) : List Res := lrE w zs sa cs ct cw ml wl tl f c' doc pm ctv ps [.qf ra F t, .lp pa (mL S), .qf ba F2 t2, .lp aa (mL (sP zs 4)), .emp]
theorem law11 (X : LX w s₁ h₀ mg mb env A sa cs ct cw zs) (H : Act (KK w) h₀ env lawNm (lv15 zs ml ol f ra pa q ba aa ll u4 u5) [481] (.all (lrF w zs sa cs ct cw ml wl tl f c' doc pm ctv ps ra F t pa S ba F2 t2 aa)) R s₁ s) (pw : PW (lrF w zs sa cs ct cw ml wl tl f c' doc pm ctv ps ra F t pa S ba F2 t2 aa))
    (ok : Fok h₀ [481] s₁ F) (Y : St q true f S t) (hS : S.length ≤ 19)
    (next : ∀ s F t, Act (KK w) h₀ env lawNm (lvZ zs ml ol f ra pa q ba aa ll u4 u5 (some (vi (lst S.length : Int))) none none none none none) [481] (.all (lrF w zs sa cs ct cw ml wl tl f c' doc pm ctv ps ra F t pa S ba F2 t2 aa)) R s₁ s → PW (lrF w zs sa cs ct cw ml wl tl f c' doc pm ctv ps ra F t pa S ba F2 t2 aa) → Fok h₀ [481] s₁ F → St (wdt (lst S.length) S.length) true f S t →
      wpAny (model lawProg w) A (execs ((lawStmts w).drop 26) env) (LEnd s₁) (fun _ _ => False) s) :
    wpAny (model lawProg w) A (execs ((lawStmts w).drop 23) env) (LEnd s₁) (fun _ _ => False) s := by
  show wpAny (model lawProg w) A (execs (_ :: _ :: _ :: (lawStmts w).drop 26) env) _ _ s
  generalize (lawStmts w).drop 26 = rest at *
  have r := X.r
  have hlen : env.kindOf "len" = some .globalImplicit := X.kind (by kernel_rfl)
  obtain ⟨l3, l5, llt, lmin⟩ := lst_spec hS
  refine y_assign (i := 14) (v := vi ((3 : Nat) : Int)) H r ev_int (by tm_at "at") fun s2 H2 _ => ?_
  clear H
  refine wpAny_execs_cons (x_while (fun m ρ vals => ∃ l, m = lst S.length - l ∧ 3 ≤ l ∧ l ≤ lst S.length ∧ ρ = .all (lrF w zs sa cs ct cw ml wl tl f c' doc pm ctv ps ra F t pa S ba F2 t2 aa) ∧ vals = lvZ zs ml ol f ra pa q ba aa ll u4 u5 (some (vi (l : Int))) none none none none none) (m := lst S.length - 3) H2 r ⟨3, rfl, Nat.le_refl _, l3, rfl, rfl⟩ ?_)
  rintro m ρ vals s3 ⟨l, rfl, hl3, hll, rfl, rfl⟩ H3
  have C := H3.cx
  have Lp1 : Lp s3.heap pa (mL S) := H3.res (i := 10) rfl
  refine ⟨decide (2 ^ l ≤ S.length), EvB.cast (eb_cmp (by tm_at "ev") (ev_len C (by kernel_rfl) hlen (by tm_at "ev") Lp1.ls (by rw [mL_len]; omega)) (by tm_at "cm")) ?_, fun hc s4 H4 => ?_, fun hc s4 H4 => ?_⟩
  · rw [mL_len, ar_pow2]
    show decide (((2 ^ l : Nat) : Int) ≤ (S.length : Int)) = _
    rw [decide_eq_decide]; omega
  · have hc := of_decide_eq_false hc
    have e : l = lst S.length := by
      by_cases h : l < lst S.length
      · exact absurd (lmin l hl3 h) hc
      · omega
    subst e
    have C := H4.cx
    refine wpAny_execs_cons (x_callq (i := 9) (St (wdt (lst S.length) S.length) true f S) H4 pw r rfl ok (mth_resize w) (by tm_at "ev") (el1 (by tm_at "ev")) (fun vs' s5 hv x5 H5 => ?_) (fun F' t' s5 G H5 pw5 ok5 => next s5 F' t' H5 pw5 ok5 G))
    refine c_resize (q' := lst S.length) (args2 := .ref ra :: vs') (qv := vi (lst S.length : Int)) H5.cx.bs (wdt (lst S.length)) H5.cx.gb (H5.res (i := 9) rfl) (fun b hb => (ok b hb).1) Y (by omega) l3 l5 llt rfl ?_ (by rw [List.map_cons, hv]; rfl) (.inr ⟨rfl, rfl⟩) (by omega)
    intro S1 x F1 t1 s6 m args hl1 Z hx g1 X1 hB1 hm ha
    obtain ⟨a, b, c⟩ := wdt_ok l3 l5 S1.length (by omega)
    exact c_add C.bs g1 X1 hB1 Z hx a (gw5 b (by omega)) c (fun h => num1 a b (by simpa using h)) ha (by omega)
  · have hc := of_decide_eq_true hc
    have hlt : l < lst S.length := by
      by_cases h : l < lst S.length
      · exact h
      · have e : l = lst S.length := by omega
        subst e; omega
    have C := H4.cx
    refine wpAny_execs_cons (x_aug (i := 14) (v := vi (l : Int)) (y := vi 1) (r' := vi ((l + 1 : Nat) : Int)) H4 r (by tm_at "at") rfl ev_int (fun v' y' hv hy => ?_) fun s5 H5 x5 => wpAny_execs_nil ?_)
    · exact (io_add hv hy).cast (congrArg vi (by omega))
    · exact ⟨_, _, ⟨lst S.length - (l + 1), by omega, l + 1, rfl, by omega, hlt, rfl, rfl⟩, H5⟩
end
end Mine
end
section
open PySem PySem.W PyProof.Rows PySem.Calls
set_option Elab.async false
set_option maxRecDepth 100000
set_option maxHeartbeats 4000000
set_option linter.unusedVariables false
set_option pp.deepTerms false
set_option pp.maxSteps 700
namespace Mine
local macro_rules | `(tactic| tm_at "at") => `(tactic| with_reducible (repeat (first | exact At.head | apply At.tail)))
local macro_rules | `(tactic| tm_at "ok") => `(tactic| first | trivial | assumption | decide | (simp only [okI]; omega) | (simp only [okI]; mul_fits))
local macro_rules | `(tactic| tm_at "bop") => `(tactic| exact fun _ _ => bo_any (by tm_at "ok"))
local macro_rules | `(tactic| tm_at "cm") => `(tactic| exact fun _ _ => co_any rfl)
local macro_rules | `(tactic| tm_at "obj") => `(tactic| first | exact QFAt.ob (by assumption) | assumption)
local macro_rules | `(tactic| tm_at "cls") => `(tactic| first | exact cls_qf _ | exact cls_bit _)
local macro_rules | `(tactic| tm_at "lt") => `(tactic| first | assumption | omega)
local macro_rules | `(tactic| tm_at "bitx") => `(tactic| first | exact QFAt.bo (by assumption) | exact QFAt.bc (by assumption) | exact QFAt.bs (by assumption))
local macro_rules | `(tactic| tm_at "ev") => `(tactic| first
  | with_reducible exact ev_int | with_reducible exact ev_true | with_reducible exact ev_none | with_reducible exact ev_str
  | ((with_reducible refine' ev_loc ?h1 ?h2 ?h3); (case h1 => assumption); (case h2 => tm_at "at"); (case h3 => rfl))
  | ((with_reducible refine' ev_attr (Cx.inK ?h1) ?h2 ?h3 ?h4 ?h5 ?h6 ?h7 ?h8); (case h1 => assumption); (case h4 => tm_at "ev"); (case h3 => tm_at "obj"); (case h2 => tm_at "cls"); (case h5 => tm_at "at"); (case h6 => rfl); (case h7 => rfl); (case h8 => rfl))
  | ((with_reducible refine' ev_bin ?h1 ?h2 ?h3); (case h1 => tm_at "ev"); (case h2 => tm_at "ev"); (case h3 => tm_at "bop"))
  | ((with_reducible refine' ev_bit ?h1 ?h2 ?h3 ?h4 ?h5 ?h6 ?h7 ?h8); (case h1 => assumption); (case h3 => tm_at "ev"); (case h4 => tm_at "ev"); (case h2 => tm_at "bitx"); (case h5 => tm_at "lt"); (case h6 => tm_at "lt"); (case h7 => tm_at "lt"); (case h8 => (intros; rfl)))
  | ((with_reducible refine' ev_un ?h1 ?h2); (case h1 => tm_at "ev"); (case h2 => exact fun _ => uo_any rfl)))
local macro_rules | `(tactic| tm_at "eb") => `(tactic| first
  | ((with_reducible refine' eb_cmp ?h1 ?h2 ?h3 ?h4); (case h1 => tm_at "ev"); (case h2 => tm_at "ev"); (case h3 => tm_at "cm"); (case h4 => rfl))
  | ((with_reducible refine' eb_bool ?h1); (case h1 => tm_at "eb"))
  | ((with_reducible refine' eb_or ?h1 ?h2); (case h1 => tm_at "eb"); (case h2 => tm_at "eb"))
  | ((with_reducible refine' eb_and ?h1 ?h2); (case h1 => tm_at "eb"); (case h2 => tm_at "eb"))
  | with_reducible exact eb_or_nil | with_reducible exact eb_and_nil
  | ((with_reducible refine' eb_not ?h1); (case h1 => tm_at "eb")))
section
variable {w : World} {s₁ s : Shared} {h₀ : Heap} {mg mb : Str → Option Value} {env : Env} {A : Around} {sa cs ct cw ml ol wl tl f c' ra pa ba aa ll : Addr} {zs : List Int} {q q0 : Nat} {S : List Nat} {u4 u5 u15 : Option Value} {doc pm ctv : Value} {ps : Array Value} {F F2 : FP} {t t2 : QS} {R : Res}
theorem law12 (X : LX w s₁ h₀ mg mb env A sa cs ct cw zs) (H : Act (KK w) h₀ env lawNm (lvZ zs ml ol f ra pa q ba aa ll u4 u5 (some (vi (q0 : Int))) none none none none none) [481] (.all (lrF w zs sa cs ct cw ml wl tl f c' doc pm ctv ps ra F t pa S ba F2 t2 aa)) R s₁ s) (pw : PW (lrF w zs sa cs ct cw ml wl tl f c' doc pm ctv ps ra F t pa S ba F2 t2 aa))
    (h3 : 3 ≤ q0) (h5 : q0 ≤ 5) (hS : S.length ≤ 19)
    (next : ∀ s u15, Act (KK w) h₀ env lawNm (lvZ zs ml ol f ra pa q ba aa ll u4 u5 (some (vi (wdt q0 S.length : Int))) u15 (some (vi ((32 - wdt q0 S.length : Nat) : Int))) none none none) [481] (.all (lrF w zs sa cs ct cw ml wl tl f c' doc pm ctv ps ra F t pa S ba F2 t2 aa)) R s₁ s →
      wpAny (model lawProg w) A (execs ((lawStmts w).drop 28) env) (LEnd s₁) (fun _ _ => False) s) :
    wpAny (model lawProg w) A (execs ((lawStmts w).drop 26) env) (LEnd s₁) (fun _ _ => False) s := by
  show wpAny (model lawProg w) A (execs (_ :: _ :: (lawStmts w).drop 28) env) _ _ s
  generalize (lawStmts w).drop 28 = rest at *
  have r := X.r
  have hlen : env.kindOf "len" = some .globalImplicit := X.kind (by kernel_rfl)
  have C := H.cx
  have Lp1 : Lp s.heap pa (mL S) := H.res (i := 10) rfl
  refine wpAny_execs_cons (x_range (a := 0) (b := (S.length : Int)) (N := S.length) (fun k ρ vals => ∃ u15, ρ = .all (lrF w zs sa cs ct cw ml wl tl f c' doc pm ctv ps ra F t pa S ba F2 t2 aa) ∧ vals = lvZ zs ml ol f ra pa q ba aa ll u4 u5 (some (vi (wdt q0 k : Int))) u15 none none none none) H r (by tm_at "at") (i := 15)
    (fun b hb => by rw [List.mem_singleton.mp hb]; exact (Res.tab ps).ex _ (H.res (i := 3) rfl) _ rfl) ?_ (by omega) (by omega) (by omega) (by omega) ⟨none, rfl, rfl⟩ ?_ ?_)
  · exact ev_range1 C (by kernel_rfl) (X.kind (by kernel_rfl)) (Eva.cast (ev_len C (by kernel_rfl) hlen (by tm_at "ev") Lp1.ls (by rw [mL_len]; omega)) (by rw [mL_len]))
  · rintro k ρ vals R' s2 hk ⟨u15, rfl, rfl⟩ hR hRI H
    obtain ⟨a, b, c⟩ := wdt_ok h3 h5 k (by omega)
    have e1 : wdt q0 (k + 1) = gw true (wdt q0 k) k := rfl
    rw [e1]
    generalize wdt q0 k = q1 at *
    have h32 : 2 ^ q1 ≤ 32 := Nat.le_trans (Nat.pow_le_pow_right (by decide) b) (by decide)
    have C := H.cx
    refine y_if (c := decide (85 * 2 ^ q1 ≤ 100 * k)) H r (EvB.cast (eb_cmp (by tm_at "ev") (ev_bin ev_int (Eva.cast (by tm_at "ev") (congrArg vi (ar_pow2 q1))) (by tm_at "bop")) (by tm_at "cm")) ?_) (fun hc s3 H3 _ => ?_) (fun hc s3 H3 _ => ?_)
    · have := cmp85 q1 k
      rw [← this, show (0 : Int) + (k : Int) = (k : Int) by omega]
    · have hc := of_decide_eq_true hc
      rw [gw_t, if_pos hc]
      refine wpAny_execs_cons (x_aug (i := 14) (v := vi (q1 : Int)) (y := vi 1) (r' := vi ((q1 + 1 : Nat) : Int)) H3 r (by tm_at "at") rfl ev_int (fun v' y' hv hy => ?_) fun s5 H5 x5 => wpAny_execs_nil (wpAny_execs_nil ⟨_, _, ⟨_, rfl, rfl⟩, H5⟩))
      exact (io_add hv hy).cast (congrArg vi (by omega))
    · have hc := of_decide_eq_false hc
      rw [gw_t, if_neg hc]
      exact wpAny_execs_nil (wpAny_execs_nil ⟨_, _, ⟨_, rfl, rfl⟩, H3⟩)
  · rintro ρ vals s2 ⟨u15, rfl, rfl⟩ H
    have C := H.cx
    obtain ⟨a, b, c⟩ := wdt_ok h3 h5 S.length (by omega)
    generalize wdt q0 S.length = q1 at *
    exact y_assign (i := 16) (v := vi ((32 - q1 : Nat) : Int)) H r (Eva.cast (by tm_at "ev") (congrArg vi (by show (32 : Int) - (q1 : Int) = _; omega))) (by tm_at "at") fun s4 H4 _ => next s4 u15 H4
theorem law13 (X : LX w s₁ h₀ mg mb env A sa cs ct cw zs) (H : Act (KK w) h₀ env lawNm (lvZ zs ml ol f ra pa q ba aa ll u4 u5 (some (vi (q0 : Int))) u15 (some (vi ((32 - q0 : Nat) : Int))) none none none) [481] (.all (lrF w zs sa cs ct cw ml wl tl f c' doc pm ctv ps ra F t pa S ba F2 t2 aa)) R s₁ s) (pw : PW (lrF w zs sa cs ct cw ml wl tl f c' doc pm ctv ps ra F t pa S ba F2 t2 aa))
    (h3 : 3 ≤ q0) (h5 : q0 ≤ 5) (hS : S.length ≤ 19) (Y : St q0 true f S t)
    (next : ∀ s td, Act (KK w) h₀ env lawNm (lvZ zs ml ol f ra pa q ba aa ll u4 u5 (some (vi (q0 : Int))) u15 (some (vi ((32 - q0 : Nat) : Int))) (some (.ref td)) none none) [481] (.all (lrF w zs sa cs ct cw ml wl tl f c' doc pm ctv ps ra F t pa S ba F2 t2 aa)) R s₁ s →
      wpAny (model lawProg w) A (execs ((lawStmts w).drop 31) env) (LEnd s₁) (fun _ _ => False) s) :
    wpAny (model lawProg w) A (execs ((lawStmts w).drop 28) env) (LEnd s₁) (fun _ _ => False) s := by
  show wpAny (model lawProg w) A (execs (_ :: _ :: _ :: (lawStmts w).drop 31) env) _ _ s
  generalize (lawStmts w).drop 31 = rest at *
  have r := X.r
  have hlen : env.kindOf "len" = some .globalImplicit := X.kind (by kernel_rfl)
  have hso : env.kindOf "sorted" = some .globalImplicit := X.kind (by kernel_rfl)
  have C := H.cx
  have h32 : 2 ^ q0 ≤ 32 := Nat.le_trans (Nat.pow_le_pow_right (by decide) h5) (by decide)
  have Q1 : QFAt s.heap ra F t := H.res (i := 9) rfl
  have hN : t.N = 2 ^ q0 := by unfold QS.N; rw [Y.q]
  refine wpAny_execs_cons (x_assignP (i := 17) H r (ev_list (xs := [vi (t.q : Int), vi ((32 - t.q : Nat) : Int), vi (t.N : Int), vi (t.N : Int), vi (t.cnt : Int), vi 32]) (el_cons (ev_qprop C Q1 (prp_quotient w) (fun n => q_quotient C.bs C.gb Q1) (by tm_at "ev") (by omega)) (el_cons (ev_qprop C Q1 (prp_remainder w) (fun n => q_remainder C.bs C.gb Q1) (by tm_at "ev") (by omega)) (el_cons (ev_qprop C Q1 (prp_num w) (fun n => q_num C.bs C.gb Q1) (by tm_at "ev") (by omega)) (el_cons (ev_qprop C Q1 (prp_size w) (fun n => q_size C.bs C.gb Q1) (by tm_at "ev") (by omega)) (el_cons (ev_qprop C Q1 (prp_added w) (fun n => q_added C.bs C.gb Q1) (by tm_at "ev") (by omega)) (el1 (ev_qprop C Q1 (prp_bits w) (fun n => q_bits C.bs C.gb Q1) (by tm_at "ev") (by omega)))))))) (by simp)) (by tm_at "at") fun v s1' s2 pv x1 x2 H2 => ?_)
  obtain ⟨td, rfl, Lt, hf⟩ := pv
  have htl : td ≠ env.locals := (H.fresh hf).2.2
  have Lt2 : Lp s2.heap td _ := Lt.at fun o e => x2.hp _ o (by simpa using htl) e
  rw [hN, Y.q, Y.I.cnt] at Lt2
  clear x1 x2 Lt hf H C Q1
  have C := H2.cx
  have Q1 : QFAt s2.heap ra F t := H2.res (i := 9) rfl
  have Lp1 : Lp s2.heap pa (mL S) := H2.res (i := 10) rfl
  have Lt3 : Ls s2.heap td (([(q0 : Int), ((32 - q0 : Nat) : Int), ((2 ^ q0 : Nat) : Int), ((2 ^ q0 : Nat) : Int), (S.length : Int), 32] : List Int).map vi) := Lt2.ls
  refine y_if (c := false) H2 r (EvB.cast (eb_bool (eb_or (eb_nelist (ns := [(q0 : Int), ((32 - q0 : Nat) : Int), ((2 ^ q0 : Nat) : Int), ((2 ^ q0 : Nat) : Int), (S.length : Int), 32]) (ms := [(q0 : Int), ((32 - q0 : Nat) : Int), ((2 ^ q0 : Nat) : Int), ((2 ^ q0 : Nat) : Int), (S.length : Int), 32]) (by omega) ((ev_loc C (i := 17) (v := .ref td) (by tm_at "at") rfl).impG fun v h' e g => ⟨td, er_ref e, Lt3.gr g⟩) ((ev_list (xs := [vi (q0 : Int), vi ((32 - q0 : Nat) : Int), vi ((2 ^ q0 : Nat) : Int), vi ((2 ^ q0 : Nat) : Int), vi (S.length : Int), vi 32]) (el_cons (by tm_at "ev") (el_cons (by tm_at "ev") (el_cons (Eva.cast (by tm_at "ev") (congrArg vi (ar_pow2 q0))) (el_cons (Eva.cast (by tm_at "ev") (congrArg vi (ar_pow2 q0))) (el_cons (Eva.cast (ev_len C (by kernel_rfl) hlen (by tm_at "ev") Lp1.ls (by rw [mL_len]; omega)) (by rw [mL_len])) (el1 ev_int)))))) (by simp)).imp fun v h' ⟨l, e, L, _⟩ => ⟨l, e, L.ls⟩))
      (eb_or (eb_cmp (c := false) (ev_qprop C Q1 (prp_auto w) (fun n => q_auto C.bs C.gb Q1) (by tm_at "ev") (by omega)) ev_true (fun a b ha hb => by
        rw [Y.au] at ha
        obtain rfl := er_bool ha
        obtain rfl := er_bool hb
        exact co_isnot (x := .none) (y := .none) (c := true) rfl rfl)) eb_or_nil))) (by simp)) (fun q => nomatch q) fun _ s3 H3 _ => wpAny_execs_nil ?_
  clear H2 C Q1 Lp1 Lt2 Lt3
  show wpAny _ _ (execs (_ :: rest) _) _ _ _
  have C := H3.cx
  have Q1 : QFAt s3.heap ra F t := H3.res (i := 9) rfl
  have Lp1 : Lp s3.heap pa (mL S) := H3.res (i := 10) rfl
  obtain ⟨xs, hxs, hp⟩ := Y.I.hashes
  have hxl := hp.length_eq
  refine y_if (c := false) H3 r (eb_nesorted (by omega) (ev_sorted (xs := xs) C (by kernel_rfl) hso ((ev_mcall C.inK (cls_qf w) Q1.ob (mth_gethashes w) (by tm_at "ev") el_nil fun vs' hv => q_gethashes C.bs C.gb Q1 hxs (by omega) (by rw [List.map_cons, hv]; rfl) (by omega)).imp fun v h' ⟨l, e, L, _⟩ => ⟨l, e, L⟩) (by omega)) (ev_sorted (xs := S) C (by kernel_rfl) hso ((ev_loc C (i := 9) (v := .ref pa) (by tm_at "at") rfl).impG fun v h' e g => ⟨pa, er_ref e, (Lp1.gr g).ls⟩) (by omega)) hp) (fun q => nomatch q) fun _ s4 H4 _ => wpAny_execs_nil (next s4 td H4)
end
end Mine
end
section
open PySem PySem.W PyProof.Rows PySem.Calls
set_option Elab.async false
set_option maxRecDepth 100000
set_option maxHeartbeats 4000000
set_option linter.unusedVariables false
set_option pp.deepTerms false
set_option pp.maxSteps 700
namespace Mine
local macro_rules | `(tactic| tm_at "at") => `(tactic| with_reducible (repeat (first | exact At.head | apply At.tail)))
local macro_rules | `(tactic| tm_at "ok") => `(tactic| first | trivial | assumption | decide | (simp only [okI]; omega) | (simp only [okI]; mul_fits))
local macro_rules | `(tactic| tm_at "bop") => `(tactic| exact fun _ _ => bo_any (by tm_at "ok"))
local macro_rules | `(tactic| tm_at "cm") => `(tactic| exact fun _ _ => co_any rfl)
local macro_rules | `(tactic| tm_at "obj") => `(tactic| first | exact QFAt.ob (by assumption) | assumption)
local macro_rules | `(tactic| tm_at "cls") => `(tactic| first | exact cls_qf _ | exact cls_bit _)
local macro_rules | `(tactic| tm_at "lt") => `(tactic| first | assumption | omega)
local macro_rules | `(tactic| tm_at "bitx") => `(tactic| first | exact QFAt.bo (by assumption) | exact QFAt.bc (by assumption) | exact QFAt.bs (by assumption))
local macro_rules | `(tactic| tm_at "ev") => `(tactic| first
  | with_reducible exact ev_int | with_reducible exact ev_true | with_reducible exact ev_none | with_reducible exact ev_str
  | ((with_reducible refine' ev_loc ?h1 ?h2 ?h3); (case h1 => assumption); (case h2 => tm_at "at"); (case h3 => rfl))
  | ((with_reducible refine' ev_attr (Cx.inK ?h1) ?h2 ?h3 ?h4 ?h5 ?h6 ?h7 ?h8); (case h1 => assumption); (case h4 => tm_at "ev"); (case h3 => tm_at "obj"); (case h2 => tm_at "cls"); (case h5 => tm_at "at"); (case h6 => rfl); (case h7 => rfl); (case h8 => rfl))
  | ((with_reducible refine' ev_bin ?h1 ?h2 ?h3); (case h1 => tm_at "ev"); (case h2 => tm_at "ev"); (case h3 => tm_at "bop"))
  | ((with_reducible refine' ev_bit ?h1 ?h2 ?h3 ?h4 ?h5 ?h6 ?h7 ?h8); (case h1 => assumption); (case h3 => tm_at "ev"); (case h4 => tm_at "ev"); (case h2 => tm_at "bitx"); (case h5 => tm_at "lt"); (case h6 => tm_at "lt"); (case h7 => tm_at "lt"); (case h8 => (intros; rfl)))
  | ((with_reducible refine' ev_un ?h1 ?h2); (case h1 => tm_at "ev"); (case h2 => exact fun _ => uo_any rfl)))
local macro_rules | `(tactic| tm_at "eb") => `(tactic| first
  | ((with_reducible refine' eb_cmp ?h1 ?h2 ?h3 ?h4); (case h1 => tm_at "ev"); (case h2 => tm_at "ev"); (case h3 => tm_at "cm"); (case h4 => rfl))
  | ((with_reducible refine' eb_bool ?h1); (case h1 => tm_at "eb"))
  | ((with_reducible refine' eb_or ?h1 ?h2); (case h1 => tm_at "eb"); (case h2 => tm_at "eb"))
  | ((with_reducible refine' eb_and ?h1 ?h2); (case h1 => tm_at "eb"); (case h2 => tm_at "eb"))
  | with_reducible exact eb_or_nil | with_reducible exact eb_and_nil
  | ((with_reducible refine' eb_not ?h1); (case h1 => tm_at "eb")))
section
variable {prog : Program} {w : World} {n : Nat} {h h₀ : Heap} {env : Env} {nm : List Str} {vals : List (Option Value)} {a : Addr} {F : FP} {t : QS} {q : Nat} {auto : Bool} {hf : Addr} {S : List Nat}
theorem ev_chkalt {o e : Expr} {apos pos : Pos} {x : Nat} {pl : Sem Bool} (C : Cx (KK w) h₀ env nm vals h) (X : QFAt h a F t) (Y : St q auto hf S t) (h0 : Eva prog w n h (eval o env) (.ref a)) (h1 : Eva prog w n h (eval e env) (vi (x : Int))) (hx : x < 2 ^ 32) (hn : 8 ≤ n)
    (hst : starEach [e] env = (false, eval e env) :: starEach [] env := by rfl) (hplain : (backTo pos (starEach [e] env)).any (·.1) = false := by rfl)
    (he : eval (.Call (.Attribute o "check_alt" apos) [e] [] pos) env = (do
      let ov ← eval o env
      standAt apos.atName
      let (f, first) ← holding [ov] (getMethod ov "check_alt" pl)
      callWith pos f first (backTo pos (starEach [e] env)) []) := by rfl) :
    Eva prog w n h (eval (.Call (.Attribute o "check_alt" apos) [e] [] pos) env) (.bool (decide (x ∈ S))) := by
  obtain ⟨l, h3, h4⟩ := Y.I.lk hx
  refine Eva.cast (ev_mcall C.inK (cls_qf w) X.ob (mth_check_alt w) h0 (el1 h1 hst) (fun vs' hv => q_check_alt C.bs C.gb X hx h3 (by rw [List.map_cons, hv]; rfl) hn) hplain (.inl (by nofun)) he) ?_
  rw [decide_eq_decide.mpr h4]
theorem ev_chkkey {o e : Expr} {apos pos : Pos} {k : Str} {Rf : Res} {f : Str → Nat} {pl : Sem Bool} (C : Cx (KK w) h₀ env nm vals h) (X : QFAt h a F t) (Y : St q auto hf S t) (hI : Rf.I h) (hF : ∀ n, 7 ≤ n → HashF prog w n hf Rf f) (h0 : Eva prog w n h (eval o env) (.ref a)) (h1 : Eva prog w n h (eval e env) (vs k)) (hx : f k < 2 ^ 32) (hn : 9 ≤ n)
    (hst : starEach [e] env = (false, eval e env) :: starEach [] env := by rfl) (hplain : (backTo pos (starEach [e] env)).any (·.1) = false := by rfl)
    (he : eval (.Call (.Attribute o "check" apos) [e] [] pos) env = (do
      let ov ← eval o env
      standAt apos.atName
      let (f, first) ← holding [ov] (getMethod ov "check" pl)
      callWith pos f first (backTo pos (starEach [e] env)) []) := by rfl) :
    Eva prog w n h (eval (.Call (.Attribute o "check" apos) [e] [] pos) env) (.bool (decide (f k ∈ S))) := by
  obtain ⟨l, h3, h4⟩ := Y.I.lk hx
  refine Eva.cast (ev_mcall C.inK (cls_qf w) X.ob (mth_check w) h0 (el1 h1 hst) (fun vs' hv => q_check C.bs C.gb X hI (by rw [Y.hf]; exact hF) hx h3 (by rw [List.map_cons, hv]; rfl) hn) hplain (.inl (by nofun)) he) ?_
  rw [decide_eq_decide.mpr h4]
theorem co_notin_qf {k : Str} {Rf : Res} {f : Str → Nat} {x y : Value} (C : Cx (KK w) h₀ env nm vals h) (X : QFAt h a F t) (Y : St q auto hf S t) (hI : Rf.I h) (hF : ∀ n, 7 ≤ n → HashF prog w n hf Rf f) (hx : f k < 2 ^ 32) (hn : 10 ≤ n) (ha : er x = vs k) (hb : er y = .ref a) : EvaP prog w n h (compareOp .NotIn x y) fun v _ => v = .bool (!decide (f k ∈ S)) := by
  obtain rfl := er_ref hb
  obtain ⟨l, h3, h4⟩ := Y.I.lk hx
  intro A Q E s r g q
  have C' := C.gr g
  obtain ⟨m, Fm⟩ := C'.fr
  obtain ⟨es, kk, I, En⟩ := (X.ob.gr g).inst
  refine notIn_K (f := 216) Fm C'.bs.inK I (by kernel_rfl) (by kernel_rfl) ?_
  refine (q_contains C.bs C.gb X hI (by rw [Y.hf]; exact hF) hx h3 (args := [.ref a, x]) (by rw [List.map_cons, List.map_cons, ha]; rfl) hn).call A _ E s r g fun v s2 p x2 => ?_
  obtain rfl := er_bool p
  refine wpAny_truthy_bool (q _ _ ?_ x2)
  rw [decide_eq_decide.mpr h4]
theorem co_nebool {b c : Bool} {x y : Value} (ha : er x = .bool b) (hb : er y = .bool c) : EvaP prog w n h (compareOp .NotEq x y) fun v _ => v = .bool (b != c) := by
  obtain rfl := er_bool ha
  obtain rfl := er_bool hb
  exact fun A Q E s r g q => PyProof.Rows.ne_bool (q _ _ rfl (.refl _ _))
end
section
variable {w : World} {s₁ s : Shared} {h₀ : Heap} {mg mb : Str → Option Value} {env : Env} {A : Around} {sa cs ct cw ml ol wl tl f c' ra pa ba aa ll td : Addr} {zs : List Int} {q q0 : Nat} {S : List Nat} {u4 u5 u15 : Option Value} {doc pm ctv : Value} {ps : Array Value} {F F2 : FP} {t t2 : QS} {R : Res}
theorem law14 (X : LX w s₁ h₀ mg mb env A sa cs ct cw zs) (H : Act (KK w) h₀ env lawNm (lvZ zs ml ol f ra pa q ba aa ll u4 u5 (some (vi (q0 : Int))) u15 (some (vi ((32 - q0 : Nat) : Int))) (some (.ref td)) none none) [481] (.all (lrF w zs sa cs ct cw ml wl tl f c' doc pm ctv ps ra F t pa S ba F2 t2 aa)) R s₁ s) (pw : PW (lrF w zs sa cs ct cw ml wl tl f c' doc pm ctv ps ra F t pa S ba F2 t2 aa))
    (hS : S.length ≤ 19) (hmem : ∀ x ∈ lms zs, x ∈ S) (Y : St q0 true f S t)
    (next : ∀ s u4, Act (KK w) h₀ env lawNm (lvZ zs ml ol f ra pa q ba aa ll u4 u5 (some (vi (q0 : Int))) u15 (some (vi ((32 - q0 : Nat) : Int))) (some (.ref td)) none none) [481] (.all (lrF w zs sa cs ct cw ml wl tl f c' doc pm ctv ps ra F t pa S ba F2 t2 aa)) R s₁ s →
      wpAny (model lawProg w) A (execs ((lawStmts w).drop 32) env) (LEnd s₁) (fun _ _ => False) s) :
    wpAny (model lawProg w) A (execs ((lawStmts w).drop 31) env) (LEnd s₁) (fun _ _ => False) s := by
  show wpAny (model lawProg w) A (execs (_ :: (lawStmts w).drop 32) env) _ _ s
  generalize (lawStmts w).drop 32 = rest at *
  have r := X.r
  have C := H.cx
  have hm := lmany_le zs
  have hwk : env.kindOf "words" = some .cell := X.kind (by kernel_rfl)
  refine wpAny_execs_cons (x_range (a := 0) (b := (lmany zs : Int)) (N := lmany zs) (fun k ρ vals => ∃ u4, ρ = .all (lrF w zs sa cs ct cw ml wl tl f c' doc pm ctv ps ra F t pa S ba F2 t2 aa) ∧ vals = lvZ zs ml ol f ra pa q ba aa ll u4 u5 (some (vi (q0 : Int))) u15 (some (vi ((32 - q0 : Nat) : Int))) (some (.ref td)) none none) H r (by tm_at "at") (i := 4)
    (fun b hb => by rw [List.mem_singleton.mp hb]; exact (Res.tab ps).ex _ (H.res (i := 3) rfl) _ rfl) ?_ (by omega) (by omega) (by omega) (by omega) ⟨u4, rfl, rfl⟩ ?_ ?_)
  · exact ev_range1 C (by kernel_rfl) (X.kind (by kernel_rfl)) (by tm_at "ev")
  · rintro k ρ vals R' s2 hk ⟨u4, rfl, rfl⟩ hR hRI H
    obtain ⟨x, hx⟩ : ∃ x, (lms zs)[k]? = some x := ⟨_, List.getElem?_eq_getElem (by rw [lms_len]; exact hk)⟩
    have hx32 : x < 2 ^ 32 := lmarks_lt zs _ x (List.mem_of_getElem? hx)
    have hxS : x ∈ S := hmem x (List.mem_of_getElem? hx)
    have hz : (0 : Int) + (k : Int) = (k : Int) := by omega
    rw [hz] at H
    have C := H.cx
    have Q1 : QFAt s2.heap ra F t := H.res (i := 9) rfl
    have Lm : Lp s2.heap ml (mL (lms zs)) := H.res (i := 4) rfl
    have Lw : Lp s2.heap wl (sL (lwords (lmany zs))) := H.res (i := 6) rfl
    have hI := rf_I2 (zs := zs) (w := w) H rfl rfl rfl rfl rfl
    have hF := hashF_of (prog := lawProg) (zs := zs) (ct := ct) (cw := cw) (wl := wl) (tl := tl) (f := f) (c' := c') (doc := doc) (pm := pm) (ctv := ctv) C.bs
    have hf32 : rdZ zs (wd "w" k) < 2 ^ 32 := rd_lt zs _
    have hfx : rdZ zs (wd "w" k) = x := rd_w hx
    have wat : ∀ {p1 p2 p3 : Pos}, Eva lawProg w 100 s2.heap (eval (.Subscript (.Name "words" p1) (.Name "at" p2) p3) env) (vs (wd "w" k)) := ev_item (ev_cell (v := .ref wl) C.F.kind hwk X.lw (H.res (i := 2) rfl)) Lw.ls (by tm_at "ev") (by omega) (by omega) (sL_at (lwords_w hk))
    refine y_if (c := false) H r (EvB.cast (eb_bool (eb_or (eb_not (eb_val (ev_chkkey C Q1 Y hI hF (by tm_at "ev") wat hf32 (by omega)))) (eb_or (eb_not (eb_val (ev_chkalt C Q1 Y (by tm_at "ev") (ev_item (by tm_at "ev") Lm.ls (by tm_at "ev") (by omega) (by omega) (mL_at hx)) hx32 (by omega)))) (eb_or (eb_cmp wat (by tm_at "ev") fun a b ha hb => co_notin_qf C Q1 Y hI hF hf32 (by omega) ha hb) eb_or_nil)))) ?_) (fun q => nomatch q) fun _ s3 H3 _ => wpAny_execs_nil (wpAny_execs_nil ⟨_, _, ⟨_, rfl, rfl⟩, H3⟩)
    rw [hfx]; simp [hxS]
  · rintro ρ vals s2 ⟨u4, rfl, rfl⟩ H
    exact next s2 u4 H
end
end Mine
end
section
open PySem PySem.W PyProof.Rows PySem.Calls
set_option Elab.async false
set_option maxRecDepth 100000
set_option maxHeartbeats 4000000
set_option linter.unusedVariables false
set_option pp.deepTerms false
set_option pp.maxSteps 700
namespace Mine
local macro_rules | `(tactic| tm_at "at") => `(tactic| with_reducible (repeat (first | exact At.head | apply At.tail)))
local macro_rules | `(tactic| tm_at "ok") => `(tactic| first | trivial | assumption | decide | (simp only [okI]; omega) | (simp only [okI]; mul_fits))
local macro_rules | `(tactic| tm_at "bop") => `(tactic| exact fun _ _ => bo_any (by tm_at "ok"))
local macro_rules | `(tactic| tm_at "cm") => `(tactic| exact fun _ _ => co_any rfl)
local macro_rules | `(tactic| tm_at "obj") => `(tactic| first | exact QFAt.ob (by assumption) | assumption)
local macro_rules | `(tactic| tm_at "cls") => `(tactic| first | exact cls_qf _ | exact cls_bit _)
local macro_rules | `(tactic| tm_at "lt") => `(tactic| first | assumption | omega)
local macro_rules | `(tactic| tm_at "bitx") => `(tactic| first | exact QFAt.bo (by assumption) | exact QFAt.bc (by assumption) | exact QFAt.bs (by assumption))
local macro_rules | `(tactic| tm_at "ev") => `(tactic| first
  | with_reducible exact ev_int | with_reducible exact ev_true | with_reducible exact ev_none | with_reducible exact ev_str
  | ((with_reducible refine' ev_loc ?h1 ?h2 ?h3); (case h1 => assumption); (case h2 => tm_at "at"); (case h3 => rfl))
  | ((with_reducible refine' ev_attr (Cx.inK ?h1) ?h2 ?h3 ?h4 ?h5 ?h6 ?h7 ?h8); (case h1 => assumption); (case h4 => tm_at "ev"); (case h3 => tm_at "obj"); (case h2 => tm_at "cls"); (case h5 => tm_at "at"); (case h6 => rfl); (case h7 => rfl); (case h8 => rfl))
  | ((with_reducible refine' ev_bin ?h1 ?h2 ?h3); (case h1 => tm_at "ev"); (case h2 => tm_at "ev"); (case h3 => tm_at "bop"))
  | ((with_reducible refine' ev_bit ?h1 ?h2 ?h3 ?h4 ?h5 ?h6 ?h7 ?h8); (case h1 => assumption); (case h3 => tm_at "ev"); (case h4 => tm_at "ev"); (case h2 => tm_at "bitx"); (case h5 => tm_at "lt"); (case h6 => tm_at "lt"); (case h7 => tm_at "lt"); (case h8 => (intros; rfl)))
  | ((with_reducible refine' ev_un ?h1 ?h2); (case h1 => tm_at "ev"); (case h2 => exact fun _ => uo_any rfl)))
local macro_rules | `(tactic| tm_at "eb") => `(tactic| first
  | ((with_reducible refine' eb_cmp ?h1 ?h2 ?h3 ?h4); (case h1 => tm_at "ev"); (case h2 => tm_at "ev"); (case h3 => tm_at "cm"); (case h4 => rfl))
  | ((with_reducible refine' eb_bool ?h1); (case h1 => tm_at "eb"))
  | ((with_reducible refine' eb_or ?h1 ?h2); (case h1 => tm_at "eb"); (case h2 => tm_at "eb"))
  | ((with_reducible refine' eb_and ?h1 ?h2); (case h1 => tm_at "eb"); (case h2 => tm_at "eb"))
  | with_reducible exact eb_or_nil | with_reducible exact eb_and_nil
  | ((with_reducible refine' eb_not ?h1); (case h1 => tm_at "eb")))
section
variable {w : World} {s₁ s : Shared} {h₀ : Heap} {mg mb : Str → Option Value} {env : Env} {A : Around} {sa cs ct cw ml ol wl tl f c' ra pa ba aa ll td : Addr} {zs : List Int} {q q0 : Nat} {S : List Nat} {u4 u5 u15 : Option Value} {doc pm ctv : Value} {ps : Array Value} {F F2 : FP} {t t2 : QS} {R : Res}
theorem law15 (X : LX w s₁ h₀ mg mb env A sa cs ct cw zs) (H : Act (KK w) h₀ env lawNm (lvZ zs ml ol f ra pa q ba aa ll u4 u5 (some (vi (q0 : Int))) u15 (some (vi ((32 - q0 : Nat) : Int))) (some (.ref td)) none none) [481] (.all (lrF w zs sa cs ct cw ml wl tl f c' doc pm ctv ps ra F t pa S ba F2 t2 aa)) R s₁ s)
    (hS : S.length ≤ 19) (hS1 : 1 ≤ S.length) (Y : St q0 true f S t) (h3 : 3 ≤ q0) (h5 : q0 ≤ 5) :
    wpAny (model lawProg w) A (execs ((lawStmts w).drop 32) env) (LEnd s₁) (fun _ _ => False) s := by
  show wpAny (model lawProg w) A (execs [_, _] env) _ _ s
  have r := X.r
  have C := H.cx
  have hlen : env.kindOf "len" = some .globalImplicit := X.kind (by kernel_rfl)
  refine wpAny_execs_cons (x_range (a := 0) (b := 4) (N := 4) (fun k ρ vals => ∃ u4 u5 u18 u19, ρ = .all (lrF w zs sa cs ct cw ml wl tl f c' doc pm ctv ps ra F t pa S ba F2 t2 aa) ∧ vals = lvZ zs ml ol f ra pa q ba aa ll u4 u5 (some (vi (q0 : Int))) u15 (some (vi ((32 - q0 : Nat) : Int))) (some (.ref td)) u18 u19) H r (by tm_at "at") (i := 4)
    (fun b hb => by rw [List.mem_singleton.mp hb]; exact (Res.tab ps).ex _ (H.res (i := 3) rfl) _ rfl) ?_ (by omega) (by omega) (by omega) (by omega) ⟨u4, u5, none, none, rfl, rfl⟩ ?_ ?_)
  · exact ev_range1 C (by kernel_rfl) (X.kind (by kernel_rfl)) ev_int
  · rintro k ρ vals R' s2 hk ⟨u4, u5, u18, u19, rfl, rfl⟩ hR hRI H
    have hz : (0 : Int) + (k : Int) = (k : Int) := by omega
    rw [hz] at H
    have hj : k % S.length < S.length := Nat.mod_lt _ hS1
    obtain ⟨x, hx⟩ : ∃ x, S[k % S.length]? = some x := ⟨_, List.getElem?_eq_getElem hj⟩
    have hx32 : x < 2 ^ 32 := Y.lt x (List.mem_of_getElem? hx)
    have C := H.cx
    have Lp1 : Lp s2.heap pa (mL S) := H.res (i := 10) rfl
    refine y_assign (i := 5) (v := vi (x : Int)) H r (ev_item (k := ((k % S.length : Nat) : Int)) (by tm_at "ev") Lp1.ls (Eva.cast (v' := vi ((k % S.length : Nat) : Int)) (ev_bin (by tm_at "ev") (Eva.cast (v' := vi (S.length : Int)) (ev_len C (by kernel_rfl) hlen (by tm_at "ev") Lp1.ls (by rw [mL_len]; omega)) (by rw [mL_len])) (by tm_at "bop")) (congrArg vi (fmod_nat _ _))) (by omega) (by omega) (mL_at hx)) (by tm_at "at") fun s3 H3 _ => ?_
    clear H C Lp1
    have C := H3.cx
    have e2 : arI .Mod (x : Int) 2 = ((x % 2 : Nat) : Int) := fmod_nat x 2
    refine y_assign (i := 18) (v := vi ((x - x % 2 + (1 - x % 2) : Nat) : Int)) H3 r (Eva.cast (by tm_at "ev") (congrArg vi ?_)) (by tm_at "at") fun s4 H4 _ => ?_
    · rw [e2]
      show (x : Int) - ((x % 2 : Nat) : Int) + (1 - ((x % 2 : Nat) : Int)) = _
      omega
    clear H3 C
    have C := H4.cx
    refine y_assign (i := 19) (v := vi (((x + 2 ^ (32 - q0)) % 4294967296 : Nat) : Int)) H4 r (Eva.cast (ev_bin (ev_bin (by tm_at "ev") (Eva.cast (by tm_at "ev") (congrArg vi (ar_pow2 _))) (by tm_at "bop")) (Eva.cast (v' := vi 4294967296) (by tm_at "ev") (congrArg vi (by decide))) (by tm_at "bop")) (congrArg vi ?_)) (by tm_at "at") fun s5 H5 _ => ?_
    · have := fmod_nat (x + 2 ^ (32 - q0)) 4294967296
      rw [← this]
      show Int.fmod ((x : Int) + ((2 ^ (32 - q0) : Nat) : Int)) 4294967296 = _
      rfl
    clear H4 C
    have hfar : (x + 2 ^ (32 - q0)) % 4294967296 < 2 ^ 32 := Nat.mod_lt _ (by decide)
    generalize (x + 2 ^ (32 - q0)) % 4294967296 = far at *
    have hnear : x - x % 2 + (1 - x % 2) < 2 ^ 32 := by omega
    generalize x - x % 2 + (1 - x % 2) = near at *
    have C := H5.cx
    have Q1 : QFAt s5.heap ra F t := H5.res (i := 9) rfl
    have Lp1 : Lp s5.heap pa (mL S) := H5.res (i := 10) rfl
    refine y_if (c := false) H5 r (EvB.cast (eb_bool (eb_or (eb_cmp (ev_chkalt C Q1 Y (by tm_at "ev") (by tm_at "ev") hnear (by omega)) (ev_cmp (by tm_at "ev") (by tm_at "ev") fun a b ha hb => co_in_nat Lp1.ls ha hb) fun a b ha hb => co_nebool ha hb) (eb_or (eb_cmp (ev_chkalt C Q1 Y (by tm_at "ev") (by tm_at "ev") hfar (by omega)) (ev_cmp (by tm_at "ev") (by tm_at "ev") fun a b ha hb => co_in_nat Lp1.ls ha hb) fun a b ha hb => co_nebool ha hb) eb_or_nil))) (by simp)) (fun q => nomatch q) fun _ s6 H6 _ => wpAny_execs_nil (wpAny_execs_nil ⟨_, _, ⟨_, _, _, _, rfl, rfl⟩, H6⟩)
  · rintro ρ vals s2 ⟨u4, u5, u18, u19, rfl, rfl⟩ H
    refine y_ret H r (P := fun v _ => er v = .bool true) ev_true fun v s3 p H3 x3 => ?_
    obtain rfl := er_bool p
    exact ⟨rfl, H3.sx, ps, H3.res (i := 3) rfl⟩
end
end Mine
end
section
open PySem PySem.W PyProof.Rows PySem.Calls
set_option Elab.async false
set_option maxRecDepth 100000
set_option maxHeartbeats 4000000
set_option linter.unusedVariables false
set_option pp.deepTerms false
set_option pp.maxSteps 700
namespace Mine
theorem addL_mem {S : List Nat} {x y : Nat} (h : y ∈ S) : y ∈ addL S x := by
  unfold addL; split
  · exact h
  · exact List.mem_append_left _ h
theorem addL_self {S : List Nat} {x : Nat} : x ∈ addL S x := by
  unfold addL; split
  · assumption
  · simp
theorem runL_mono {y : Nat} : ∀ (xs : List Nat) (p : Nat × List Nat), y ∈ p.2 → y ∈ (runL p xs).2
  | [], _, h => h
  | x :: xs, p, h => runL_mono xs (stp p x) (addL_mem h)
theorem runL_mem {y : Nat} : ∀ (xs : List Nat) (p : Nat × List Nat), y ∈ xs → y ∈ (runL p xs).2
  | x :: xs, p, h => by
    rcases List.mem_cons.mp h with z | z
    · subst z
      exact runL_mono xs (stp p y) addL_self
    · exact runL_mem xs (stp p x) z
theorem law_all {w : World} {s₁ s : Shared} {h₀ : Heap} {mg mb : Str → Option Value} {env : Env} {A : Around} {sa cs ct cw : Addr} {zs : List Int} (X : LX w s₁ h₀ mg mb env A sa cs ct cw zs)
    (H : Act (KK w) h₀ env lawNm (List.replicate 20 none) [481] (.all [.cell cs (some (.ref sa)), .cell ct none, .cell cw none, .tab #[]]) (.keep s₁.heap [481]) s₁ s) (pw : PW [.cell cs (some (.ref sa)), .cell ct none, .cell cw none, .tab #[]]) :
    wpAny (model lawProg w) A (execs (lawStmts w) env) (LEnd s₁) (fun _ _ => False) s := by
  refine law1 X H pw fun s ml u4 u5 H pw => law2 X H pw fun s ol H pw => law3 X H pw fun s wl tl H pw => law4 X H pw fun s f c' doc pm ctv ps H pw => law5 X H pw fun s ra F pa H pw ok op => law6 X H pw ok op fun s F t u4 u5 H pw ok Y => law7 X H pw fun s ba F2 t2 u4 H pw ok2 Y2 => law8 X H pw Y2 fun s aa ll xs u5 R H pw hxs hp => ?_
  have hok := lP_ok zs (lmany zs)
  have hl := lP_len zs (lmany zs)
  refine law9 X H pw ok Y hok hl Y2 hxs hp fun s F t H pw ok Y => law10 X H pw op Y hok hl Y2 hxs hp fun s R u5 H pw => ?_
  have hsp := sP_len zs 4
  have hxl := hp.length_eq
  have hrl := runL_len (lP zs (lmany zs)) xs
  have hmem : ∀ x ∈ lms zs, x ∈ (runL (lP zs (lmany zs)) xs).2 := fun x hx => runL_mono xs _ (by
    have e : (lms zs).take (lmany zs) = lms zs := List.take_of_length_le (by rw [lms_len]; exact Nat.le_refl _)
    unfold lP
    rw [e]
    exact runL_mem _ _ hx)
  have hS1 : 1 ≤ (runL (lP zs (lmany zs)) xs).2.length := by
    have h8 := lmany_ge zs
    have h0 : 0 < (lms zs).length := by rw [lms_len]; omega
    exact List.length_pos_of_mem (hmem _ (List.getElem_mem h0))
  have hS : (runL (lP zs (lmany zs)) xs).2.length ≤ 19 := by omega
  obtain ⟨l3, l5, _, _⟩ := lst_spec hS
  obtain ⟨a, b, _⟩ := wdt_ok l3 l5 _ (show (runL (lP zs (lmany zs)) xs).2.length ≤ 20 by omega)
  exact law11 X H pw ok Y hS fun s F t H pw ok Y => law12 X H pw l3 l5 hS fun s u15 H => law13 X H pw a b hS Y fun s td H => law14 X H pw hS hmem Y fun s u4 H => law15 X H hS hS1 Y a b
theorem law_holds : PySem.Challenge.rw_ew5018_01.Holds := by
  refine law_enter fun w fd body oc od sl hlk hbd => ?_
  intro s₁ s h₀ mg mb env A sa cs ct cw zs C B g0 p0 sc ls lt lw nd ns nt nw code qual L len H htab r
  have e1 : body = lawStmts w := by unfold lawStmts; rw [hlk]; dsimp only; rw [hbd]
  have e2 : fd.scope = lawScope w := by unfold lawScope; rw [hlk]
  subst e1
  have X : LX w s₁ h₀ mg mb env A sa cs ct cw zs := ⟨C, B, g0, p0, sc.trans e2, ls, lt, lw, nd, ns, nt, nw, code, qual, L, len, r⟩
  have h481 : s₁.heap.get? 481 = some (tabObj #[]) := C.tb
  have ne : ∀ {c : Addr}, s₁.heap.get? c = none → (481 : Addr) ≠ c := fun e q => by rw [← q, h481] at e; cases e
  simp only [List.nodup_cons, List.mem_cons, List.not_mem_nil, or_false, not_or] at nd
  obtain ⟨⟨n1, n2, n3⟩, ⟨n4, n5⟩, n6, _⟩ := nd
  have pw0 : PW [.cell cs (some (.ref sa)), .cell ct none, .cell cw none] := by
    refine List.pairwise_cons.mpr ⟨fun r hr => ?_, List.pairwise_cons.mpr ⟨fun r hr => ?_, List.pairwise_singleton _ _⟩⟩
    · simp only [List.mem_cons, List.not_mem_nil, or_false] at hr
      rcases hr with z | z <;> subst z
      · exact fun x q1 q2 => n1 ((show x = cs from q1).symm.trans q2)
      · exact fun x q1 q2 => n2 ((show x = cs from q1).symm.trans q2)
    · rw [List.mem_singleton.mp hr]
      exact fun x q1 q2 => n4 ((show x = ct from q1).symm.trans q2)
  obtain ⟨H2, pw2⟩ := H.push (r := .tab #[]) pw0 htab fun b hb => by
    rw [show b = 481 from hb]
    refine ⟨fun q hq f => ?_, fun f => f.1 (by simp), ne H.fr⟩
    simp only [List.mem_cons, List.not_mem_nil, or_false] at hq
    rcases hq with z | z | z <;> subst z
    · exact ne ns f
    · exact ne nt f
    · exact ne nw f
  exact law_all X H2 pw2
end Mine
end
set_option maxRecDepth 100000 in
theorem PySem.Challenge.cw_ew5018_01_holds : PySem.Challenge.rw_ew5018_01.Holds := by
  exact Mine.law_holds
