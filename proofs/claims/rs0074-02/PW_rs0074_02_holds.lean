import PyProof.Rows.All
import Wide.All
import OpenK.AllK
import Wide.FinOn
import PySem.Challenge.RW_rs0074_02
set_option Elab.async false
set_option linter.unusedVariables false
set_option linter.unusedSimpArgs false
set_option maxRecDepth 100000
section
open PySem PySem.W PyProof.Rows
namespace Mine

/-- plain data -/
inductive D where
  | none
  | bool (b : Bool)
  | int (i : Int)
  | str (s : Str)
  | tup (l : List D)
  | lst (l : List D)

/-- all that stands stays -/
noncomputable def Kp (h h' : Heap) : Prop := ∀ b o, h.get? b = some o → h'.get? b = some o
theorem Kp.refl {h : Heap} : Kp h h := fun _ _ e => e
theorem Kp.trans {h h' h'' : Heap} (a : Kp h h') (b : Kp h' h'') : Kp h h'' := fun x o e => b x o (a x o e)

noncomputable def LO (vs : List Value) (n : Nat) : Obj := { cls := .type "list", data := .seq vs.toArray n }
noncomputable def TO (vs : List Value) (n : Nat) : Obj := { cls := .type "tuple", data := .seq vs.toArray n }

mutual
/-- the heap bears the datum at the value, by objects off X -/
noncomputable def Rd (X : List Addr) (h : Heap) : Value → D → Prop
  | v, .none => v = .none
  | v, .bool b => v = .bool b
  | v, .int i => ∃ t, v = .int i t
  | v, .str s => ∃ t, v = .str s t
  | v, .tup ds => ∃ a vs n, v = .ref a ∧ a ∉ X ∧ h.get? a = some (TO vs n) ∧ Rds X h vs ds
  | v, .lst ds => ∃ a vs n, v = .ref a ∧ a ∉ X ∧ h.get? a = some (LO vs n) ∧ Rds X h vs ds
noncomputable def Rds (X : List Addr) (h : Heap) : List Value → List D → Prop
  | [], [] => True
  | v :: vs, d :: ds => Rd X h v d ∧ Rds X h vs ds
  | _, _ => False
end

noncomputable def IsSeqO (o : Obj) : Prop := ∃ xs n, o.data = .seq xs n
mutual
theorem Rd.go {X X' : List Addr} {h h' : Heap} (hX : ∀ a, a ∉ X → a ∉ X') (hk : ∀ b o, b ∉ X → IsSeqO o → h.get? b = some o → h'.get? b = some o) :
    ∀ {v : Value} (d : D), Rd X h v d → Rd X' h' v d
  | _, .none, r => r
  | _, .bool _, r => r
  | _, .int _, r => r
  | _, .str _, r => r
  | _, .tup ds, r => by
    obtain ⟨a, vs, n, e, hn, hg, hr⟩ := r
    exact ⟨a, vs, n, e, hX a hn, hk a _ hn ⟨_, _, rfl⟩ hg, Rds.go hX hk ds hr⟩
  | _, .lst ds, r => by
    obtain ⟨a, vs, n, e, hn, hg, hr⟩ := r
    exact ⟨a, vs, n, e, hX a hn, hk a _ hn ⟨_, _, rfl⟩ hg, Rds.go hX hk ds hr⟩
theorem Rds.go {X X' : List Addr} {h h' : Heap} (hX : ∀ a, a ∉ X → a ∉ X') (hk : ∀ b o, b ∉ X → IsSeqO o → h.get? b = some o → h'.get? b = some o) :
    ∀ {vs : List Value} (ds : List D), Rds X h vs ds → Rds X' h' vs ds
  | [], [], _ => trivial
  | _ :: _, d :: ds, r => ⟨Rd.go hX hk d r.1, Rds.go hX hk ds r.2⟩
  | [], _ :: _, r => r.elim
  | _ :: _, [], r => r.elim
end
theorem Rd.up {X : List Addr} {h h' : Heap} {v : Value} {d : D} (r : Rd X h v d) (k : Kp h h') : Rd X h' v d := Rd.go (fun _ x => x) (fun b o _ _ e => k b o e) d r
theorem Rds.up {X : List Addr} {h h' : Heap} {v : List Value} {d : List D} (r : Rds X h v d) (k : Kp h h') : Rds X h' v d := Rds.go (fun _ x => x) (fun b o _ _ e => k b o e) d r
theorem Rd.less {X X' : List Addr} {h : Heap} {v : Value} {d : D} (r : Rd X h v d) (hX : ∀ a, a ∉ X → a ∉ X') : Rd X' h v d := Rd.go hX (fun _ _ _ _ e => e) d r
theorem Rds.less {X X' : List Addr} {h : Heap} {v : List Value} {d : List D} (r : Rds X h v d) (hX : ∀ a, a ∉ X → a ∉ X') : Rds X' h v d := Rds.go hX (fun _ _ _ _ e => e) d r
theorem Rds.length {X : List Addr} {h : Heap} : ∀ {vs : List Value} {ds : List D}, Rds X h vs ds → vs.length = ds.length
  | [], [], _ => rfl
  | _ :: _, _ :: _, r => by simp [Rds.length r.2]
  | [], _ :: _, r => r.elim
  | _ :: _, [], r => r.elim
theorem Rds.get {X : List Addr} {h : Heap} : ∀ {vs : List Value} {ds : List D}, Rds X h vs ds → ∀ {i : Nat} {d : D}, ds[i]? = some d → ∃ v, vs[i]? = some v ∧ Rd X h v d
  | _ :: _, _ :: _, r, 0, _, e => by simp at e; subst e; exact ⟨_, rfl, r.1⟩
  | _ :: _, _ :: _, r, i + 1, d, e => by simp at e; obtain ⟨v, hv, hr⟩ := Rds.get r.2 e; exact ⟨v, by simpa using hv, hr⟩
  | [], [], _, _, _, e => by simp at e
  | [], _ :: _, r, _, _, _ => r.elim
  | _ :: _, [], r, _, _, _ => r.elim
theorem Rds.getV {X : List Addr} {h : Heap} : ∀ {vs : List Value} {ds : List D}, Rds X h vs ds → ∀ {i : Nat} {v : Value}, vs[i]? = some v → ∃ d, ds[i]? = some d ∧ Rd X h v d
  | _ :: _, _ :: _, r, 0, _, e => by simp at e; subst e; exact ⟨_, rfl, r.1⟩
  | _ :: _, _ :: _, r, i + 1, d, e => by simp at e; obtain ⟨v, hv, hr⟩ := Rds.getV r.2 e; exact ⟨v, by simpa using hv, hr⟩
  | [], [], _, _, _, e => by simp at e
  | [], _ :: _, r, _, _, _ => r.elim
  | _ :: _, [], r, _, _, _ => r.elim
theorem Rds.app {X : List Addr} {h : Heap} : ∀ {vs : List Value} {ds : List D} {ws : List Value} {es : List D}, Rds X h vs ds → Rds X h ws es → Rds X h (vs ++ ws) (ds ++ es)
  | [], [], _, _, _, q => q
  | _ :: _, _ :: _, _, _, r, q => ⟨r.1, Rds.app r.2 q⟩
  | [], _ :: _, _, _, r, _ => r.elim
  | _ :: _, [], _, _, r, _ => r.elim
theorem Rds.drop {X : List Addr} {h : Heap} : ∀ {vs : List Value} {ds : List D}, Rds X h vs ds → ∀ k, Rds X h (vs.drop k) (ds.drop k)
  | _, _, r, 0 => by simpa using r
  | [], [], _, _ + 1 => trivial
  | _ :: _, _ :: _, r, k + 1 => by simpa using Rds.drop r.2 k
  | [], _ :: _, r, _ + 1 => r.elim
  | _ :: _, [], r, _ + 1 => r.elim
theorem Rds.take {X : List Addr} {h : Heap} : ∀ {vs : List Value} {ds : List D}, Rds X h vs ds → ∀ k, Rds X h (vs.take k) (ds.take k)
  | _, _, r, 0 => trivial
  | [], [], _, _ + 1 => trivial
  | _ :: _, _ :: _, r, k + 1 => ⟨r.1, Rds.take r.2 k⟩
  | [], _ :: _, r, _ + 1 => r.elim
  | _ :: _, [], r, _ + 1 => r.elim
theorem Rds.rev {X : List Addr} {h : Heap} : ∀ {vs : List Value} {ds : List D}, Rds X h vs ds → Rds X h vs.reverse ds.reverse
  | [], [], _ => trivial
  | _ :: _, _ :: _, r => by
    rw [List.reverse_cons, List.reverse_cons]
    exact Rds.app (Rds.rev r.2) ⟨r.1, trivial⟩
  | [], _ :: _, r => r.elim
  | _ :: _, [], r => r.elim

structure Kps (s s' : Shared) : Prop where
  to : Keeps s s'
theorem Kps.kp {s s' : Shared} (k : Kps s s') : Kp s.heap s'.heap := by
  obtain ⟨h', tk, rfl, hk⟩ := k
  exact hk
theorem keeps_refl {s : Shared} : Kps s s := ⟨s.heap, s.toks, rfl, fun _ _ e => e⟩
theorem Kps.tr {s s' s'' : Shared} (k : Kps s s') (l : Kps s' s'') : Kps s s'' := by
  obtain ⟨h', tk, rfl, hk⟩ := k
  obtain ⟨h2, tk2, rfl, hk2⟩ := l
  exact ⟨h2, tk2, rfl, fun b o e => hk2 b o (hk b o e)⟩
theorem keeps_tok {s : Shared} {t : Nat} : Kps s { s with toks := t } := ⟨s.heap, t, rfl, fun _ _ e => e⟩
theorem keeps_heap {s : Shared} {h' : Heap} {t : Nat} (k : Kp s.heap h') : Kps s { s with heap := h', toks := t } := ⟨h', t, rfl, k⟩
theorem keeps_heap' {s : Shared} {h' : Heap} (k : Kp s.heap h') : Kps s { s with heap := h' } := ⟨h', s.toks, rfl, k⟩
theorem kp_push {h : Heap} {o : Obj} : Kp h (h.push o) := fun _ _ e => Heap.get?_push_of_some _ e
theorem keeps_push {s : Shared} {o : Obj} : Kps s { s with heap := s.heap.push o } := keeps_heap' kp_push

/-- every address of X is taken -/
noncomputable def XOk (X : List Addr) (h : Heap) : Prop := ∀ a ∈ X, ∃ o, h.get? a = some o
theorem XOk.up {X : List Addr} {h h' : Heap} (x : XOk X h) (k : Kp h h') : XOk X h' := fun a ha => let ⟨o, e⟩ := x a ha; ⟨o, k _ _ e⟩
theorem XOk.off {X : List Addr} {h : Heap} (x : XOk X h) : h.objs.size ∉ X := fun hm => let ⟨_, e⟩ := x _ hm; Nat.lt_irrefl _ (Heap.lt_size e)
theorem XOk.nil {h : Heap} : XOk [] h := fun _ e => nomatch e

section
variable {prog : Program} {w : World} {A : Around} {env : Env} {h : Heap} {X : List Addr}

/-- in every heap that bears h the tree ends, keeps all, and hands on the datum -/
noncomputable def Gv (prog : Program) (w : World) (A : Around) (h : Heap) (X : List Addr) (t : Sem Value) (d : D) : Prop := XOk X h →
  ∀ (s : Shared) (Q : Value → Shared → Prop) (E : Value → Shared → Prop), Kp h s.heap → (∀ v s', Kps s s' → Rd X s'.heap v d → Q v s') → wpAny (model prog w) A t Q E s
noncomputable def Gb (prog : Program) (w : World) (A : Around) (h : Heap) (X : List Addr) (t : Sem Bool) (b : Bool) : Prop := XOk X h →
  ∀ (s : Shared) (Q : Bool → Shared → Prop) (E : Value → Shared → Prop), Kp h s.heap → (∀ s', Kps s s' → Q b s') → wpAny (model prog w) A t Q E s
/-- several values -/
noncomputable def Gs (prog : Program) (w : World) (A : Around) (h : Heap) (X : List Addr) (t : Sem (List Value)) (ds : List D) : Prop := XOk X h →
  ∀ (s : Shared) (Q : List Value → Shared → Prop) (E : Value → Shared → Prop), Kp h s.heap → (∀ v s', Kps s s' → Rds X s'.heap v ds → Q v s') → wpAny (model prog w) A t Q E s

theorem Gv.cast {t : Sem Value} {d d' : D} (g : Gv prog w A h X t d) (e : d = d') : Gv prog w A h X t d' := e ▸ g
theorem Gb.cast {t : Sem Bool} {d d' : Bool} (g : Gb prog w A h X t d) (e : d = d') : Gb prog w A h X t d' := e ▸ g

noncomputable def BinD (prog : Program) (w : World) (A : Around) (X : List Addr) (op : Operator) (d1 d2 d : D) : Prop := ∀ h v1 v2, Rd X h v1 d1 → Rd X h v2 d2 → Gv prog w A h X (binaryOp op v1 v2) d
noncomputable def InpD (prog : Program) (w : World) (A : Around) (X : List Addr) (op : Operator) (d1 d2 d : D) : Prop := ∀ h v1 v2, Rd X h v1 d1 → Rd X h v2 d2 → Gv prog w A h X (inplaceOp op v1 v2) d
noncomputable def CmpD (prog : Program) (w : World) (A : Around) (X : List Addr) (op : CmpOp) (d1 d2 : D) (b : Bool) : Prop := ∀ h v1 v2, Rd X h v1 d1 → Rd X h v2 d2 → Gv prog w A h X (compareOp op v1 v2) (.bool b)
noncomputable def TruD (prog : Program) (w : World) (A : Around) (X : List Addr) (d : D) (b : Bool) : Prop := ∀ h v, Rd X h v d → Gb prog w A h X (truthy v) b

-- constants
theorem ev_int {i : Int} {k : Nat} {pos : Pos} : Gv prog w A h X (eval (.Constant (.int i) k pos) env) (.int i) := fun hX s _ _ _ hQ =>
  wpAny_Constant_int (hQ _ _ keeps_tok ⟨_, rfl⟩)
theorem ev_str {x : Str} {k : Nat} {pos : Pos} : Gv prog w A h X (eval (.Constant (.str x) k pos) env) (.str x) := fun hX s _ _ _ hQ =>
  Calls.Constant_str (hQ _ _ keeps_tok ⟨_, rfl⟩)
theorem ev_bool {b : Bool} {k : Nat} {pos : Pos} : Gv prog w A h X (eval (.Constant (.bool b) k pos) env) (.bool b) := fun hX s _ _ _ hQ =>
  wpAny_pure (hQ _ _ keeps_refl rfl)

theorem ev_bin {l r : Expr} {op : Operator} {pos : Pos} {d1 d2 d : D} (hl : Gv prog w A h X (eval l env) d1) (hr : Gv prog w A h X (eval r env) d2) (ho : BinD prog w A X op d1 d2 d) :
    Gv prog w A h X (eval (.BinOp l op r pos) env) d := fun hX s Q E hk hQ =>
  wpAny_BinOp (hl hX s _ _ hk fun v1 s1 k1 r1 => hr hX s1 _ _ (hk.trans k1.kp) fun v2 s2 k2 r2 => ho s2.heap v1 v2 (r1.up k2.kp) r2 (hX.up (hk.trans (k1.kp.trans k2.kp))) s2 _ _ Kp.refl fun v s3 k3 r3 => hQ v s3 (k1.tr (k2.tr k3)) r3)
theorem ev_cmp {l r : Expr} {op : CmpOp} {pos : Pos} {d1 d2 : D} {b : Bool} (hl : Gv prog w A h X (eval l env) d1) (hr : Gv prog w A h X (eval r env) d2) (ho : CmpD prog w A X op d1 d2 b)
    (hm : behindInMarks op r = false := by with_unfolding_all rfl) :
    Gv prog w A h X (eval (.Compare l [op] [r] pos) env) (.bool b) := fun hX s Q E hk hQ =>
  wpAny_Compare1 (hl hX s _ _ hk fun v1 s1 k1 r1 => hr hX s1 _ _ (hk.trans k1.kp) fun v2 s2 k2 r2 => ho s2.heap v1 v2 (r1.up k2.kp) r2 (hX.up (hk.trans (k1.kp.trans k2.kp))) s2 _ _ Kp.refl fun v s3 k3 r3 => hQ v s3 (k1.tr (k2.tr k3)) r3) hm
theorem tr_cmp {l r : Expr} {op : CmpOp} {pos : Pos} {d1 d2 : D} {b : Bool} {wh : Sem Value} (hl : Gv prog w A h X (eval l env) d1) (hr : Gv prog w A h X (eval r env) d2) (ho : CmpD prog w A X op d1 d2 b)
    (hm : behindInMarks op r = false := by with_unfolding_all rfl) :
    Gb prog w A h X (isTrue (.Compare l [op] [r] pos) env wh) b := fun hX s Q E hk hQ =>
  PySem.wpAny_isTrue_Compare1 (hl hX s _ _ hk fun v1 s1 k1 r1 => hr hX s1 _ _ (hk.trans k1.kp) fun v2 s2 k2 r2 => ho s2.heap v1 v2 (r1.up k2.kp) r2 (hX.up (hk.trans (k1.kp.trans k2.kp))) s2 _ _ Kp.refl fun v s3 k3 r3 => by
    rw [show v = .bool b from r3]
    exact wpAny_truthy_bool (hQ s3 (k1.tr (k2.tr k3)))) hm
theorem ev_un {x : Expr} {op : UnaryOp} {pos : Pos} {d1 d : D} (hl : Gv prog w A h X (eval x env) d1) (ho : ∀ h v1, Rd X h v1 d1 → Gv prog w A h X (unaryOp op v1) d) :
    Gv prog w A h X (eval (.UnaryOp op x pos) env) d := fun hX s Q E hk hQ =>
  wpAny_bind (hl hX s _ _ hk fun v1 s1 k1 r1 => wpAny_bind (wpAny_standAt (wpAny_holding (ho s1.heap v1 r1 (hX.up (hk.trans k1.kp)) s1 _ _ Kp.refl fun v s3 k3 r3 => hQ v s3 (k1.tr k3) r3))))

-- ints
theorem add_ii {a b : Int} : BinD prog w A X .Add (.int a) (.int b) (.int (a + b)) := by
  rintro h _ _ ⟨t, rfl⟩ ⟨u, rfl⟩ hX s Q E hk hQ; exact PyProof.Rows.add_int (hQ _ _ keeps_tok ⟨_, rfl⟩)
theorem sub_ii {a b : Int} : BinD prog w A X .Sub (.int a) (.int b) (.int (a - b)) := by
  rintro h _ _ ⟨t, rfl⟩ ⟨u, rfl⟩ hX s Q E hk hQ; exact PyProof.Rows.sub_int (hQ _ _ keeps_tok ⟨_, rfl⟩)
theorem iadd_ii {a b : Int} : InpD prog w A X .Add (.int a) (.int b) (.int (a + b)) := by
  rintro h _ _ ⟨t, rfl⟩ ⟨u, rfl⟩ hX s Q E hk hQ; exact PyProof.Rows.iadd_int (hQ _ _ keeps_tok ⟨_, rfl⟩)
theorem isub_ii {a b : Int} : InpD prog w A X .Sub (.int a) (.int b) (.int (a - b)) := by
  rintro h _ _ ⟨t, rfl⟩ ⟨u, rfl⟩ hX s Q E hk hQ; exact PyProof.Rows.isub_int (hQ _ _ keeps_tok ⟨_, rfl⟩)
theorem mul_ii {a b : Int} (hm : IntMulOk a b) : BinD prog w A X .Mult (.int a) (.int b) (.int (a * b)) := by
  rintro h _ _ ⟨t, rfl⟩ ⟨u, rfl⟩ hX s Q E hk hQ; exact PyProof.Rows.mul_int (hQ _ _ keeps_tok ⟨_, rfl⟩) hm
theorem mod_ii {a b : Int} (hb : b ≠ 0) : BinD prog w A X .Mod (.int a) (.int b) (.int (a.fmod b)) := by
  rintro h _ _ ⟨t, rfl⟩ ⟨u, rfl⟩ hX s Q E hk hQ; exact PyProof.Rows.mod_int' hb (hQ _ _ keeps_tok ⟨_, rfl⟩)
theorem div_ii {a b : Int} (hb : b ≠ 0) (hp : Builtin.divisionGoesByPylong a b = false) : BinD prog w A X .FloorDiv (.int a) (.int b) (.int (a.fdiv b)) := by
  rintro h _ _ ⟨t, rfl⟩ ⟨u, rfl⟩ hX s Q E hk hQ; exact PyProof.Rows.floordiv_int hb (hQ _ _ keeps_tok ⟨_, rfl⟩) (.inl hp)
theorem pow_ii {a n : Int} (hn : 0 ≤ n) (hn2 : n ≤ 1000000) (ha : a.natAbs < 2 ^ 64) : BinD prog w A X .Pow (.int a) (.int n) (.int (a ^ n.toNat)) := by
  rintro h _ _ ⟨t, rfl⟩ ⟨u, rfl⟩ hX s Q E hk hQ; exact PyProof.Rows.pow_int_small hn hn2 ha (hQ _ _ keeps_tok ⟨_, rfl⟩)
theorem and_ii {a b : Int} : BinD prog w A X .BitAnd (.int a) (.int b) (.int (Builtin.bitAnd a b)) := by
  rintro h _ _ ⟨t, rfl⟩ ⟨u, rfl⟩ hX s Q E hk hQ; exact PyProof.Rows.and_int (hQ _ _ keeps_tok ⟨_, rfl⟩)
theorem ior_ii {a b : Int} : InpD prog w A X .BitOr (.int a) (.int b) (.int (Builtin.bitOr a b)) := by
  rintro h _ _ ⟨t, rfl⟩ ⟨u, rfl⟩ hX s Q E hk hQ; exact PyProof.Rows.ior_int (hQ _ _ keeps_tok ⟨_, rfl⟩)
theorem ishl_ii {a n : Int} (hn : 0 ≤ n) (hn2 : n ≤ 1000000) (ha : a.natAbs < 2 ^ 64) : InpD prog w A X .LShift (.int a) (.int n) (.int (a * 2 ^ n.toNat)) := by
  rintro h _ _ ⟨t, rfl⟩ ⟨u, rfl⟩ hX s Q E hk hQ; exact PyProof.Rows.ilshift_int_small hn hn2 ha (hQ _ _ keeps_tok ⟨_, rfl⟩)
theorem neg_i {a : Int} (h : Heap) (v : Value) (r : Rd X h v (.int a)) : Gv prog w A h X (unaryOp .USub v) (.int (-a)) := by
  obtain ⟨t, rfl⟩ := r
  intro hX s Q E hk hQ; exact PyProof.Rows.neg_int (hQ _ _ keeps_tok ⟨_, rfl⟩)
theorem lt_ii {a b : Int} : CmpD prog w A X .Lt (.int a) (.int b) (decide (a < b)) := by
  rintro h _ _ ⟨t, rfl⟩ ⟨u, rfl⟩ hX s Q E hk hQ; exact PyProof.Rows.lt_int (hQ _ _ keeps_refl rfl)
theorem gt_ii {a b : Int} : CmpD prog w A X .Gt (.int a) (.int b) (decide (b < a)) := by
  rintro h _ _ ⟨t, rfl⟩ ⟨u, rfl⟩ hX s Q E hk hQ; exact PyProof.Rows.gt_int (hQ _ _ keeps_refl rfl)
theorem ge_ii {a b : Int} : CmpD prog w A X .GtE (.int a) (.int b) (decide (b ≤ a)) := by
  rintro h _ _ ⟨t, rfl⟩ ⟨u, rfl⟩ hX s Q E hk hQ; exact PySem.P.ge_int (hQ _ _ keeps_refl rfl)
theorem eq_ii {a b : Int} : CmpD prog w A X .Eq (.int a) (.int b) (a == b) := by
  rintro h _ _ ⟨t, rfl⟩ ⟨u, rfl⟩ hX s Q E hk hQ; exact PyProof.Rows.eq_int (hQ _ _ keeps_refl rfl)
theorem ne_ii {a b : Int} : CmpD prog w A X .NotEq (.int a) (.int b) (a != b) := by
  rintro h _ _ ⟨t, rfl⟩ ⟨u, rfl⟩ hX s Q E hk hQ; exact PyProof.Rows.ne_int (hQ _ _ keeps_refl rfl)
theorem tru_i {a : Int} : TruD prog w A X (.int a) (a != 0) := by
  rintro h _ ⟨t, rfl⟩ hX s Q E hk hQ; exact PySem.P.truthy_int (hQ _ keeps_refl)
theorem tru_b {b : Bool} : TruD prog w A X (.bool b) b := by
  rintro h _ rfl hX s Q E hk hQ; exact wpAny_truthy_bool (hQ _ keeps_refl)
-- strs
theorem add_ss {a b : Str} (hz : a.length + b.length ≤ sizeLine) : BinD prog w A X .Add (.str a) (.str b) (.str (a ++ b)) := by
  rintro h _ _ ⟨t, rfl⟩ ⟨u, rfl⟩ hX s Q E hk hQ; exact PyProof.Rows.add_str (fun _ _ => hQ _ _ keeps_tok ⟨_, rfl⟩) hz
end
end Mine
end
section
open PySem PySem.W PyProof.Rows
namespace Mine

/-- what every call leans on -/
structure Gl (mg mb : Str → Option Value) (h : Heap) : Prop where
  g : h.Ns mainGlobals mg
  b : h.Ns builtinsNs mb
  nolimit : h.NoLimit
theorem Gl.up {mg mb : Str → Option Value} {h h' : Heap} (g : Gl mg mb h) (k : Kp h h') : Gl mg mb h' := ⟨g.g.keeps k, g.b.keeps k, g.nolimit.keeps k⟩

structure EnvOk (env : Env) : Prop where
  kind : env.scope.kind = .function
  gl : env.globals = mainGlobals
  bl : env.builtins = builtinsNs
  apart : ∀ n n' c, env.cells.lookup n = some c → env.cells.lookup n' = some c → n = n'

/-- the name is bound to the value -/
noncomputable def At (env : Env) (h : Heap) (x : Str) (v : Value) : Prop := (env.kindOf x = some .local ∧ ∃ m, h.Ns env.locals m ∧ m x = some v) ∨
  ((env.kindOf x = some .cell ∨ (env.kindOf x = some .free ∧ (x == ("__classdict__" : Str)) = false)) ∧ ∃ c, env.cells.lookup x = some c ∧ h.IsCell c (some v))
theorem At.up {env : Env} {h h' : Heap} {x : Str} {v : Value} (a : At env h x v) (k : Kp h h') : At env h' x v :=
  a.elim (fun ⟨q, m, hn, hm⟩ => .inl ⟨q, m, hn.keeps k, hm⟩) fun ⟨q, c, hc, hv⟩ => .inr ⟨q, c, hc, hv.keeps k⟩
noncomputable def Var (env : Env) (h : Heap) (X : List Addr) (x : Str) (d : D) : Prop := ∃ v, At env h x v ∧ Rd X h v d
theorem Var.up {env : Env} {h h' : Heap} {X : List Addr} {x : Str} {d : D} (v : Var env h X x d) (k : Kp h h') : Var env h' X x d := let ⟨v, a, r⟩ := v; ⟨v, a.up k, r.up k⟩

section
variable {prog : Program} {w : World} {A : Around} {env : Env} {h : Heap} {X : List Addr} {mg mb : Str → Option Value}

theorem wp_at {x : Str} {pos : Pos} {v : Value} {s : Shared} {Q : Value → Shared → Prop} {E : Value → Shared → Prop} (eo : EnvOk env) (a : At env s.heap x v) (hQ : Q v s)
    (hd : (x == ("__debug__" : Str)) = false := by decide) : wpAny (model prog w) A (eval (.Name x pos) env) Q E s := by
  refine wpAny_Name ?_ hd
  rcases a with ⟨hl, m, hn, hm⟩ | ⟨hl, c, hc, hv⟩
  · exact wpAny_loadName_local eo.kind hl hn hm hQ
  · rcases hl with hl | ⟨hl, hn⟩
    · exact wpAny_loadName_cell eo.kind hl hc hv hQ
    · exact wpAny_loadName_free eo.kind hl hc hv hQ hn
theorem ev_name {x : Str} {pos : Pos} {d : D} (eo : EnvOk env) (v : Var env h X x d) (hd : (x == ("__debug__" : Str)) = false := by decide) : Gv prog w A h X (eval (.Name x pos) env) d := by
  intro hX s Q E hk hQ
  obtain ⟨v, a, r⟩ := v
  exact wp_at eo (a.up hk) (hQ _ _ keeps_refl (r.up hk)) hd

/-- a global's name gives the value -/
theorem wp_glob {x : Str} {pos : Pos} {v : Value} {s : Shared} {Q : Value → Shared → Prop} {E : Value → Shared → Prop} (eo : EnvOk env) (hx : env.kindOf x = some .globalImplicit) (g : Gl mg mb s.heap) (hv : mg x = some v) (h : Q v s)
    (hd : (x == ("__debug__" : Str)) = false := by decide) : wpAny (model prog w) A (eval (.Name x pos) env) Q E s :=
  Calls.Name_function_global eo.kind hx (Calls.loadGlobal_global (by rw [eo.gl]; exact g.g) hv h) hd
theorem wp_bltn {x : Str} {pos : Pos} {v : Value} {s : Shared} {Q : Value → Shared → Prop} {E : Value → Shared → Prop} (eo : EnvOk env) (hx : env.kindOf x = some .globalImplicit) (g : Gl mg mb s.heap) (hm : mg x = none) (hv : mb x = some v) (h : Q v s)
    (hd : (x == ("__debug__" : Str)) = false := by decide) : wpAny (model prog w) A (eval (.Name x pos) env) Q E s :=
  Calls.Name_function_global eo.kind hx (Calls.loadGlobal_builtin (by rw [eo.gl]; exact g.g) hm (by rw [eo.bl]; exact g.b) hv h) hd
theorem ev_glob {x : Str} {pos : Pos} {v : Value} {d : D} (eo : EnvOk env) (hx : env.kindOf x = some .globalImplicit) (g : Gl mg mb h) (hv : mg x = some v) (r : Rd X h v d)
    (hd : (x == ("__debug__" : Str)) = false := by decide) : Gv prog w A h X (eval (.Name x pos) env) d := fun hX s Q E hk hQ =>
  wp_glob eo hx (g.up hk) hv (hQ _ _ keeps_refl (r.up hk)) hd

-- several in a row
theorem gs_nil {pos : Pos} : Gs prog w A h X (spliced (backTo pos (starEach [] env))) [] := fun hX s Q E hk hQ => spliced_none (hQ _ _ keeps_refl trivial)
theorem gs_cons {e : Expr} {rest : List Expr} {pos : Pos} {d : D} {ds : List D} (he : Gv prog w A h X (eval e env) d) (hr : Gs prog w A h X (spliced (backTo pos (starEach rest env))) ds)
    (hs : starEach (e :: rest) env = (false, eval e env) :: starEach rest env := by rfl) : Gs prog w A h X (spliced (backTo pos (starEach (e :: rest) env))) (d :: ds) := fun hX s Q E hk hQ =>
  spliced_more (he hX s _ _ hk fun v s1 k1 r1 => hr hX s1 _ _ (hk.trans k1.kp) fun vs s2 k2 r2 => hQ (v :: vs) s2 (k1.tr k2) ⟨r1.up k2.kp, r2⟩) hs

/-- a new list | tuple -/
theorem gv_newList {vs : List Value} {ds : List D} (r : Rds X h vs ds) (hz : ds.length ≤ sizeLine) : Gv prog w A h X (newList vs) (.lst ds) := fun hX s Q E hk hQ =>
  wpAny_newList (hQ _ _ keeps_push ⟨_, vs, 0, rfl, (hX.up hk).off, Heap.get?_push_size _ rfl, (r.up hk).up kp_push⟩) (by rw [r.length]; exact hz)
theorem gv_newTuple {vs : List Value} {ds : List D} (r : Rds X h vs ds) (hz : ds.length ≤ sizeLine) : Gv prog w A h X (newTuple vs) (.tup ds) := fun hX s Q E hk hQ =>
  wpAny_newTuple (hQ _ _ keeps_push ⟨_, vs, 0, rfl, (hX.up hk).off, Heap.get?_push_size _ rfl, (r.up hk).up kp_push⟩) (by rw [r.length]; exact hz)
theorem ev_list {es : List Expr} {pos : Pos} {ds : List D} (hs : Gs prog w A h X (spliced (backTo pos (starEach es env))) ds) (hz : ds.length ≤ sizeLine) : Gv prog w A h X (eval (.List es pos) env) (.lst ds) := fun hX s Q E hk hQ =>
  wpAny_bind (wpAny_standAt (wpAny_bind (hs hX s _ _ hk fun vs s1 k1 r1 => gv_newList r1 hz (hX.up (hk.trans k1.kp)) s1 _ _ Kp.refl fun v s2 k2 r2 => hQ v s2 (k1.tr k2) r2)))
theorem ev_tuple {es : List Expr} {k : Nat} {pos : Pos} {ds : List D} (hs : Gs prog w A h X (spliced (backTo pos (starEach es env))) ds) (hz : ds.length ≤ sizeLine) : Gv prog w A h X (eval (.Tuple es k pos) env) (.tup ds) := fun hX s Q E hk hQ =>
  wpAny_bind (wpAny_standAt (wpAny_bind (hs hX s _ _ hk fun vs s1 k1 r1 => gv_newTuple r1 hz (hX.up (hk.trans k1.kp)) s1 _ _ Kp.refl fun v s2 k2 r2 => hQ v s2 (k1.tr k2) r2)))

theorem lo_isList {vs : List Value} {n : Nat} {a : Addr} (e : h.get? a = some (LO vs n)) : h.IsList a vs.toArray := ⟨_, e, rfl, n, rfl⟩
theorem to_isTup {vs : List Value} {n : Nat} {a : Addr} (e : h.get? a = some (TO vs n)) : IsTup h a vs.toArray := ⟨_, e, rfl, n, rfl⟩

/-- an item: the value's type, its __getitem__, and what it gives -/
noncomputable def GetD (prog : Program) (w : World) (A : Around) (X : List Addr) (d1 d2 d : D) : Prop := ∀ h v1 v2, Rd X h v1 d1 → Rd X h v2 d2 →
  ∃ T id, typeLookup (.type T) "__getitem__" = pure (some (.builtin id)) ∧ ∀ (s : Shared) (Q : Value → Shared → Prop) (E : Value → Shared → Prop), Kp h s.heap → (∀ v s', Kps s s' → Rd X s'.heap v d → Q v s') →
    s.TypeIs v1 T ∧ wpAny (model prog w) A (getItem v1 v2) Q E s
theorem ev_item {value slice : Expr} {pos : Pos} {d1 d2 d : D} (h1 : Gv prog w A h X (eval value env) d1) (h2 : Gv prog w A h X (eval slice env) d2) (hg : GetD prog w A X d1 d2 d)
    (hs : ∀ o i, subscripted slice false o i = operate [o, i] (getItem o i) := by intro _ _; with_unfolding_all rfl) : Gv prog w A h X (eval (.Subscript value slice pos) env) d := fun hX s Q E hk hQ =>
  Subscript_ (h1 hX s _ _ hk fun v1 s1 k1 r1 => h2 hX s1 _ _ (hk.trans k1.kp) fun v2 s2 k2 r2 => by
    obtain ⟨T, id, hl, hh⟩ := hg s2.heap v1 v2 (r1.up k2.kp) r2
    obtain ⟨hT, hq⟩ := hh s2 Q E Kp.refl fun v s3 k3 r3 => hQ v s3 (k1.tr (k2.tr k3)) r3
    exact tail_any hT hl hq (hs _ _))
theorem get_li {ds : List D} {k : Int} {d : D} (h0 : 0 ≤ k) (h1 : k < 2 ^ 63) (hd : ds[k.toNat]? = some d) : GetD prog w A X (.lst ds) (.int k) d := by
  rintro h _ _ ⟨a, vs, n, rfl, hn, hg, hr⟩ ⟨t, rfl⟩
  obtain ⟨v, hv, r⟩ := hr.get hd
  refine ⟨_, _, slot_list_getitem.lookup, fun s Q E hk hQ => ⟨(lo_isList (hk _ _ hg)).typeIs, wpAny_getItem_list (lo_isList (hk _ _ hg)) h0 h1 (by simpa using hv) (hQ _ _ keeps_refl (r.up hk))⟩⟩
theorem get_li_neg {ds : List D} {k : Int} {d : D} (h0 : k < 0) (h1 : -(ds.length : Int) ≤ k) (hf : -(2 ^ 63) ≤ k) (hd : ds[(k + ds.length).toNat]? = some d) : GetD prog w A X (.lst ds) (.int k) d := by
  rintro h _ _ ⟨a, vs, n, rfl, hn, hg, hr⟩ ⟨t, rfl⟩
  obtain ⟨v, hv, r⟩ := hr.get hd
  have hl := hr.length
  refine ⟨_, _, slot_list_getitem.lookup, fun s Q E hk hQ => ⟨(lo_isList (hk _ _ hg)).typeIs, wpAny_getItem_list_neg (lo_isList (hk _ _ hg)) h0 (by rw [List.size_toArray, hl]; exact h1) hf
    (by rw [List.size_toArray, hl]; simpa using hv) (hQ _ _ keeps_refl (r.up hk))⟩⟩
theorem get_ti {ds : List D} {k : Int} {d : D} (h0 : 0 ≤ k) (h1 : k < 2 ^ 63) (hd : ds[k.toNat]? = some d) : GetD prog w A X (.tup ds) (.int k) d := by
  rintro h _ _ ⟨a, vs, n, rfl, hn, hg, hr⟩ ⟨t, rfl⟩
  obtain ⟨v, hv, r⟩ := hr.get hd
  have hlt : k.toNat < vs.length := by
    rcases Nat.lt_or_ge k.toNat vs.length with q | q
    · exact q
    · rw [List.getElem?_eq_none q] at hv; cases hv
  refine ⟨_, _, slot_tuple_getitem.lookup, fun s Q E hk hQ => ⟨(to_isTup (hk _ _ hg)).typeIs, PyProof.Rows.getItem_tuple (to_isTup (hk _ _ hg)) (by omega) h1
    (seqIndex_of h0 (by rw [List.size_toArray]; omega)) (by simpa using hv) (hQ _ _ keeps_refl (r.up hk))⟩⟩
theorem get_si {x : Str} {k : Int} {c : Nat} (h0 : 0 ≤ k) (h1 : k < 2 ^ 63) (hd : x.cps[k.toNat]? = some c) : GetD prog w A X (.str x) (.int k) (.str ⟨#[c]⟩) := by
  rintro h _ _ ⟨t, rfl⟩ ⟨u, rfl⟩
  have hlt : k.toNat < x.cps.size := by
    rcases Nat.lt_or_ge k.toNat x.cps.size with q | q
    · exact q
    · rw [Array.getElem?_eq_none q] at hd; cases hd
  refine ⟨_, _, slot_str_getitem.lookup, fun s Q E hk hQ => ⟨typeIs_str _ _ _, PyProof.Rows.getItem_str (by simp; omega)
    (by rw [seqIndex_of h0 (by show k < (x.cps.size : Int); omega)]; exact hd) (hQ _ _ keeps_tok ⟨_, rfl⟩)⟩⟩

-- slices
noncomputable def Gp (prog : Program) (w : World) (A : Around) (h : Heap) (X : List Addr) (env : Env) (e : Option Expr) (p : Option Int) : Prop := XOk X h →
  ∀ (s : Shared) (Q : Value → Shared → Prop) (E : Value → Shared → Prop), Kp h s.heap → (∀ v s', Kps s s' → IsPart v p → Q v s') → wpAny (model prog w) A (evalPart e env) Q E s
theorem gp_none : Gp prog w A h X env none none := fun _ s Q E hk hQ => wpAny_pure (hQ _ _ keeps_refl .none)
theorem gp_some {e : Expr} {i : Int} (he : Gv prog w A h X (eval e env) (.int i)) : Gp prog w A h X env (some e) (some i) := fun hX s Q E hk hQ => he hX s Q E hk fun v s1 k1 r1 => by
  obtain ⟨t, rfl⟩ := r1
  exact hQ _ _ k1 (.int i t)
noncomputable def cut (ds : List D) (lo hi : Option Int) : List D := (ds.drop (kms_lo lo ds.length)).take (kms_hi hi ds.length - kms_lo lo ds.length)
theorem cut_rds {vs : List Value} {ds : List D} (r : Rds X h vs ds) (lo hi : Option Int) : Rds X h (kms_pick vs lo hi) (cut ds lo hi) := by
  unfold kms_pick cut
  rw [r.length]
  exact (r.drop _).take _
theorem cut_len (ds : List D) (lo hi : Option Int) : (cut ds lo hi).length ≤ ds.length := by
  unfold cut
  rw [List.length_take, List.length_drop]; omega
theorem ev_slice {value : Expr} {lo hi : Option Expr} {p pos : Pos} {ds : List D} {l u : Option Int} (h1 : Gv prog w A h X (eval value env) (.lst ds)) (hl : Gp prog w A h X env lo l) (hu : Gp prog w A h X env hi u)
    (hz : ds.length ≤ sizeLine) : Gv prog w A h X (eval (.Subscript value (.Slice lo hi none p) pos) env) (.lst (cut ds l u)) := fun hX s Q E hk hQ =>
  Subscript_ (h1 hX s _ _ hk fun v1 s1 k1 r1 => wpAny_Slice (hl hX s1 _ _ (hk.trans k1.kp) fun vl s2 k2 p2 => hu hX s2 _ _ (hk.trans (k1.kp.trans k2.kp)) fun vu s3 k3 p3 => gp_none (h := s3.heap) (X := []) XOk.nil s3 _ _ Kp.refl fun vst s4 k4 p4 => by
    obtain ⟨a, vs, n, rfl, hn, hg, hr⟩ := r1.up (k2.kp.trans (k3.kp.trans k4.kp))
    cases p4
    have K4 := hk.trans (k1.kp.trans (k2.kp.trans (k3.kp.trans k4.kp)))
    refine tail_any (ops := [.ref s4.heap.objs.size, .ref a]) (T := "list") (id := "list.__getitem__") (lo_isList (n := n) (Heap.get?_push_of_some _ hg)).typeIs slot_list_getitem.lookup (wpAny_getItem_list_slice (lo_isList (n := n) (Heap.get?_push_of_some _ hg)) (Heap.IsSliceOf.new ..) p2 p3 .none (by simp) ?_ (by rw [List.size_toArray, hr.length]; exact hz)) rfl
    refine hQ _ _ (k1.tr (k2.tr (k3.tr (k4.tr (keeps_push.tr keeps_push))))) ⟨_, kms_pick vs l u, 0, rfl, ((hX.up K4).up kp_push).off, ?_, ((cut_rds hr l u).up kp_push).up kp_push⟩
    have e := Heap.get?_push_size (h := s4.heap.push { cls := .type "slice", data := .fields #[vl, vu, .none] }) (o := { cls := .type "list", data := .seq (slicePick vs.toArray l u none) }) rfl
    rw [kms_pick_eq] at e
    rw [kms_pick_eq]
    exact e))
theorem ev_rev {value st : Expr} {p pos : Pos} {ds : List D} (h1 : Gv prog w A h X (eval value env) (.lst ds)) (hs : Gp prog w A h X env (some st) (some (-1)))
    (hz : ds.length ≤ sizeLine) : Gv prog w A h X (eval (.Subscript value (.Slice none none (some st) p) pos) env) (.lst ds.reverse) := fun hX s Q E hk hQ =>
  Subscript_ (h1 hX s _ _ hk fun v1 s1 k1 r1 => wpAny_Slice (gp_none (h := s1.heap) (X := []) XOk.nil s1 _ _ Kp.refl fun vl s2 k2 p2 => gp_none (h := s2.heap) (X := []) XOk.nil s2 _ _ Kp.refl fun vu s3 k3 p3 => hs hX s3 _ _ (hk.trans (k1.kp.trans (k2.kp.trans k3.kp))) fun vst s4 k4 p4 => by
    obtain ⟨a, vs, n, rfl, hn, hg, hr⟩ := r1.up (k2.kp.trans (k3.kp.trans k4.kp))
    have K4 := hk.trans (k1.kp.trans (k2.kp.trans (k3.kp.trans k4.kp)))
    refine tail_any (ops := [.ref a, .ref s4.heap.objs.size]) (T := "list") (id := "list.__getitem__") (lo_isList (n := n) (Heap.get?_push_of_some _ hg)).typeIs slot_list_getitem.lookup (wpAny_getItem_list_slice (lo_isList (n := n) (Heap.get?_push_of_some _ hg)) (Heap.IsSliceOf.new ..) p2 p3 p4 (by simp) ?_ (by rw [List.size_toArray, hr.length]; exact hz)) rfl
    refine hQ _ _ (k1.tr (k2.tr (k3.tr (k4.tr (keeps_push.tr keeps_push))))) ⟨_, vs.reverse, 0, rfl, ((hX.up K4).up kp_push).off, ?_, (hr.rev.up kp_push).up kp_push⟩
    have e := Heap.get?_push_size (h := s4.heap.push { cls := .type "slice", data := .fields #[vl, vu, vst] }) (o := { cls := .type "list", data := .seq (slicePick vs.toArray none none (some (-1))) }) rfl
    rw [krv_pick] at e
    rw [krv_pick]
    exact e))

theorem add_ll {xs ys : List D} (hz : xs.length + ys.length ≤ sizeLine) : BinD prog w A X .Add (.lst xs) (.lst ys) (.lst (xs ++ ys)) := by
  rintro h _ _ ⟨a, vs, n, rfl, hn, hg, hr⟩ ⟨b, ws, m, rfl, hm, hg2, hr2⟩ hX s Q E hk hQ
  refine PySem.P.add_list (hk _ _ hg) (hk _ _ hg2) (hQ _ _ keeps_push ⟨_, vs ++ ws, 0, rfl, (hX.up hk).off, ?_, ((hr.app hr2).up hk).up kp_push⟩) (by rw [List.size_toArray, List.size_toArray, hr.length, hr2.length]; exact hz)
  have e := Heap.get?_push_size (h := s.heap) (o := { cls := .type "list", data := .seq (vs.toArray ++ ws.toArray) }) rfl
  rw [List.append_toArray] at e ⊢
  exact e
end
end Mine
end
section
open PySem PySem.W PyProof.Rows
namespace Mine

theorem Rd.same {X : List Addr} {h h' : Heap} {a : Addr} {v : Value} {d : D} (r : Rd X h v d) (hs : Heap.SameBut a h h') (ha : a ∈ X ∨ ∃ o, h.get? a = some o ∧ ¬ IsSeqO o) : Rd X h' v d :=
  Rd.go (fun _ x => x) (fun b o hb hq e => hs.extBut b o (fun eb => by
    subst eb
    rcases ha with ha | ⟨o', e', hn⟩
    · exact hb ha
    · rw [e] at e'; cases e'; exact hn hq) e) d r
theorem Rds.same {X : List Addr} {h h' : Heap} {a : Addr} {v : List Value} {d : List D} (r : Rds X h v d) (hs : Heap.SameBut a h h') (ha : a ∈ X ∨ ∃ o, h.get? a = some o ∧ ¬ IsSeqO o) : Rds X h' v d :=
  Rds.go (fun _ x => x) (fun b o hb hq e => hs.extBut b o (fun eb => by
    subst eb
    rcases ha with ha | ⟨o', e', hn⟩
    · exact hb ha
    · rw [e] at e'; cases e'; exact hn hq) e) d r
mutual
theorem Rd.more {X : List Addr} {h : Heap} {a : Addr} (ha : h.get? a = none) : ∀ {v : Value} (d : D), Rd X h v d → Rd (a :: X) h v d
  | _, .none, r => r
  | _, .bool _, r => r
  | _, .int _, r => r
  | _, .str _, r => r
  | _, .tup ds, r => by
    obtain ⟨b, vs, n, e, hn, hg, hr⟩ := r
    exact ⟨b, vs, n, e, fun hm => by
      rcases List.mem_cons.mp hm with q | q
      · subst q; rw [ha] at hg; cases hg
      · exact hn q, hg, Rds.more ha ds hr⟩
  | _, .lst ds, r => by
    obtain ⟨b, vs, n, e, hn, hg, hr⟩ := r
    exact ⟨b, vs, n, e, fun hm => by
      rcases List.mem_cons.mp hm with q | q
      · subst q; rw [ha] at hg; cases hg
      · exact hn q, hg, Rds.more ha ds hr⟩
theorem Rds.more {X : List Addr} {h : Heap} {a : Addr} (ha : h.get? a = none) : ∀ {vs : List Value} (ds : List D), Rds X h vs ds → Rds (a :: X) h vs ds
  | [], [], _ => trivial
  | _ :: _, d :: ds, r => ⟨Rd.more ha d r.1, Rds.more ha ds r.2⟩
  | [], _ :: _, r => r.elim
  | _ :: _, [], r => r.elim
end

theorem ns_notSeq {h : Heap} {a : Addr} {m : Str → Option Value} (n : h.Ns a m) : ∃ o, h.get? a = some o ∧ ¬ IsSeqO o := by
  obtain ⟨o, es, ep, ho, hd, _⟩ := n
  exact ⟨o, ho, fun ⟨_, _, e⟩ => by rw [hd] at e; cases e⟩
theorem cell_notSeq {h : Heap} {a : Addr} {v : Option Value} (n : h.IsCell a v) : ∃ o, h.get? a = some o ∧ ¬ IsSeqO o := by
  obtain ⟨o, ho, hd⟩ := n
  exact ⟨o, ho, fun ⟨_, _, e⟩ => by rw [hd] at e; cases e⟩
/-- neither a sequence nor a record -/
noncomputable def NSF (h : Heap) (a : Addr) : Prop := ∃ o, h.get? a = some o ∧ ¬ IsSeqO o ∧ ∀ vs, o.data ≠ .fields vs
theorem NSF.notSeq {h : Heap} {a : Addr} (x : NSF h a) : ∃ o, h.get? a = some o ∧ ¬ IsSeqO o := let ⟨o, e, n, _⟩ := x; ⟨o, e, n⟩
theorem ns_nsf {h : Heap} {a : Addr} {m : Str → Option Value} (n : h.Ns a m) : NSF h a := by
  obtain ⟨o, es, ep, ho, hd, _⟩ := n
  exact ⟨o, ho, fun ⟨_, _, e⟩ => (by rw [hd] at e; cases e), fun _ e => (by rw [hd] at e; cases e)⟩
theorem cell_nsf {h : Heap} {a : Addr} {v : Option Value} (n : h.IsCell a v) : NSF h a := by
  obtain ⟨o, ho, hd⟩ := n
  exact ⟨o, ho, fun ⟨_, _, e⟩ => (by rw [hd] at e; cases e), fun _ e => (by rw [hd] at e; cases e)⟩
theorem ns_cell_ne {h : Heap} {a c : Addr} {m : Str → Option Value} {v : Option Value} (n : h.Ns a m) (k : h.IsCell c v) : c ≠ a := by
  rintro rfl
  obtain ⟨o, es, ep, ho, hd, _⟩ := n
  obtain ⟨o', ho', hd'⟩ := k
  rw [ho] at ho'; cases ho'
  rw [hd] at hd'; cases hd'
theorem ns_list_ne {h : Heap} {a c : Addr} {m : Str → Option Value} {vs : List Value} {n : Nat} (x : h.Ns a m) (k : h.get? c = some (LO vs n)) : c ≠ a := by
  rintro rfl
  obtain ⟨o, es, ep, ho, hd, _⟩ := x
  rw [ho] at k; cases k
  cases hd
theorem cell_list_ne {h : Heap} {a c : Addr} {v : Option Value} {vs : List Value} {n : Nat} (x : h.IsCell a v) (k : h.get? c = some (LO vs n)) : c ≠ a := by
  rintro rfl
  obtain ⟨o, ho, hd⟩ := x
  rw [ho] at k; cases k
  cases hd

/-- what stands fast of a frame -/
structure Fm (hb : Heap) (env : Env) : Prop where
  eo : EnvOk env
  nol : hb.get? env.locals = none

/-- what a name holds -/
inductive Sl where
  | d (d : D)
  | own (a : Addr) (ds : List D)
  | val (v : Value)
  | iter (I l : Addr) (i : Nat) (ns : List Int)
noncomputable def RS (X : List Addr) (h : Heap) (v : Value) : Sl → Prop
  | .d d => Rd X h v d
  | .own a ds => v = .ref a ∧ a ∈ X ∧ ∃ vs n, h.get? a = some (LO vs n) ∧ Rds X h vs ds
  | .val v0 => v = v0
  | .iter I l i ns => v = .ref I ∧ h.IsListIter I l i ∧ l ∉ X ∧ ∃ vs n, h.get? l = some (LO vs n) ∧ Rds X h vs (ns.map .int)
theorem RS.up {X : List Addr} {h h' : Heap} {v : Value} {sl : Sl} (r : RS X h v sl) (k : Kp h h') : RS X h' v sl := by
  cases sl with
  | d d => exact Rd.up r k
  | own a ds => obtain ⟨e, ha, vs, n, hg, hr⟩ := r; exact ⟨e, ha, vs, n, k _ _ hg, hr.up k⟩
  | val v0 => exact r
  | iter I l i ns => obtain ⟨e, hi, hl, vs, n, hg, hr⟩ := r; exact ⟨e, hi.at fun o e => k _ o e, hl, vs, n, k _ _ hg, hr.up k⟩

noncomputable abbrev Sg := Str → Option Sl
noncomputable def upd (σ : Sg) (x : Str) (sl : Sl) : Sg := fun y => if y = x then some sl else σ y

noncomputable def SR (s0 s : Shared) : Prop := s.gens = s0.gens ∧ s.drawn = s0.drawn ∧ s.os = s0.os
theorem SR.up {s0 s s' : Shared} (r : SR s0 s) (k : Kps s s') : SR s0 s' := by
  obtain ⟨h', tk, rfl, hk⟩ := k
  exact r
theorem SR.kps {s s' : Shared} (r : SR s s') (k : Kp s.heap s'.heap) : Kps s s' := by
  obtain ⟨h', g', d', t', o'⟩ := s'
  obtain ⟨h, g, d, t, o⟩ := s
  obtain ⟨r1, r2, r3⟩ := r
  dsimp only at r1 r2 r3
  subst r1 r2 r3
  exact ⟨h', t', rfl, k⟩

structure St (s0 : Shared) (hb : Heap) (env : Env) (X : List Addr) (σ : Sg) (s : Shared) : Prop where
  kp : Kp hb s.heap
  nst : ∃ m, s.heap.Ns env.locals m
  cells : ∀ n c, env.cells.lookup n = some c → ∃ v, s.heap.IsCell c v
  var : ∀ x sl, σ x = some sl → ∃ v, At env s.heap x v ∧ RS X s.heap v sl
  xok : XOk X s.heap
  od : ∀ x y a ds a' ds', σ x = some (.own a ds) → σ y = some (.own a' ds') → x ≠ y → a ≠ a'
  ob : ∀ x a ds, σ x = some (.own a ds) → hb.get? a = none
  rest : SR s0 s
  ib : ∀ x I l i ns, σ x = some (.iter I l i ns) → hb.get? I = none
  oi : ∀ x y I l i ns I' l' i' ns', σ x = some (.iter I l i ns) → σ y = some (.iter I' l' i' ns') → x = y

section
variable {prog : Program} {w : World} {A : Around} {env : Env} {h hb : Heap} {X : List Addr} {mg mb : Str → Option Value} {σ : Sg} {s s0 : Shared}

theorem St.up (q : St s0 hb env X σ s) {s' : Shared} (k : Kps s s') : St s0 hb env X σ s' where
  kp := q.kp.trans k.kp
  nst := let ⟨m, n⟩ := q.nst; ⟨m, n.keeps k.kp⟩
  cells := fun n c e => let ⟨v, hv⟩ := q.cells n c e; ⟨v, hv.keeps k.kp⟩
  var := fun x sl e => let ⟨v, a, r⟩ := q.var x sl e; ⟨v, a.up k.kp, r.up k.kp⟩
  xok := q.xok.up k.kp
  od := q.od
  ob := q.ob
  rest := q.rest.up k
  ib := q.ib
  oi := q.oi
theorem St.weak (q : St s0 hb env X σ s) {σ' : Sg} (hs : ∀ x sl, σ' x = some sl → σ x = some sl) : St s0 hb env X σ' s where
  kp := q.kp
  nst := q.nst
  cells := q.cells
  var := fun x sl e => q.var x sl (hs x sl e)
  xok := q.xok
  od := fun x y a ds a' ds' e1 e2 => q.od x y a ds a' ds' (hs _ _ e1) (hs _ _ e2)
  ob := fun x a ds e => q.ob x a ds (hs _ _ e)
  rest := q.rest
  ib := fun x I l i ns e => q.ib x I l i ns (hs _ _ e)
  oi := fun x y I l i ns I' l' i' ns' e1 e2 => q.oi x y I l i ns I' l' i' ns' (hs _ _ e1) (hs _ _ e2)
/-- a datum's name, off X -/
theorem St.vd (q : St s0 hb env X σ s) {x : Str} {d : D} (e : σ x = some (.d d)) : Var env s.heap X x d := let ⟨v, a, r⟩ := q.var x _ e; ⟨v, a, r⟩
theorem St.v0 (q : St s0 hb env X σ s) {x : Str} {d : D} (e : σ x = some (.d d)) : Var env s.heap [] x d := let ⟨v, a, r⟩ := q.var x _ e; ⟨v, a, Rd.less r fun _ _ => List.not_mem_nil⟩
theorem St.vo (q : St s0 hb env X σ s) {x : Str} {a : Addr} {ds : List D} (e : σ x = some (.own a ds)) : Var env s.heap [] x (.lst ds) := by
  obtain ⟨v, a', rfl, ha, vs, n, hg, hr⟩ := q.var x _ e
  exact ⟨_, a', a, vs, n, rfl, List.not_mem_nil, hg, hr.less fun _ _ => List.not_mem_nil⟩

/-- where a name may be stored -/
noncomputable def Sto (hb : Heap) (env : Env) (x : Str) : Prop := env.kindOf x = some .local ∨ (env.kindOf x = some .cell ∧ ∃ c, env.cells.lookup x = some c ∧ hb.get? c = none)

theorem rs_same {h h' : Heap} {a : Addr} {v : Value} {sl : Sl} (r : RS X h v sl) (hs : Heap.SameBut a h h') (ha : NSF h a) : RS X h' v sl := by
  cases sl with
  | d d => exact Rd.same r hs (.inr ha.notSeq)
  | own b ds =>
    obtain ⟨e, hm, vs, n, hg, hr⟩ := r
    exact ⟨e, hm, vs, n, hs.extBut b _ (fun eb => by subst eb; obtain ⟨o, e', hn⟩ := ha; rw [hg] at e'; cases e'; exact hn.1 ⟨_, _, rfl⟩) hg, hr.same hs (.inr ha.notSeq)⟩
  | val v0 => exact r
  | iter I l i ns =>
    obtain ⟨e, hi, hl, vs, n, hg, hr⟩ := r
    refine ⟨e, hi.at fun o e' => hs.extBut _ o (fun eb => ?_) e', hl, vs, n, hs.extBut l _ (fun eb => ?_) hg, hr.same hs (.inr ha.notSeq)⟩
    · subst eb
      obtain ⟨o1, e1, hn⟩ := ha
      obtain ⟨o2, e2, _, hd⟩ := hi
      rw [e1] at e2; cases e2
      exact hn.2 _ hd
    · subst eb; obtain ⟨o, e', hn⟩ := ha; rw [hg] at e'; cases e'; exact hn.1 ⟨_, _, rfl⟩
theorem xok_same {h h' : Heap} {a : Addr} (x : XOk X h) (hs : Heap.SameBut a h h') (ha : ∃ o, h'.get? a = some o) : XOk X h' := fun b hb => by
  by_cases e : b = a
  · subst e; exact ha
  · obtain ⟨o, ho⟩ := x b hb
    exact ⟨o, hs.extBut b o e ho⟩

theorem st_store_x {x : Str} {v : Value} {sl : Sl} {Q : Unit → Shared → Prop} {E : Value → Shared → Prop} (f : Fm hb env) (q : St s0 hb env X σ s) (hx : Sto hb env x) (r : RS X s.heap v sl)
    (ho : ∀ a ds, sl = .own a ds → hb.get? a = none ∧ ∀ y a' ds', y ≠ x → σ y = some (.own a' ds') → a ≠ a')
    (hit : ∀ I l i ns, sl = .iter I l i ns → hb.get? I = none ∧ ∀ y I' l' i' ns', y ≠ x → σ y ≠ some (.iter I' l' i' ns'))
    (hQ : ∀ s' a, (a = env.locals ∨ ∃ n, env.cells.lookup n = some a) → Heap.SameBut a s.heap s'.heap → St s0 hb env X (upd σ x sl) s' → Q () s') : wpAny (model prog w) A (storeName env x v) Q E s := by
  have od' : ∀ x₁ y a ds a' ds', upd σ x sl x₁ = some (.own a ds) → upd σ x sl y = some (.own a' ds') → x₁ ≠ y → a ≠ a' := by
    intro x₁ y a ds a' ds' e1 e2 hne
    unfold upd at e1 e2
    by_cases h1 : x₁ = x <;> by_cases h2 : y = x
    · exact absurd (h1.trans h2.symm) hne
    · rw [if_pos h1] at e1; rw [if_neg h2] at e2
      exact (ho a ds (Option.some.inj e1)).2 y a' ds' h2 e2
    · rw [if_neg h1] at e1; rw [if_pos h2] at e2
      exact ((ho a' ds' (Option.some.inj e2)).2 x₁ a ds h1 e1).symm
    · rw [if_neg h1] at e1; rw [if_neg h2] at e2
      exact q.od _ _ _ _ _ _ e1 e2 hne
  have ob' : ∀ x₁ a ds, upd σ x sl x₁ = some (.own a ds) → hb.get? a = none := by
    intro x₁ a ds e1
    unfold upd at e1
    by_cases h1 : x₁ = x
    · rw [if_pos h1] at e1; exact (ho a ds (Option.some.inj e1)).1
    · rw [if_neg h1] at e1; exact q.ob _ _ _ e1
  have ib' : ∀ x₁ I l i ns, upd σ x sl x₁ = some (.iter I l i ns) → hb.get? I = none := by
    intro x₁ I l i ns e1
    unfold upd at e1
    by_cases h1 : x₁ = x
    · rw [if_pos h1] at e1; exact (hit I l i ns (Option.some.inj e1)).1
    · rw [if_neg h1] at e1; exact q.ib _ _ _ _ _ e1
  have oi' : ∀ x₁ y I l i ns I' l' i' ns', upd σ x sl x₁ = some (.iter I l i ns) → upd σ x sl y = some (.iter I' l' i' ns') → x₁ = y := by
    intro x₁ y I l i ns I' l' i' ns' e1 e2
    unfold upd at e1 e2
    by_cases h1 : x₁ = x <;> by_cases h2 : y = x
    · exact h1.trans h2.symm
    · rw [if_pos h1] at e1; rw [if_neg h2] at e2
      exact absurd e2 ((hit I l i ns (Option.some.inj e1)).2 y I' l' i' ns' h2)
    · rw [if_neg h1] at e1; rw [if_pos h2] at e2
      exact absurd e1 ((hit I' l' i' ns' (Option.some.inj e2)).2 x₁ I l i ns h1)
    · rw [if_neg h1] at e1; rw [if_neg h2] at e2
      exact q.oi _ _ _ _ _ _ _ _ _ _ e1 e2
  rcases hx with hl | ⟨hl, c, hc, hcb⟩
  · obtain ⟨m, hn⟩ := q.nst
    refine wpAny_storeName_local hl hn (fun h' hn' hs' => hQ _ env.locals (.inl rfl) hs' ?_) (by rw [f.eo.kind]; rfl)
    have hnl := ns_nsf hn
    refine ⟨fun b o e => hs'.extBut b o (fun eb => by subst eb; rw [f.nol] at e; cases e) (q.kp b o e), ⟨_, hn'⟩, fun n c e => ?_, fun y sl' e => ?_, ?_, od', ob', q.rest, ib', oi'⟩
    · obtain ⟨v', hv'⟩ := q.cells n c e
      exact ⟨v', hv'.sameBut hs' (ns_cell_ne hn hv')⟩
    · unfold upd at e
      by_cases hy : y = x
      · rw [if_pos hy] at e; cases e
        exact ⟨v, .inl ⟨hy ▸ hl, _, hn', by simp [hy]⟩, rs_same r hs' hnl⟩
      · rw [if_neg hy] at e
        obtain ⟨v', a', r'⟩ := q.var y sl' e
        refine ⟨v', ?_, rs_same r' hs' hnl⟩
        rcases a' with ⟨k, m', hm', e'⟩ | ⟨k, c', hc', hv'⟩
        · refine .inl ⟨k, _, hn', ?_⟩
          rw [if_neg hy]
          obtain ⟨o1, es1, ep1, g1, d1, k1, f1⟩ := hm'
          obtain ⟨o2, es2, ep2, g2, d2, k2, f2⟩ := hn
          rw [g1] at g2; cases g2
          rw [d1] at d2; cases d2
          rw [← f2, f1]; exact e'
        · exact .inr ⟨k, c', hc', hv'.sameBut hs' (ns_cell_ne hn hv')⟩
    · obtain ⟨o, _, _, e, _⟩ := hn'
      exact xok_same q.xok hs' ⟨o, e⟩
  · obtain ⟨v0, hv0⟩ := q.cells x c hc
    refine wpAny_storeName_cell f.eo.kind hl hc hv0 fun h' hc' hs' => hQ _ c (.inr ⟨x, hc⟩) hs' ?_
    have hnl := cell_nsf hv0
    refine ⟨fun b o e => hs'.extBut b o (fun eb => by subst eb; rw [hcb] at e; cases e) (q.kp b o e), ?_, fun n c2 e => ?_, fun y sl' e => ?_, ?_, od', ob', q.rest, ib', oi'⟩
    · obtain ⟨m, hn⟩ := q.nst
      exact ⟨m, hn.sameBut hs' (ns_cell_ne hn hv0).symm⟩
    · by_cases hcc : c2 = c
      · subst hcc; exact ⟨_, hc'⟩
      · obtain ⟨v', hv'⟩ := q.cells n c2 e
        exact ⟨v', hv'.sameBut hs' hcc⟩
    · unfold upd at e
      by_cases hy : y = x
      · rw [if_pos hy] at e; cases e
        subst hy
        exact ⟨v, .inr ⟨.inl hl, c, hc, hc'⟩, rs_same r hs' hnl⟩
      · rw [if_neg hy] at e
        obtain ⟨v', a', r'⟩ := q.var y sl' e
        refine ⟨v', ?_, rs_same r' hs' hnl⟩
        rcases a' with ⟨k, m', hm', e'⟩ | ⟨k, c', hc2, hv'⟩
        · exact .inl ⟨k, m', hm'.sameBut hs' (ns_cell_ne hm' hv0).symm, e'⟩
        · exact .inr ⟨k, c', hc2, hv'.sameBut hs' fun ec => hy (f.eo.apart _ _ _ hc2 (ec ▸ hc))⟩
    · obtain ⟨o, e, _⟩ := hc'
      exact xok_same q.xok hs' ⟨o, e⟩
theorem st_store {x : Str} {v : Value} {sl : Sl} {Q : Unit → Shared → Prop} {E : Value → Shared → Prop} (f : Fm hb env) (q : St s0 hb env X σ s) (hx : Sto hb env x) (r : RS X s.heap v sl)
    (ho : ∀ a ds, sl = .own a ds → hb.get? a = none ∧ ∀ y a' ds', y ≠ x → σ y = some (.own a' ds') → a ≠ a')
    (hit : ∀ I l i ns, sl = .iter I l i ns → hb.get? I = none ∧ ∀ y I' l' i' ns', y ≠ x → σ y ≠ some (.iter I' l' i' ns'))
    (hQ : ∀ s', St s0 hb env X (upd σ x sl) s' → Q () s') : wpAny (model prog w) A (storeName env x v) Q E s := st_store_x f q hx r ho hit fun s' _ _ _ q' => hQ s' q'
theorem st_store_d {x : Str} {v : Value} {d : D} {Q : Unit → Shared → Prop} {E : Value → Shared → Prop} (f : Fm hb env) (q : St s0 hb env X σ s) (hx : Sto hb env x) (r : Rd X s.heap v d)
    (hQ : ∀ s', St s0 hb env X (upd σ x (.d d)) s' → Q () s') : wpAny (model prog w) A (storeName env x v) Q E s :=
  st_store (sl := .d d) f q hx r (fun _ _ e => nomatch e) (fun _ _ _ _ e => nomatch e) hQ
end
end Mine
end
section
open PySem PySem.W PyProof.Rows
namespace Mine

noncomputable def fr (o : Obj) : Obj := { o with data := .freed }
noncomputable def mask (h : Heap) : List Addr → Heap
  | [] => h
  | a :: M => (mask h M).update a fr
theorem upd_self (h : Heap) (a : Addr) : (h.update a fr).get? a = none := by
  obtain ⟨objs, l⟩ := h
  unfold Heap.update Heap.get? fr
  dsimp only
  rw [Array.getElem?_modify]
  simp only [if_true]
  cases objs[a]? <;> rfl
theorem mask_out (h : Heap) : ∀ (M : List Addr) (b : Addr), b ∉ M → (mask h M).get? b = h.get? b
  | [], _, _ => rfl
  | a :: M, b, hb => by
    unfold mask
    have hne : a ≠ b := fun e => hb (by rw [e]; exact List.mem_cons_self)
    rw [Heap.get?_update_other _ _ hne]
    exact mask_out h M b fun hm => hb (List.mem_cons_of_mem _ hm)
theorem mask_in (h : Heap) : ∀ (M : List Addr) (b : Addr), b ∈ M → (mask h M).get? b = none
  | a :: M, b, hb => by
    unfold mask
    by_cases e : a = b
    · subst e; exact upd_self _ _
    · rw [Heap.get?_update_other _ _ e]
      exact mask_in h M b ((List.mem_cons.mp hb).resolve_left fun q => e q.symm)

noncomputable def NotDC (o : Obj) : Prop := (∀ es n, o.data ≠ .dict es n) ∧ (∀ c, o.data ≠ .cell c)

section
variable {prog : Program} {w : World} {A : Around} {env : Env} {h hb : Heap} {X : List Addr} {mg mb : Str → Option Value} {σ : Sg} {s s0 : Shared}

theorem St.base (q : St s0 hb env X σ s) {hb' : Heap} (k : Kp hb' hb) : St s0 hb' env X σ s :=
  ⟨k.trans q.kp, q.nst, q.cells, q.var, q.xok, q.od, fun x a ds e => by
    cases g : hb'.get? a with
    | none => rfl
    | some o => rw [← k _ _ g, q.ob x a ds e], q.rest, fun x I l i ns e => (by
    cases g : hb'.get? I with
    | none => rfl
    | some o => rw [← k _ _ g, q.ib x I l i ns e]), q.oi⟩

structure Reb (hb hb' : Heap) (env : Env) : Prop where
  kp : Kp hb hb'
  fm : Fm hb' env
  sto : ∀ x, Sto hb env x → Sto hb' env x

theorem St.rebase (f : Fm hb env) (q : St s0 hb env X σ s) (O : List Addr) (hO : ∀ x a ds, σ x = some (.own a ds) → a ∈ O) (hI : ∀ x I l i ns, σ x = some (.iter I l i ns) → I ∈ O) : ∃ hb', Reb hb hb' env ∧ St s0 hb' env X σ s ∧ ∀ b o, s.heap.get? b = some o → b ∉ O → NotDC o → hb'.get? b = some o := by
  let M : List Addr := ((env.locals :: (env.cells.filterMap fun p => env.cells.lookup p.1)) ++ O).filter fun a => (hb.get? a).isNone
  have hin : ∀ a, a ∈ (env.locals :: (env.cells.filterMap fun p => env.cells.lookup p.1)) ++ O → hb.get? a = none → (mask s.heap M).get? a = none := fun a ha hn => mask_in _ _ _ (List.mem_filter.mpr ⟨ha, by rw [hn]; rfl⟩)
  have hout : ∀ b o, hb.get? b = some o → (mask s.heap M).get? b = some o := fun b o e => by
    rw [mask_out _ _ _ (fun hm => by have := (List.mem_filter.mp hm).2; rw [e] at this; cases this)]
    exact q.kp b o e
  have hcell : ∀ n c, env.cells.lookup n = some c → c ∈ (env.locals :: (env.cells.filterMap fun p => env.cells.lookup p.1)) ++ O := fun n c e =>
    List.mem_append_left _ (List.mem_cons_of_mem _ (List.mem_filterMap.mpr ⟨(n, c), mem_of_lookup e, e⟩))
  have hloc : env.locals ∈ (env.locals :: (env.cells.filterMap fun p => env.cells.lookup p.1)) ++ O := List.mem_append_left _ List.mem_cons_self
  refine ⟨mask s.heap M, ⟨hout, ⟨f.eo, hin _ hloc f.nol⟩, fun x hx => ?_⟩, ⟨fun b o e => ?_, q.nst, q.cells, q.var, q.xok, q.od, fun x a ds e => ?_, q.rest, fun x I l i ns e => hin I (List.mem_append_right _ (hI x I l i ns e)) (q.ib x I l i ns e), q.oi⟩, fun b o e hX hd => ?_⟩
  · rcases hx with hl | ⟨hl, c, hc, hcb⟩
    · exact .inl hl
    · exact .inr ⟨hl, c, hc, hin c (hcell _ _ hc) hcb⟩
  · by_cases hm : b ∈ M
    · rw [mask_in _ _ _ hm] at e; cases e
    · rw [mask_out _ _ _ hm] at e; exact e
  · obtain ⟨v, _, rfl, ha, _⟩ := q.var x _ e
    exact hin a (List.mem_append_right _ (hO x a ds e)) (q.ob x a ds e)
  · rw [mask_out _ _ _ (fun hm => ?_)]
    · exact e
    · rcases List.mem_append.mp (List.mem_filter.mp hm).1 with h1 | h1
      · rcases List.mem_cons.mp h1 with h2 | h2
        · subst h2
          obtain ⟨m, o', es, ep, ho, hd', _⟩ := q.nst
          rw [e] at ho; cases ho
          exact hd.1 _ _ hd'
        · obtain ⟨⟨n, c⟩, hnc, hl⟩ := List.mem_filterMap.mp h2
          obtain ⟨v, o', ho, hd'⟩ := q.cells n b hl
          rw [e] at ho; cases ho
          exact hd.2 _ hd'
      · exact hX h1
end
end Mine
end
section
open PySem PySem.W PyProof.Rows
namespace Mine

section
variable {prog : Program} {w : World} {A : Around} {env : Env} {h hb : Heap} {X : List Addr} {mg mb : Str → Option Value} {σ : Sg} {s s0 : Shared}

theorem Rds.one {vs : List Value} {d : D} (r : Rds X h vs [d]) : ∃ v, vs = [v] ∧ Rd X h v d := by
  match vs, r with
  | [v], r => exact ⟨v, rfl, r.1⟩
theorem Rds.two {vs : List Value} {d e : D} (r : Rds X h vs [d, e]) : ∃ v u, vs = [v, u] ∧ Rd X h v d ∧ Rd X h u e := by
  match vs, r with
  | [v, u], r => exact ⟨v, u, rfl, r.1, r.2.1⟩
  | [_], r => exact r.2.elim
  | _ :: _ :: _ :: _, r => exact r.2.2.elim
-- truth
theorem tr_not {x : Expr} {pos : Pos} {wh : Sem Value} {b : Bool} (hx : Gb prog w A h X (isTrue x env (eval x env)) b) : Gb prog w A h X (isTrue (.UnaryOp .Not x pos) env wh) (!b) := fun hX s Q E hk hQ =>
  PyProof.Rows.isTrue_not (hx hX s _ _ hk fun s' k => hQ s' k)
theorem tr_plain {e : Expr} {d : D} {b : Bool} (he : Gv prog w A h X (eval e env) d) (ht : TruD prog w A X d b)
    (hp : isTrue e env (eval e env) = (do let v ← eval e env; standAt e.pos; holding [v] (truthy v)) := by rfl) : Gb prog w A h X (isTrue e env (eval e env)) b := fun hX s Q E hk hQ =>
  PyProof.Rows.isTrue_plain (he hX s _ _ hk fun v s1 k1 r1 => ht s1.heap v r1 (hX.up (hk.trans k1.kp)) s1 _ _ Kp.refl fun s2 k2 => hQ s2 (k1.tr k2)) hp
theorem tr_or_nil {pos : Pos} {wh : Sem Value} : Gb prog w A h X (isTrue (.BoolOp .Or [] pos) env wh) false := fun hX s Q E hk hQ => PyProof.Rows.isTrue_or_nil (hQ _ keeps_refl)
theorem tr_and_nil {pos : Pos} {wh : Sem Value} : Gb prog w A h X (isTrue (.BoolOp .And [] pos) env wh) true := fun hX s Q E hk hQ => PyProof.Rows.isTrue_and_nil (hQ _ keeps_refl)
theorem tr_or {x : Expr} {rest : List Expr} {pos : Pos} {wh : Sem Value} {a b : Bool} (hx : Gb prog w A h X (isTrue x env (eval x env)) a) (hr : a = false → Gb prog w A h X (isTrue (.BoolOp .Or rest pos) env wh) b) :
    Gb prog w A h X (isTrue (.BoolOp .Or (x :: rest) pos) env wh) (a || b) := fun hX s Q E hk hQ =>
  PyProof.Rows.isTrue_or (hx hX s _ _ hk fun s1 k1 => by
    cases a with
    | true => exact hQ s1 k1
    | false => exact hr rfl hX s1 _ _ (hk.trans k1.kp) fun s2 k2 => hQ s2 (k1.tr k2))
theorem tr_and {x : Expr} {rest : List Expr} {pos : Pos} {wh : Sem Value} {a b : Bool} (hx : Gb prog w A h X (isTrue x env (eval x env)) a) (hr : a = true → Gb prog w A h X (isTrue (.BoolOp .And rest pos) env wh) b) :
    Gb prog w A h X (isTrue (.BoolOp .And (x :: rest) pos) env wh) (a && b) := fun hX s Q E hk hQ =>
  PyProof.Rows.isTrue_and (hx hX s _ _ hk fun s1 k1 => by
    cases a with
    | false => exact hQ s1 k1
    | true => exact hr rfl hX s1 _ _ (hk.trans k1.kp) fun s2 k2 => hQ s2 (k1.tr k2))
theorem ev_if {t b o : Expr} {pos : Pos} {c : Bool} {d : D} (ht : Gb prog w A h X (isTrue t env (eval t env)) c) (h1 : c = true → Gv prog w A h X (eval b env) d) (h2 : c = false → Gv prog w A h X (eval o env) d) :
    Gv prog w A h X (eval (.IfExp t b o pos) env) d := fun hX s Q E hk hQ =>
  PySem.wpAny_IfExp (ht hX s _ _ hk fun s1 k1 => by
    cases c with
    | true => exact h1 rfl hX s1 _ _ (hk.trans k1.kp) fun v s2 k2 r2 => hQ v s2 (k1.tr k2) r2
    | false => exact h2 rfl hX s1 _ _ (hk.trans k1.kp) fun v s2 k2 r2 => hQ v s2 (k1.tr k2) r2)

-- calls
theorem wp_args {f : Value} {e : Expr} {rest : List Expr} {pos : Pos} {ds : List D} {Q : Args → Shared → Prop} {E : Value → Shared → Prop} (hX : XOk X h) (hk : Kp h s.heap)
    (ha : Gs prog w A h X (spliced (backTo pos (starEach (e :: rest) env))) ds) (hQ : ∀ vs s', Kps s s' → Rds X s'.heap vs ds → Q ⟨vs, []⟩ s')
    (hs : starEach (e :: rest) env = (false, eval e env) :: starEach rest env := by rfl) : wpAny (model prog w) A (evalArgs f true (backTo pos (starEach (e :: rest) env)) []) Q E s := by
  rw [hs] at ha ⊢
  exact Calls.evalArgs_plain (ha hX s _ _ hk fun vs s' k r => hQ vs s' k r)

/-- a call of a def of the text -/
theorem ev_fn {f : Str} {np pos : Pos} {e : Expr} {rest : List Expr} {fa : Addr} {o : Obj} {fd : FuncData} {ds : List D} {d : D} (eo : EnvOk env) (hx : env.kindOf f = some .globalImplicit) (g : Gl mg mb h) (hf : mg f = some (.ref fa))
    (ho : h.get? fa = some o) (hd : o.data = .func fd) (ha : Gs prog w A h X (spliced (backTo pos (starEach (e :: rest) env))) ds)
    (hc : ∀ h' vs, Kp h h' → Rds X h' vs ds → Gv prog w A h' X (call (.ref fa) vs) d)
    (hs : starEach (e :: rest) env = (false, eval e env) :: starEach rest env := by rfl) (hdb : (f == ("__debug__" : Str)) = false := by decide) :
    Gv prog w A h X (eval (.Call (.Name f np) (e :: rest) [] pos) env) d := fun hX s Q E hk hQ =>
  wpAny_bind (wp_glob eo hx (g.up hk) hf (Calls.callWith_function (fd := fd) (wp_args hX hk ha (fun vs s1 k1 r1 => ⟨⟨k1.kp _ _ (hk _ _ ho), hd⟩,
    hc s1.heap vs (hk.trans k1.kp) r1 (hX.up (hk.trans k1.kp)) s1 _ _ Kp.refl fun v s2 k2 r2 => hQ v s2 (k1.tr k2) r2⟩) hs)) hdb)
/-- a call of a built-in function -/
theorem ev_bf {f : Str} {id : String} {np pos : Pos} {e : Expr} {rest : List Expr} {ds : List D} {d : D} (eo : EnvOk env) (hx : env.kindOf f = some .globalImplicit) (g : Gl mg mb h) (hm : mg f = none) (hf : mb f = some (.builtin id))
    (ha : Gs prog w A h X (spliced (backTo pos (starEach (e :: rest) env))) ds)
    (hc : ∀ h' vs, Rds X h' vs ds → Gv prog w A h' X (call (.builtin id) vs) d)
    (hs : starEach (e :: rest) env = (false, eval e env) :: starEach rest env := by rfl) (hp : (backTo pos (starEach (e :: rest) env)).any (·.1) = false := by rfl) (hdb : (f == ("__debug__" : Str)) = false := by decide) :
    Gv prog w A h X (eval (.Call (.Name f np) (e :: rest) [] pos) env) d := fun hX s Q E hk hQ =>
  wpAny_bind (wp_bltn eo hx (g.up hk) hm hf (Calls.callWith_builtin hp (wp_args hX hk ha (fun vs s1 k1 r1 =>
    hc s1.heap vs r1 (hX.up (hk.trans k1.kp)) s1 _ _ Kp.refl fun v s2 k2 r2 => hQ v s2 (k1.tr k2) r2) hs)) hdb)

-- len
theorem len_l {ds : List D} (hz : ds.length ≤ sizeLine) (h' : Heap) (vs : List Value) (r : Rds X h' vs [.lst ds]) : Gv prog w A h' X (call (.builtin "len") vs) (.int ds.length) := by
  obtain ⟨v, rfl, a, vs, n, rfl, hn, hg, hr⟩ := r.one
  intro hX s Q E hk hQ
  have hl := hr.length
  have hsz : sizeLine = 16777216 := by decide
  refine PyProof.Rows.len_list (lo_isList (hk _ _ hg)) (by rw [List.size_toArray, hl]; omega) (hQ _ _ keeps_tok ?_)
  rw [List.size_toArray, hl]
  exact ⟨_, rfl⟩

theorem notDC_fields {o : Obj} {vs : Array Value} (hd : o.data = .fields vs) : NotDC o := ⟨fun _ _ e => (by rw [hd] at e; cases e), fun _ e => (by rw [hd] at e; cases e)⟩
theorem notDC_seq {o : Obj} {vs : Array Value} {n : Nat} (hd : o.data = .seq vs n) : NotDC o := ⟨fun _ _ e => (by rw [hd] at e; cases e), fun _ e => (by rw [hd] at e; cases e)⟩
/-- what a walk goes over -/
structure SrcD (prog : Program) (w : World) (X : List Addr) (items : List D) (s s' : Shared) (I : Addr) (fp wr : List Addr) (P : Nat → Value → Prop) (Sx : Nat → Heap → Prop) : Prop where
  W : ∀ A' : Around, A'.handled = none → Walks prog w A' I fp wr items.length P Sx
  st : Sx 0 s'.heap
  fpx : ∀ b ∈ fp, b ∉ X
  nd : ∀ i h, Sx i h → ∀ b ∈ fp, ∃ o, h.get? b = some o ∧ NotDC o
  new : s.heap.get? I = none
  wrI : wr = [I]
  val : ∀ i v, P i v → ∃ d, items[i]? = some d ∧ Rd X s'.heap v d
  cls : ∀ i h, Sx i h → ∃ o T vs, h.get? I = some o ∧ o.cls = .type T ∧ o.data = .fields vs ∧ (["enumerate", "zip", "dict_itemiterator", "dict_reverseitemiterator", "odict_iterator", "itertools.zip_longest", "itertools.pairwise"].contains T) = false
noncomputable def Gi (prog : Program) (w : World) (A : Around) (h : Heap) (X : List Addr) (env : Env) (iter : Expr) (items : List D) : Prop := XOk X h →
  ∀ (s : Shared) (Q : Value → Shared → Prop) (E : Value → Shared → Prop), Kp h s.heap → (∀ I fp wr P Sx s', Kps s s' → SrcD prog w X items s s' I fp wr P Sx → Q (.ref I) s') →
    wpAny (model prog w) A (eval iter env) (fun x s1 => wpAny (model prog w) A (pyIter x) Q E s1) E s

theorem new_none {s s1 : Shared} (k : Kp s.heap s1.heap) {a : Addr} (ha : s1.heap.objs.size ≤ a) : s.heap.get? a = none := by
  cases e : s.heap.get? a with
  | none => rfl
  | some o => exact absurd (Heap.lt_size (k _ _ e)) (Nat.not_lt.mpr ha)

theorem gi_list {iter : Expr} {items : List D} (he : Gv prog w A h X (eval iter env) (.lst items)) : Gi prog w A h X env iter items := fun hX s Q E hk hQ =>
  he hX s _ _ hk fun v s1 k1 r1 => by
    obtain ⟨a, vs, n, rfl, hn, hg, hr⟩ := r1
    refine wpAny_pyIter_list (lo_isList hg) (hQ _ [s1.heap.objs.size, a] [s1.heap.objs.size] (fun i v => vs.toArray[i]? = some v) (fun i h => h.IsListIter s1.heap.objs.size a i ∧ h.IsList a vs.toArray) _ (k1.tr keeps_push) ⟨fun A' hA => ?_, ?_, ?_, ?_, ?_, ?_, ?_, ?_⟩)
    · have := Walks.list (prog := prog) (w := w) hA s1.heap.objs.size a (Nat.ne_of_lt (Heap.lt_size hg)) vs.toArray
      have e2 : vs.toArray.size = items.length := by rw [List.size_toArray, hr.length]
      rw [e2] at this
      exact this
    · exact ⟨⟨_, Heap.get?_push_size _ rfl, rfl, rfl⟩, lo_isList (n := n) (Heap.get?_push_of_some _ hg)⟩
    · intro b hb
      rcases List.mem_cons.mp hb with q | q
      · subst q; exact (hX.up (hk.trans k1.kp)).off
      · rcases List.mem_cons.mp q with q | q
        · subst q; exact hn
        · cases q
    · rintro i h' ⟨⟨o, ho, hc, hd⟩, ⟨o2, ho2, hc2, n2, hd2⟩⟩ b hb
      rcases List.mem_cons.mp hb with q | q
      · subst q; exact ⟨o, ho, notDC_fields hd⟩
      · rcases List.mem_cons.mp q with q | q
        · subst q; exact ⟨o2, ho2, notDC_seq hd2⟩
        · cases q
    · exact new_none k1.kp (Nat.le_refl _)
    · rfl
    · intro i v hv
      have hv' : vs[i]? = some v := by simpa using hv
      obtain ⟨d, hd, r⟩ := hr.getV hv'
      exact ⟨d, hd, r.up kp_push⟩
    · rintro i h' ⟨⟨o, ho, hc, hd⟩, _⟩
      exact ⟨o, _, _, ho, hc, hd, by decide⟩

theorem range_small {a b : Int} (h1 : -(2 ^ 62) ≤ a) (h2 : a < 2 ^ 62) (h3 : -(2 ^ 62) ≤ b) (h4 : b < 2 ^ 62) : Builtin.Range.small a b 1 = true := by
  have e : Builtin.Range.rangeSize a b 1 = if a < b then b - a else 0 := rangeSize_one a b
  unfold Builtin.Range.small
  rw [e]
  unfold Builtin.Range.rangeFitsLong
  simp only [Bool.and_eq_true, Bool.or_eq_true, decide_eq_true_eq, beq_iff_eq]
  split
  · refine ⟨⟨⟨⟨by omega, by omega⟩, by decide⟩, by omega⟩, .inr ?_⟩
    simp only [show (1 : Int) > 0 from by decide, if_true, Bool.and_eq_true, decide_eq_true_eq]
    omega
  · exact ⟨⟨⟨⟨by omega, by omega⟩, by decide⟩, by decide⟩, .inl rfl⟩

theorem range_src {a b : Int} {r : Addr} {t u v : Tok} {s s1 : Shared} {Q : Value → Shared → Prop} {E : Value → Shared → Prop} (hX : XOk X s1.heap) (k : Kps s s1) (hr : IsRange s1.heap r a b 1 t u v)
    (hsm : Builtin.Range.small a b 1 = true)
    (hQ : ∀ I fp wr P Sx s', Kps s s' → SrcD prog w X ((List.range (b - a).toNat).map fun i => D.int (a + (i : Nat))) s s' I fp wr P Sx → Q (.ref I) s') : wpAny (model prog w) A (pyIter (.ref r)) Q E s1 := by
  have e : Builtin.Range.rangeSize a b 1 = ((b - a).toNat : Int) := by rw [rangeSize_one]; split <;> omega
  refine wpAny_pyIter_range hr hsm (hQ _ [s1.heap.objs.size] [s1.heap.objs.size] (fun i v => i < (b - a).toNat ∧ ∃ t, v = .int (a + i * 1) t) (fun i h => IsRangeIter h s1.heap.objs.size (a + (i : Nat) * 1) (((b - a).toNat : Int) - (i : Nat)) 1) _ (k.tr keeps_push) ⟨fun A' hA => ?_, ?_, ?_, ?_, ?_, ?_, ?_, ?_⟩)
  · have W := Walks.range (prog := prog) (w := w) hA s1.heap.objs.size a 1 (b - a).toNat
    rw [List.length_map, List.length_range]
    exact ⟨W.sub, W.frame, fun i s Q E hi st hQ => W.item i s Q E hi st fun v h' tk hp => hQ v h' tk ⟨hi, hp⟩, W.done, W.self⟩
  · have : IsRangeIter (s1.heap.push { cls := .type "range_iterator", data := .fields #[rawInt a, rawInt (Builtin.Range.rangeSize a b 1), rawInt 1] }) s1.heap.objs.size a (Builtin.Range.rangeSize a b 1) 1 := Heap.get?_push_size _ rfl
    rw [e] at this ⊢
    simpa using this
  · intro b hb
    rcases List.mem_cons.mp hb with q | q
    · subst q; exact hX.off
    · cases q
  · rintro i h' hs b hb
    rcases List.mem_cons.mp hb with q | q
    · subst q; exact ⟨_, hs, notDC_fields rfl⟩
    · cases q
  · exact new_none k.kp (Nat.le_refl _)
  · rfl
  · rintro i v ⟨hi, t, rfl⟩
    exact ⟨.int (a + i), by rw [List.getElem?_map, List.getElem?_range hi]; rfl, t, by rw [Int.mul_one]⟩
  · rintro i h' hs
    exact ⟨_, _, _, hs, rfl, rfl, by decide⟩

theorem gi_range1 {f : Str} {np pos : Pos} {e : Expr} {b : Int} (eo : EnvOk env) (hx : env.kindOf f = some .globalImplicit) (g : Gl mg mb h) (hm : mg f = none) (hf : mb f = some (.type "range"))
    (he : Gv prog w A h X (eval e env) (.int b)) (h3 : -(2 ^ 62) ≤ b) (h4 : b < 2 ^ 62)
    (hs : starEach [e] env = (false, eval e env) :: starEach [] env := by rfl) (hdb : (f == ("__debug__" : Str)) = false := by decide) :
    Gi prog w A h X env (.Call (.Name f np) [e] [] pos) ((List.range b.toNat).map fun i => D.int (i : Nat)) := fun hX s Q E hk hQ => by
  refine wpAny_bind (wp_bltn eo hx (g.up hk) hm hf (PySem.callWith_type (by rw [hs]; rfl) (wp_args hX hk (gs_cons he gs_nil hs) (fun vs s1 k1 r1 => ?_) hs)) hdb)
  obtain ⟨v, rfl, t, rfl⟩ := r1.one
  · refine call_range_1 (range_src (a := 0) (b := b) (r := s1.heap.objs.size) (s := s) (((hX.up hk).up k1.kp).up kp_push) (k1.tr (keeps_heap kp_push)) (IsRange.new ..) (range_small (by omega) (by omega) h3 h4) ?_)
    intro I fp wr P Sx s' k' S
    refine hQ I fp wr P Sx s' k' ?_
    simpa using S
theorem gi_range2 {f : Str} {np pos : Pos} {e1 e2 : Expr} {a b : Int} (eo : EnvOk env) (hx : env.kindOf f = some .globalImplicit) (g : Gl mg mb h) (hm : mg f = none) (hf : mb f = some (.type "range"))
    (he1 : Gv prog w A h X (eval e1 env) (.int a)) (he2 : Gv prog w A h X (eval e2 env) (.int b)) (h1 : -(2 ^ 62) ≤ a) (h2 : a < 2 ^ 62) (h3 : -(2 ^ 62) ≤ b) (h4 : b < 2 ^ 62)
    (hs : starEach [e1, e2] env = (false, eval e1 env) :: starEach [e2] env := by rfl) (hs2 : starEach [e2] env = (false, eval e2 env) :: starEach [] env := by rfl) (hdb : (f == ("__debug__" : Str)) = false := by decide) :
    Gi prog w A h X env (.Call (.Name f np) [e1, e2] [] pos) ((List.range (b - a).toNat).map fun i => D.int (a + (i : Nat))) := fun hX s Q E hk hQ => by
  refine wpAny_bind (wp_bltn eo hx (g.up hk) hm hf (PySem.callWith_type (by rw [hs, hs2]; rfl) (wp_args hX hk (gs_cons he1 (gs_cons he2 gs_nil hs2) hs) (fun vs s1 k1 r1 => ?_) hs)) hdb)
  obtain ⟨v, v2, rfl, ⟨t, rfl⟩, ⟨u, rfl⟩⟩ := r1.two
  · exact call_range_2 (range_src (a := a) (b := b) (r := s1.heap.objs.size) (s := s) (((hX.up hk).up k1.kp).up kp_push) (k1.tr (keeps_heap kp_push)) (IsRange.new ..) (range_small h1 h2 h3 h4) hQ)

theorem gi_str {iter : Expr} {x : Str} (he : Gv prog w A h X (eval iter env) (.str x)) : Gi prog w A h X env iter (x.cps.toList.map fun c => D.str ⟨#[c]⟩) := fun hX s Q E hk hQ =>
  he hX s _ _ hk fun v s1 k1 r1 => by
    obtain ⟨t, rfl⟩ := r1
    cases ha : x.cps.all (· < 128)
    · refine wpAny_pyIter_wide ha (hQ _ [s1.heap.objs.size] [s1.heap.objs.size] (SignAt x) (fun i h => h.IsStrIter s1.heap.objs.size "str_iterator" x t i) _ (k1.tr keeps_push) ⟨fun A' hA => ?_, ⟨_, Heap.get?_push_size _ rfl, rfl, rfl⟩, ?_, ?_, ?_, ?_, ?_, ?_⟩)
      · have := Walks.strWide (prog := prog) (w := w) hA s1.heap.objs.size x t
        rw [List.length_map, Array.length_toList]
        exact this
      · intro b hb
        rcases List.mem_cons.mp hb with q | q
        · subst q; exact (hX.up (hk.trans k1.kp)).off
        · cases q
      · rintro i h' ⟨o, ho, hc, hd⟩ b hb
        rcases List.mem_cons.mp hb with q | q
        · subst q; exact ⟨o, ho, notDC_fields hd⟩
        · cases q
      · exact new_none k1.kp (Nat.le_refl _)
      · rfl
      · rintro i v ⟨c, u, hc, rfl⟩
        exact ⟨.str ⟨#[c]⟩, by rw [List.getElem?_map, Array.getElem?_toList, hc]; rfl, u, rfl⟩
      · rintro i h' ⟨o, ho, hc, hd⟩
        exact ⟨o, _, _, ho, hc, hd, by decide⟩
    · refine wpAny_pyIter_ascii ha (hQ _ [s1.heap.objs.size] [s1.heap.objs.size] (SignAt x) (fun i h => h.IsStrIter s1.heap.objs.size "str_ascii_iterator" x t i) _ (k1.tr keeps_push) ⟨fun A' hA => ?_, ⟨_, Heap.get?_push_size _ rfl, rfl, rfl⟩, ?_, ?_, ?_, ?_, ?_, ?_⟩)
      · have := Walks.strAscii (prog := prog) (w := w) hA s1.heap.objs.size x t
        rw [List.length_map, Array.length_toList]
        exact this
      · intro b hb
        rcases List.mem_cons.mp hb with q | q
        · subst q; exact (hX.up (hk.trans k1.kp)).off
        · cases q
      · rintro i h' ⟨o, ho, hc, hd⟩ b hb
        rcases List.mem_cons.mp hb with q | q
        · subst q; exact ⟨o, ho, notDC_fields hd⟩
        · cases q
      · exact new_none k1.kp (Nat.le_refl _)
      · rfl
      · rintro i v ⟨c, u, hc, rfl⟩
        exact ⟨.str ⟨#[c]⟩, by rw [List.getElem?_map, Array.getElem?_toList, hc]; rfl, u, rfl⟩
      · rintro i h' ⟨o, ho, hc, hd⟩
        exact ⟨o, _, _, ho, hc, hd, by decide⟩
end
end Mine
end
section
open PySem PySem.W PyProof.Rows
namespace Mine

noncomputable def IterOk (I : Addr) (h : Heap) : Prop := ∃ o T vs, h.get? I = some o ∧ o.cls = .type T ∧ o.data = .fields vs ∧ (["enumerate", "zip", "dict_itemiterator", "dict_reverseitemiterator", "odict_iterator", "itertools.zip_longest", "itertools.pairwise"].contains T) = false

section
variable {prog : Program} {w : World} {A : Around} {env : Env} {h hb : Heap} {X : List Addr} {mg mb : Str → Option Value} {σ : Sg} {s s0 : Shared}

theorem St.walk (q : St s0 hb env X σ s) {I : Addr} {h' : Heap} {tk : Nat} (hI : ∃ o vs, s.heap.get? I = some o ∧ o.data = .fields vs) (hbI : hb.get? I = none) (hIX : I ∉ X ∨ ∃ o, h'.get? I = some o)
    (hk : ∀ b o, b ≠ I → s.heap.get? b = some o → h'.get? b = some o) (hni : ∀ x I' l i ns, σ x = some (.iter I' l i ns) → I' ≠ I) : St s0 hb env X σ { s with heap := h', toks := tk } := by
  obtain ⟨oI, fs, hoI, hdI⟩ := hI
  have ns_ne : ∀ {a : Addr} {m : Str → Option Value}, s.heap.Ns a m → a ≠ I := by
    rintro a m ⟨o, es, ep, ho, hd, _⟩ rfl
    rw [hoI] at ho; cases ho; rw [hdI] at hd; cases hd
  have cell_ne : ∀ {a : Addr} {v : Option Value}, s.heap.IsCell a v → a ≠ I := by
    rintro a v ⟨o, ho, hd⟩ rfl
    rw [hoI] at ho; cases ho; rw [hdI] at hd; cases hd
  have ns_up : ∀ {a : Addr} {m : Str → Option Value}, s.heap.Ns a m → h'.Ns a m := fun n => n.at' fun o e => hk _ o (ns_ne n) e
  have cell_up : ∀ {a : Addr} {v : Option Value}, s.heap.IsCell a v → h'.IsCell a v := fun c => let ⟨o, ho, hd⟩ := c; ⟨o, hk _ o (cell_ne c) ho, hd⟩
  have seq_up : ∀ b o, b ∉ X → IsSeqO o → s.heap.get? b = some o → h'.get? b = some o := fun b o _ hq e => hk b o (by
    rintro rfl
    rw [hoI] at e; cases e
    obtain ⟨_, _, hq⟩ := hq
    rw [hdI] at hq; cases hq) e
  refine ⟨fun b o e => hk b o (by rintro rfl; rw [hbI] at e; cases e) (q.kp b o e), let ⟨m, n⟩ := q.nst; ⟨m, ns_up n⟩, fun n c e => let ⟨v, hv⟩ := q.cells n c e; ⟨v, cell_up hv⟩, fun x sl e => ?_, fun b hb => ?_, q.od, q.ob, q.rest, q.ib, q.oi⟩
  · obtain ⟨v, a, r⟩ := q.var x sl e
    refine ⟨v, ?_, ?_⟩
    · rcases a with ⟨k, m, hn, hm⟩ | ⟨k, c, hc, hv⟩
      · exact .inl ⟨k, m, ns_up hn, hm⟩
      · exact .inr ⟨k, c, hc, cell_up hv⟩
    · cases sl with
      | d d => exact Rd.go (fun _ x => x) seq_up d r
      | own a ds =>
        obtain ⟨e, ha, vs, n, hg, hr⟩ := r
        exact ⟨e, ha, vs, n, hk _ _ (fun ei => by subst ei; rw [hoI] at hg; cases hg; cases hdI) hg, Rds.go (fun _ x => x) seq_up ds hr⟩
      | val v0 => exact r
      | iter I' l i ns =>
        obtain ⟨e', hi, hl, vs, n, hg, hr⟩ := r
        exact ⟨e', hi.at fun o eo => hk _ o (hni x I' l i ns e) eo, hl, vs, n, seq_up l _ hl ⟨_, _, rfl⟩ hg, Rds.go (fun _ x => x) seq_up _ hr⟩
  · obtain ⟨o, ho⟩ := q.xok b hb
    by_cases ei : b = I
    · subst ei
      rcases hIX with h1 | h1
      · exact absurd hb h1
      · exact h1
    · exact ⟨o, hk b o ei ho⟩

/-- lists and tuples off X stay -/
noncomputable def KS (X : List Addr) (h h' : Heap) : Prop := ∀ b o, b ∉ X → IsSeqO o → h.get? b = some o → h'.get? b = some o
theorem isSeq_notDC {o : Obj} (q : IsSeqO o) : NotDC o := let ⟨_, _, e⟩ := q; notDC_seq e

theorem st_for {target iter : Expr} {body rest : List Stmt} {pos : Pos} {items : List D} {τ : Nat → Sg} {τ1 : Nat → D → Sg} {O : List Addr} {Rt : D → Prop} {Q : Flow → Shared → Prop} {E : Value → Shared → Prop}
    (hA : A.handled = none) (f : Fm hb env) (q : St s0 hb env X (τ 0) s) (hO : ∀ i x a ds, τ i x = some (.own a ds) → a ∈ O) (hOX : ∀ a ∈ O, a ∈ X) (hNI : ∀ i x I l k ns, τ i x ≠ some (.iter I l k ns))
    (hi : Gi prog w A s.heap X env iter items)
    (hasg : ∀ (hb' : Heap) (i : Nat) (d : D) (v : Value) (s : Shared) (I : Addr) (E' : Value → Shared → Prop), Reb hb hb' env → items[i]? = some d → St s0 hb' env X (τ i) s → Rd X s.heap v d → IterOk I s.heap →
      wpAny (model prog w) A (letOwnedTupleGo target (.ref I) v) (fun _ s1 => wpAny (model prog w) A (assign target env v) (fun _ s' => St s0 hb' env X (τ1 i d) s') E' s1) E' s)
    (hbody : ∀ (hb' : Heap) (i : Nat) (d : D) (s : Shared) (E' : Value → Shared → Prop), Reb hb hb' env → items[i]? = some d → St s0 hb' env X (τ1 i d) s →
      wpAny (model prog w) A (execs body env) (fun fl s' => match fl with
        | .next | .cont => St s0 hb' env X (τ (i + 1)) s'
        | .brk => False
        | .ret v => ∃ d, Rt d ∧ Rd X s'.heap v d ∧ Kp hb' s'.heap ∧ SR s0 s') E' s)
    (hn : ∀ s', St s0 hb env X (τ items.length) s' → wpAny (model prog w) A (execs rest env) Q E s')
    (hr : ∀ v d s', Rt d → Rd X s'.heap v d → Kp hb s'.heap → SR s0 s' → Q (.ret v) s')
    (hs : ∀ x, foldedSetIterable iter env x = pure x := by intro _; rfl) :
    wpAny (model prog w) A (execs (.For target iter body [] pos :: rest) env) Q E s := by
  refine wpAny_execs_cons (wpAny_For (hi q.xok s _ _ Kp.refl fun I fp wr P Sx s₂ k₂ S => ?_) hs)
  have q₂ := q.up k₂
  have hbI : hb.get? I = none := by
    cases e : hb.get? I with
    | none => rfl
    | some o => rw [← q.kp _ _ e, S.new]
  have W := S.W A hA
  have fpI : I ∉ X := by
    obtain ⟨o, T, vs, ho, _⟩ := S.cls 0 _ S.st
    intro hm
    obtain ⟨o', ho'⟩ := q.xok I hm
    rw [S.new] at ho'; cases ho'
  refine codeAny_forLoop_any (fun k s' => ∃ i, i ≤ items.length ∧ k = items.length + 1 - i ∧ Sx i s'.heap ∧ St s0 hb env X (τ i) s' ∧ KS X s₂.heap s'.heap) ?_ (items.length + 1)
    ⟨0, Nat.zero_le _, rfl, S.st, q₂, fun _ _ _ _ e => e⟩
  rintro k s' ⟨i, hle, rfl, hst, q', ks⟩
  obtain ⟨oI, T, fs, hoI, hcI, hdI, hTI⟩ := S.cls i _ hst
  have ksI : ∀ {h' : Heap}, (∀ b o, b ∉ wr → s'.heap.get? b = some o → h'.get? b = some o) → ∀ b o, b ≠ I → s'.heap.get? b = some o → h'.get? b = some o := fun hk b o hb e => hk b o (by rw [S.wrI]; simpa using hb) e
  rcases Nat.lt_or_ge i items.length with hlt | hge
  · refine W.item i s' _ _ hlt hst fun v h' tk hP hst' hk => ?_
    have q1 := q'.walk (tk := tk) ⟨oI, fs, hoI, hdI⟩ hbI (.inl fpI) (ksI hk) (fun x I' l k ns e => absurd e (hNI i x I' l k ns))
    have ks1 : KS X s₂.heap h' := fun b o hX hq e => ksI hk b o (by
      rintro rfl
      have := ks _ o hX hq e
      rw [hoI] at this; cases this
      obtain ⟨_, _, hq⟩ := hq
      rw [hdI] at hq; cases hq) (ks b o hX hq e)
    obtain ⟨hb', R, q2, hin⟩ := q1.rebase f O (hO i) (fun x I' l k ns e => absurd e (hNI i x I' l k ns))
    obtain ⟨d, hd, rd⟩ := S.val i v hP
    have hfp : ∀ b ∈ fp, ∀ o, h'.get? b = some o → hb'.get? b = some o := fun b hb o e => by
      obtain ⟨o', e', nd⟩ := S.nd (i + 1) h' hst' b hb
      rw [e] at e'; cases e'
      exact hin b o e (fun hm => S.fpx b hb (hOX b hm)) nd
    refine wpAny_mono (hasg hb' i d v _ I (notedBy (model prog w) A env fun e s' => match (Except.error e : Result) with | .ok f => (match f with | .next => wpAny (model prog w) A (execs rest env) Q E s' | f => Q f s') | .error e => cameBackBy (model prog w) A env E e s') R hd q2 (Rd.go (fun _ x => x) ks1 d rd) (S.cls (i + 1) h' hst')) (fun _ s1 h1 => ?_) fun _ _ e => e
    refine wpAny_mono h1 (fun _ s1' q3 => ?_) fun _ _ e => e
    refine wpAny_mono (hbody hb' i d s1' _ R hd q3) (fun fl s4 h4 => ?_) fun _ _ e => e
    have next : St s0 hb' env X (τ (i + 1)) s4 → ∃ m, m < items.length + 1 - i ∧ ∃ i, i ≤ items.length ∧ m = items.length + 1 - i ∧ Sx i s4.heap ∧ St s0 hb env X (τ i) s4 ∧ KS X s₂.heap s4.heap := fun q4 =>
      ⟨items.length + 1 - (i + 1), by omega, i + 1, hlt, rfl, W.frame _ _ _ hst' fun b hb o e => q4.kp b o (hfp b hb o e), q4.base R.kp, fun b o hX hq e => q4.kp b o (hin b o (ks1 b o hX hq e) (fun hm => hX (hOX b hm)) (isSeq_notDC hq))⟩
    cases fl with
    | next => exact next h4
    | cont => exact next h4
    | brk => exact h4.elim
    | ret v => obtain ⟨d', h1, h2, h3, h5⟩ := h4; exact hr v d' s4 h1 h2 (R.kp.trans h3) h5
  · have hin : i = items.length := Nat.le_antisymm hle hge
    subst hin
    refine W.done s' _ _ hst fun h' tk hk => ?_
    exact wpAny_execs_nil (hn _ (q'.walk (tk := tk) ⟨oI, fs, hoI, hdI⟩ hbI (.inl fpI) (ksI hk) (fun x I' l k ns e => absurd e (hNI _ x I' l k ns))))

theorem asg_name {x : Str} {px : Pos} {v : Value} {d : D} {I : Value} {E' : Value → Shared → Prop} (f : Fm hb env) (hx : Sto hb env x) (q : St s0 hb env X σ s) (r : Rd X s.heap v d) :
    wpAny (model prog w) A (letOwnedTupleGo (.Name x px) I v) (fun _ s1 => wpAny (model prog w) A (assign (.Name x px) env v) (fun _ s' => St s0 hb env X (upd σ x (.d d)) s') E' s1) E' s :=
  wpAny_pure (wpAny_assign_Name (st_store_d f q hx r fun _ q' => q'))

-- statements
theorem st_assign {x : Str} {px pos : Pos} {e : Expr} {rest : List Stmt} {d : D} {Q : Flow → Shared → Prop} {E : Value → Shared → Prop} (f : Fm hb env) (q : St s0 hb env X σ s) (hx : Sto hb env x) (he : Gv prog w A s.heap X (eval e env) d)
    (hn : ∀ s', St s0 hb env X (upd σ x (.d d)) s' → wpAny (model prog w) A (execs rest env) Q E s') (hs : swapsWith e (some (.Name x px)) pos.line env = pure false := by rfl) :
    wpAny (model prog w) A (execs (.Assign [.Name x px] e pos :: rest) env) Q E s :=
  wpAny_execs_cons (PySem.wpAny_Assign_Name (he q.xok s _ _ Kp.refl fun v s1 k1 r1 => st_store_d f (q.up k1) hx r1 fun s2 q2 => hn s2 q2) hs)
noncomputable def Flat : D → Prop
  | .tup _ => False
  | .lst _ => False
  | _ => True
theorem Rd.flat {Y : List Addr} {v : Value} : ∀ {d : D}, Flat d → Rd Y h v d → Rd X h v d
  | .none, _, r => r
  | .bool _, _, r => r
  | .int _, _, r => r
  | .str _, _, r => r
/-- a flat value, read by the owned lists too -/
theorem st_assign0 {x : Str} {px pos : Pos} {e : Expr} {rest : List Stmt} {d : D} {Q : Flow → Shared → Prop} {E : Value → Shared → Prop} (f : Fm hb env) (q : St s0 hb env X σ s) (hx : Sto hb env x) (he : Gv prog w A s.heap [] (eval e env) d) (hf : Flat d)
    (hn : ∀ s', St s0 hb env X (upd σ x (.d d)) s' → wpAny (model prog w) A (execs rest env) Q E s') (hs : swapsWith e (some (.Name x px)) pos.line env = pure false := by rfl) :
    wpAny (model prog w) A (execs (.Assign [.Name x px] e pos :: rest) env) Q E s :=
  wpAny_execs_cons (PySem.wpAny_Assign_Name (he XOk.nil s _ _ Kp.refl fun v s1 k1 r1 => st_store_d f (q.up k1) hx (Rd.flat hf r1) fun s2 q2 => hn s2 q2) hs)
theorem st_aug {x : Str} {px pos : Pos} {op : Operator} {e : Expr} {rest : List Stmt} {d1 d2 d : D} {Q : Flow → Shared → Prop} {E : Value → Shared → Prop} (f : Fm hb env) (q : St s0 hb env X σ s) (hx : Sto hb env x) (hd : σ x = some (.d d1))
    (he : Gv prog w A s.heap X (eval e env) d2) (ho : InpD prog w A X op d1 d2 d) (hn : ∀ s', St s0 hb env X (upd σ x (.d d)) s' → wpAny (model prog w) A (execs rest env) Q E s') (hdb : (x == ("__debug__" : Str)) = false := by decide) :
    wpAny (model prog w) A (execs (.AugAssign (.Name x px) op e pos :: rest) env) Q E s := by
  refine wpAny_execs_cons (PySem.wpAny_AugAssign_Name ?_)
  have hl := ev_name (prog := prog) (w := w) (A := A) (pos := px) f.eo (q.vd hd) hdb
  have he' : eval (.Name x px) env = (do standAt px; loadName env x) := eval_Name env x px hdb
  obtain ⟨v, a, r⟩ := q.vd hd
  have load : ∀ {Q' : Value → Shared → Prop} {E' : Value → Shared → Prop}, Q' v s → wpAny (model prog w) A (loadName env x) Q' E' s := fun h => by
    rcases a with ⟨hl, m, hn, hm⟩ | ⟨hl, c, hc, hv⟩
    · exact wpAny_loadName_local f.eo.kind hl hn hm h
    · rcases hl with hl | ⟨hl, hn⟩
      · exact wpAny_loadName_cell f.eo.kind hl hc hv h
      · exact wpAny_loadName_free f.eo.kind hl hc hv h hn
  exact load (he q.xok s _ _ Kp.refl fun v2 s1 k1 r1 => ho s1.heap v v2 (r.up k1.kp) r1 (q.xok.up k1.kp) s1 _ _ Kp.refl fun v3 s2 k2 r2 => st_store_d f (q.up (k1.tr k2)) hx r2 fun s3 q3 => hn s3 q3)
theorem st_if {t : Expr} {body orelse rest : List Stmt} {pos : Pos} {c : Bool} {Q : Flow → Shared → Prop} {E : Value → Shared → Prop} {Y : List Addr} (q : St s0 hb env X σ s) (hY : XOk Y s.heap) (ht : Gb prog w A s.heap Y (isTrue t env (eval t env)) c)
    (h1 : c = true → ∀ s', St s0 hb env X σ s' → wpAny (model prog w) A (execs body env) (fun fl s2 => match fl with | .next => wpAny (model prog w) A (execs rest env) Q E s2 | fl => Q fl s2) E s')
    (h2 : c = false → ∀ s', St s0 hb env X σ s' → wpAny (model prog w) A (execs orelse env) (fun fl s2 => match fl with | .next => wpAny (model prog w) A (execs rest env) Q E s2 | fl => Q fl s2) E s') :
    wpAny (model prog w) A (execs (.If t body orelse pos :: rest) env) Q E s :=
  wpAny_execs_cons (PySem.wpAny_If (ht hY s _ _ Kp.refl fun s1 k1 => by
    cases c with
    | true => exact h1 rfl s1 (q.up k1)
    | false => exact h2 rfl s1 (q.up k1)))
theorem st_ret {e : Expr} {rest : List Stmt} {pos : Pos} {d : D} {Q : Flow → Shared → Prop} {E : Value → Shared → Prop} (q : St s0 hb env X σ s) (he : Gv prog w A s.heap X (eval e env) d)
    (hQ : ∀ v s', Kps s s' → Rd X s'.heap v d → Q (.ret v) s') : wpAny (model prog w) A (execs (.Return (some e) pos :: rest) env) Q E s :=
  wpAny_execs_cons (PySem.wpAny_Return_some (he q.xok s _ _ Kp.refl fun v s1 k1 r1 => hQ v s1 k1 r1))
theorem st_ret0 {e : Expr} {rest : List Stmt} {pos : Pos} {d : D} {Q : Flow → Shared → Prop} {E : Value → Shared → Prop} (q : St s0 hb env X σ s) (he : Gv prog w A s.heap [] (eval e env) d) (hf : Flat d)
    (hQ : ∀ v s', Kps s s' → Rd X s'.heap v d → Q (.ret v) s') : wpAny (model prog w) A (execs (.Return (some e) pos :: rest) env) Q E s :=
  wpAny_execs_cons (PySem.wpAny_Return_some (he XOk.nil s _ _ Kp.refl fun v s1 k1 r1 => hQ v s1 k1 (Rd.flat hf r1)))
theorem st_end {Q : Flow → Shared → Prop} {E : Value → Shared → Prop} (h : Q .next s) : wpAny (model prog w) A (execs [] env) Q E s := wpAny_execs_nil h

/-- a while: the state by an index, falling by a measure -/
theorem st_while {ι : Type} {t : Expr} {body rest : List Stmt} {pos : Pos} (τ : ι → Sg) (c : ι → Bool) (mu : ι → Nat) {i0 : ι} {Y : ι → List Addr} {Q : Flow → Shared → Prop} {E : Value → Shared → Prop} (q : St s0 hb env X (τ i0) s)
    (ht : ∀ i s', St s0 hb env X (τ i) s' → XOk (Y i) s'.heap ∧ Gb prog w A s'.heap (Y i) (isTrue t env (eval t env)) (c i))
    (hbody : ∀ i s' E', c i = true → St s0 hb env X (τ i) s' → wpAny (model prog w) A (execs body env) (fun fl s2 => match fl with | .next | .cont => ∃ j, mu j < mu i ∧ St s0 hb env X (τ j) s2 | _ => False) E' s')
    (hn : ∀ i s', c i = false → St s0 hb env X (τ i) s' → wpAny (model prog w) A (execs rest env) Q E s') :
    wpAny (model prog w) A (execs (.While t body [] pos :: rest) env) Q E s := by
  refine wpAny_execs_cons (PySem.wpAny_While (codeAny_whileLoop (fun k s' => ∃ i, mu i = k ∧ St s0 hb env X (τ i) s') ?_ (mu i0) ⟨i0, rfl, q⟩))
  rintro k s' ⟨i, rfl, q'⟩
  obtain ⟨hY, hg⟩ := ht i s' q'
  refine hg hY s' _ _ Kp.refl fun s1 k1 => ?_
  cases hc : c i with
  | true =>
    simp only [if_true]
    refine wpAny_mono (hbody i s1 _ hc (q'.up k1)) (fun fl s2 h2 => ?_) fun _ _ e => e
    cases fl with
    | next => obtain ⟨j, hj, qj⟩ := h2; exact ⟨mu j, hj, j, rfl, qj⟩
    | cont => obtain ⟨j, hj, qj⟩ := h2; exact ⟨mu j, hj, j, rfl, qj⟩
    | brk => exact h2.elim
    | ret v => exact h2.elim
  | false =>
    simp only [Bool.false_eq_true, if_false]
    exact wpAny_execs_nil (hn i s1 hc (q'.up k1))
end
end Mine
end
section
open PySem PySem.W PyProof.Rows
namespace Mine

theorem cellsFrom_app : ∀ (names : List (Str × NameKind)) (n : Nat) (acc : List (Str × Addr)), cellsFrom n names acc = cellsFrom n names [] ++ acc
  | [], _, _ => rfl
  | (x, k) :: r, n, acc => by
    unfold cellsFrom
    split
    · rw [cellsFrom_app r (n + 1) ((x, n) :: acc), cellsFrom_app r (n + 1) [(x, n)], List.append_assoc]; rfl
    · exact cellsFrom_app r n acc
theorem own_mem : ∀ (names : List (Str × NameKind)) (n : Nat) {x : Str} {c : Addr}, (x, c) ∈ cellsFrom n names [] → (x, NameKind.cell) ∈ names
  | (y, k) :: r, n, x, c, hm => by
    unfold cellsFrom at hm
    split at hm
    · rename_i hk
      rw [cellsFrom_app] at hm
      rcases List.mem_append.mp hm with h1 | h1
      · exact List.mem_cons_of_mem _ (own_mem r _ h1)
      · simp at h1
        rw [h1.1, ← eq_of_beq hk]; exact List.mem_cons_self
    · exact List.mem_cons_of_mem _ (own_mem r _ hm)
theorem own_look : ∀ (names : List (Str × NameKind)) (n : Nat) {x : Str}, (x, NameKind.cell) ∈ names → ∃ c, (cellsFrom n names []).lookup x = some c
  | (y, k) :: r, n, x, hm => by
    unfold cellsFrom
    rcases List.mem_cons.mp hm with e | hm
    · cases e
      simp only [beq_self_eq_true, if_true]
      rw [cellsFrom_app, List.lookup_append]
      cases (cellsFrom (n + 1) r []).lookup y with
      | some c => exact ⟨c, rfl⟩
      | none => exact ⟨n, by simp⟩
    · split
      · rw [cellsFrom_app, List.lookup_append]
        obtain ⟨c, hc⟩ := own_look r (n + 1) hm
        exact ⟨c, by rw [hc]; rfl⟩
      · exact own_look r n hm

noncomputable def closOf (look : Str → Option Addr) : List (Str × NameKind) → List (Str × Addr) → List (Str × Addr)
  | [], acc => acc
  | (n, k) :: r, acc => if k == .free then closOf look r ((n, (look n).getD 0) :: acc) else closOf look r acc
theorem closureFor_eq {scope : Scope} {env : Env} (hl : ∀ x ∈ scope.names, x.2 = .free → ∃ c, env.cells.lookup x.1 = some c) : closureFor scope env = pure (closOf (fun n => env.cells.lookup n) scope.names []) := by
  unfold closureFor
  have key : ∀ (names : List (Str × NameKind)) (acc : List (Str × Addr)), (∀ x ∈ names, x.2 = .free → ∃ c, env.cells.lookup x.1 = some c) →
      (forIn names acc fun (x : Str × NameKind) cs => (do
        if x.2 == .free then
          let c ← cellOf env x.1
          pure (ForInStep.yield ((x.1, c) :: cs))
        else pure (ForInStep.yield cs) : Sem (ForInStep (List (Str × Addr))))) = pure (closOf (fun n => env.cells.lookup n) names acc) := by
    intro names
    induction names with
    | nil => intro acc _; rfl
    | cons y r ih =>
      intro acc h
      obtain ⟨n, k⟩ := y
      rw [List.forIn_cons]
      dsimp only
      unfold closOf
      by_cases hk : (k == NameKind.free) = true
      · rw [if_pos hk, if_pos hk]
        obtain ⟨c, hc⟩ := h (n, k) List.mem_cons_self (eq_of_beq hk)
        have : cellOf env n = pure c := by unfold cellOf; rw [hc]
        rw [this, hc]
        exact ih _ fun x hx => h x (List.mem_cons_of_mem _ hx)
      · rw [if_neg hk, if_neg hk]
        exact ih _ fun x hx => h x (List.mem_cons_of_mem _ hx)
  have := key scope.names [] hl
  exact Eq.trans (congrArg (fun t : Sem (List (Str × Addr)) => t >>= fun cs => (pure cs : Sem (List (Str × Addr))) >>= fun r => pure r) this) rfl
theorem clos_mem {look : Str → Option Addr} : ∀ (names : List (Str × NameKind)) (acc : List (Str × Addr)) {x : Str} {c : Addr}, (x, c) ∈ closOf look names acc → (x, c) ∈ acc ∨ ((x, NameKind.free) ∈ names ∧ c = (look x).getD 0)
  | [], _, _, _, hm => .inl hm
  | (n, k) :: r, acc, x, c, hm => by
    unfold closOf at hm
    split at hm
    · rename_i hk
      rcases clos_mem r _ hm with h1 | ⟨h1, h2⟩
      · rcases List.mem_cons.mp h1 with e | h1
        · cases e; exact .inr ⟨by rw [eq_of_beq hk]; exact List.mem_cons_self, rfl⟩
        · exact .inl h1
      · exact .inr ⟨List.mem_cons_of_mem _ h1, h2⟩
    · rcases clos_mem r _ hm with h1 | ⟨h1, h2⟩
      · exact .inl h1
      · exact .inr ⟨List.mem_cons_of_mem _ h1, h2⟩
theorem clos_in {look : Str → Option Addr} : ∀ (names : List (Str × NameKind)) (acc : List (Str × Addr)) {x : Str}, ((x, NameKind.free) ∈ names ∨ ∃ c, (x, c) ∈ acc) → ∃ c, (x, c) ∈ closOf look names acc
  | [], _, _, h => by
    rcases h with h | h
    · cases h
    · exact h
  | (n, k) :: r, acc, x, h => by
    unfold closOf
    split
    · refine clos_in r _ ?_
      rcases h with h | ⟨c, h⟩
      · rcases List.mem_cons.mp h with e | h
        · cases e; exact .inr ⟨_, List.mem_cons_self⟩
        · exact .inl h
      · exact .inr ⟨c, List.mem_cons_of_mem _ h⟩
    · rename_i hk
      refine clos_in r _ ?_
      rcases h with h | ⟨c, h⟩
      · rcases List.mem_cons.mp h with e | h
        · cases e; exact absurd rfl hk
        · exact .inl h
      · exact .inr ⟨c, h⟩
theorem lookup_of_mem {α : Type} : ∀ {l : List (Str × α)} {x : Str} {c : α}, (x, c) ∈ l → ∃ c', l.lookup x = some c'
  | (y, d) :: r, x, c, hm => by
    rw [List.lookup_cons]
    cases hb : x == y with
    | true => exact ⟨d, rfl⟩
    | false =>
      rcases List.mem_cons.mp hm with e | hm
      · cases e; simp at hb
      · exact lookup_of_mem hm
end Mine
end
section
open PySem PySem.W PyProof.Rows
namespace Mine

section
variable {prog : Program} {w : World} {A : Around} {env : Env} {h hb : Heap} {X : List Addr} {mg mb : Str → Option Value} {σ : Sg} {s s0 : Shared}

theorem St.other (q : St s0 hb env X σ s) {C : Addr} {h' : Heap} {tk : Nat} (hs : Heap.SameBut C s.heap h') (hC : C ≠ env.locals) (hcell : ∀ n, env.cells.lookup n ≠ some C) (hCo : ∀ x a ds, σ x = some (.own a ds) → a ≠ C)
    (hbC : hb.get? C = none) (hseq : C ∈ X ∨ ∃ o, s.heap.get? C = some o ∧ ¬ IsSeqO o) (hex : C ∈ X → ∃ o, h'.get? C = some o) (hCi : ∀ x I l i ns, σ x = some (.iter I l i ns) → I ≠ C) : St s0 hb env X σ { s with heap := h', toks := tk } := by
  refine ⟨fun b o e => hs.extBut b o (by rintro rfl; rw [hbC] at e; cases e) (q.kp b o e), let ⟨m, n⟩ := q.nst; ⟨m, n.sameBut hs hC.symm⟩,
    fun n c e => let ⟨v, hv⟩ := q.cells n c e; ⟨v, hv.sameBut hs (fun ec => hcell n (ec ▸ e))⟩, fun x sl e => ?_, (fun b hbX => by
      by_cases e : b = C
      · subst e; exact hex hbX
      · obtain ⟨o, ho⟩ := q.xok b hbX
        exact ⟨o, hs.extBut b o e ho⟩), q.od, q.ob, q.rest, q.ib, q.oi⟩
  obtain ⟨v, a, r⟩ := q.var x sl e
  refine ⟨v, ?_, ?_⟩
  · rcases a with ⟨k, m, hn, hm⟩ | ⟨k, c, hc, hv⟩
    · exact .inl ⟨k, m, hn.sameBut hs hC.symm, hm⟩
    · exact .inr ⟨k, c, hc, hv.sameBut hs fun ec => hcell x (ec ▸ hc)⟩
  · cases sl with
    | d d => exact Rd.same r hs hseq
    | own a ds =>
      obtain ⟨e', ha, vs, n, hg, hr⟩ := r
      exact ⟨e', ha, vs, n, hs.extBut _ _ (hCo x a ds e) hg, hr.same hs hseq⟩
    | val v0 => exact r
    | iter I l i ns =>
      obtain ⟨e', hi, hl, vs, n, hg, hr⟩ := r
      refine ⟨e', hi.at fun o eo => hs.extBut _ o (hCi x I l i ns e) eo, hl, vs, n, hs.extBut l _ (fun ec => ?_) hg, hr.same hs hseq⟩
      subst ec
      rcases hseq with h1 | ⟨o, e1, hn⟩
      · exact hl h1
      · rw [hg] at e1; cases e1; exact hn ⟨_, _, rfl⟩

theorem Kps.same {s s' : Shared} {C : Addr} {h' : Heap} (k : Kps s s') (hC : s.heap.get? C = none) (hs : Heap.SameBut C s'.heap h') : Kps s { s' with heap := h' } := by
  obtain ⟨h1, t1, rfl, hk⟩ := k
  exact ⟨h', t1, rfl, fun b o e => hs.extBut b o (by rintro rfl; rw [hC] at e; cases e) (hk b o e)⟩

/-- the tests of a comprehension -/
noncomputable def Gt (prog : Program) (w : World) (A : Around) (h : Heap) (X : List Addr) (env : Env) (ifs : List Expr) (b : Bool) : Prop := XOk X h →
  ∀ (s : Shared) (Q : Bool → Shared → Prop) (E : Value → Shared → Prop), Kp h s.heap → (∀ s', Kps s s' → Q b s') →
    wpAny (model prog w) A (forIn ifs true fun c r => if r = true then do let ok ← isTrue c env (eval c env); pure (ForInStep.yield ok) else pure (ForInStep.yield r)) Q E s
theorem gt_nil : Gt prog w A h X env [] true := fun hX s Q E hk hQ => wpAny_tests_nil (hQ _ keeps_refl)
theorem gt_one {c : Expr} {b : Bool} (hc : Gb prog w A h X (isTrue c env (eval c env)) b) : Gt prog w A h X env [c] b := fun hX s Q E hk hQ => wpAny_tests_one (hc hX s Q E hk hQ)

theorem newEnvC {scope : Scope} {globals : Addr} {cl : List (Str × Addr)} {qual : Str} {Q : Env → Shared → Prop} {E : Value → Shared → Prop}
    (hQ : Q (newEnv scope s.heap.objs.size globals (cellsFrom (s.heap.objs.size + 1) scope.names cl) qual none .none (some env) builtinsNs) { s with heap := pushCells (s.heap.push { cls := .type "dict", data := .dict #[] }) scope.names }) :
    wpAny (model prog w) A (newFunctionEnv scope globals cl [] qual none .none (some env)) Q E s := by
  simp only [newFunctionEnv, Option.isSome_some, if_true]
  refine wpAny_bind (wpAny_alloc ?_)
  refine wpAny_bind (wpAny_layCells _ (fun name kind cells => by cases hkc : kind == NameKind.cell <;> simp [hkc]) _ _ _ _ ?_)
  rw [show ({ s with heap := s.heap.push { cls := .type "dict", data := .dict #[] } } : Shared).heap.objs.size = s.heap.objs.size + 1 from Heap.size_push ..]
  exact wpAny_bind (wpAny_pure (wpAny_pure hQ))

/-- how the names of a comprehension's block are held -/
noncomputable def KN (scope : Scope) (cenv : Env) : Prop := ∀ n k, scope.names.lookup n = some k → cenv.kindOf n = some k ∨ (k = .free ∧ cenv.kindOf n = some .cell)
theorem kn_relabel {scope : Scope} {env cenv : Env} (hc : cenv.scope = relabel scope env) : KN scope cenv := by
  intro n k hl
  unfold Env.kindOf
  rw [hc]
  unfold relabel
  dsimp only
  revert hl
  induction scope.names with
  | nil => intro hl; cases hl
  | cons y r ih =>
    obtain ⟨m, j⟩ := y
    intro hl
    rw [List.lookup_cons] at hl
    rw [List.map_cons]
    cases hb : n == m with
    | true =>
      rw [hb] at hl
      have hl : j = k := Option.some.inj hl
      subst hl
      by_cases hq : (j == NameKind.free && env.scope.kind == .function && env.kindOf m == some .cell) = true
      · right
        rw [if_pos hq]
        simp only [Bool.and_eq_true] at hq
        exact ⟨eq_of_beq hq.1.1, by rw [List.lookup_cons, hb]⟩
      · left
        rw [if_neg hq, List.lookup_cons, hb]
    | false =>
      rw [hb] at hl
      have := ih hl
      by_cases hq : (j == NameKind.free && env.scope.kind == .function && env.kindOf m == some .cell) = true
      · rw [if_pos hq, List.lookup_cons, hb]; exact this
      · rw [if_neg hq, List.lookup_cons, hb]; exact this

noncomputable def sg0 (fv : List (Str × D)) : Sg := fun n => (fv.lookup n).map .d

theorem sg0_ni (fv : List (Str × D)) (x : Str) (I l : Addr) (i : Nat) (ns : List Int) : sg0 fv x ≠ some (.iter I l i ns) := fun e => by
  unfold sg0 at e
  cases hf : fv.lookup x <;> rw [hf] at e <;> cases e

theorem comp_core {elt target iter : Expr} {ifs : List Expr} {scope : Scope} {pos cpos : Pos} {items : List D} {use : Option (Value → Sem Unit)} {Q : Value → Shared → Prop} {E : Value → Shared → Prop} {p : D → Bool} {fe : D → D}
    {fv : List (Str × D)} {σ1 : D → Sg} (hA : A.handled = none) (eo : EnvOk env) (hX : XOk X s.heap) (hkind : scope.kind = .function) (hdist : ∀ y ∈ scope.names, scope.names.lookup y.1 = some y.2)
    (hfree : ∀ y ∈ scope.names, y.2 = .free → (y.1 == ("__classdict__" : Str)) = false ∧ ∃ c v d, env.cells.lookup y.1 = some c ∧ s.heap.IsCell c (some v) ∧ Rd X s.heap v d ∧ fv.lookup y.1 = some d)
    (hfv : ∀ n d, fv.lookup n = some d → scope.names.lookup n = some .free)
    (hi : Gi prog w A s.heap X env iter items) (hz : items.length ≤ sizeLine)
    (hasg : ∀ (cenv : Env) (hb' : Heap) (X' : List Addr) (s' s0 : Shared) (d : D) (v : Value) (I : Addr) (E' : Value → Shared → Prop), d ∈ items → Fm hb' cenv → (∀ x, scope.names.lookup x = some .local ∨ scope.names.lookup x = some .cell → Sto hb' cenv x) →
      St s0 hb' cenv X' (sg0 fv) s' → Rd X' s'.heap v d → IterOk I s'.heap →
      wpAny (model prog w) A (letOwnedTupleGo target (.ref I) v) (fun _ s1 => wpAny (model prog w) A (assign target cenv v) (fun _ s2 => St s0 hb' cenv X' (σ1 d) s2) E' s1) E' s')
    (hσ : ∀ d x sl, sg0 fv x = some sl → σ1 d x = some sl)
    (htest : ∀ (cenv : Env) (h' : Heap) (X' : List Addr) (d : D), d ∈ items → EnvOk cenv → KN scope cenv → Kp s.heap h' → (∀ x d', σ1 d x = some (.d d') → Var cenv h' X' x d') → Gt prog w A h' X' cenv ifs (p d))
    (helt : ∀ (cenv : Env) (h' : Heap) (X' : List Addr) (d : D), d ∈ items → p d = true → EnvOk cenv → KN scope cenv → Kp s.heap h' → (∀ x d', σ1 d x = some (.d d') → Var cenv h' X' x d') → Gv prog w A h' X' (eval elt cenv) (fe d))
    (hend : ∀ D' C s', Kps s s' → s.heap.get? C = none → C ∉ X → (∃ m, s'.heap.Ns C m) → Rd X s'.heap (.ref D') (.lst ((items.filter p).map fe)) → compPost (model prog w) A E use Q (.ref D') C (.ok .next) s')
    (hs : ∀ x, foldedSetIterable iter env x = pure x := by intro _; rfl) :
    wpAny (model prog w) A (comprehension (.ListComp elt [⟨target, iter, ifs, 0⟩] scope pos) scope env cpos (newList []) false (eval iter env) use) Q E s := by
  refine wpAny_comprehension_free (cl := closOf (fun n => env.cells.lookup n) scope.names []) rfl hs (closureFor_eq fun x hx hf => let ⟨_, c, _, _, hc, _⟩ := hfree x hx hf; ⟨c, hc⟩) hkind
    (fun x hx hl => by rw [hdist x hx, hl]) (hi hX s _ _ Kp.refl fun I fp wr P Sx s₂ k₂ S => ?_)
  have hX₂ : XOk X s₂.heap := hX.up k₂.kp
  refine wpAny_newList ?_
  refine newEnvC ?_
  -- names
  generalize hDa : s₂.heap.objs.size = Da
  generalize hH3 : s₂.heap.push { cls := .type "list", data := .seq ([] : List Value).toArray } = H3
  have hC : H3.objs.size = Da + 1 := by rw [← hH3, Heap.size_push, hDa]
  dsimp only
  rw [hC]
  generalize hH4 : pushCells (H3.push { cls := .type "dict", data := .dict #[] }) scope.names = H4
  generalize hcs : cellsFrom (Da + 1 + 1) scope.names (closOf (fun n => env.cells.lookup n) scope.names []) = cs
  generalize hce : ({ newEnv scope (Da + 1) env.globals cs env.qual none .none (some env) builtinsNs with scope := relabel scope env } : Env) = cenv
  have ce_loc : cenv.locals = Da + 1 := by rw [← hce]; rfl
  have ce_cells : cenv.cells = cs := by rw [← hce]; rfl
  have ce_scope : cenv.scope = relabel scope env := by rw [← hce]
  have loc0 : (newEnv scope (Da + 1) env.globals cs env.qual none .none (some env) builtinsNs).locals = Da + 1 := rfl
  rw [loc0]
  have k34 : Kp s₂.heap H4 := fun b o e => by
    rw [← hH4, ← hH3]
    exact pushCells_keeps _ _ b o (Heap.get?_push_of_some _ (Heap.get?_push_of_some _ e))
  have hD4 : H4.get? Da = some (LO [] 0) := by
    rw [← hH4]
    refine pushCells_keeps _ _ _ _ (Heap.get?_push_of_some _ ?_)
    rw [← hH3, ← hDa]
    exact Heap.get?_push_size _ rfl
  have hN4 : H4.Ns (Da + 1) fun _ => none := by
    rw [← hH4, ← hC]
    exact (Heap.Ns.new H3 (.type "dict")).keeps (pushCells_keeps _ _)
  have ok := cellsFrom_ok scope.names (H3.push { cls := .type "dict", data := .dict #[] }) (Da + 2) [] ⟨fun _ _ hm => (nomatch hm), List.Pairwise.nil⟩ (by rw [Heap.size_push, hC]; exact Nat.le_refl _)
  rw [hH4, Heap.size_push, hC] at ok
  have cs_app : cs = cellsFrom (Da + 1 + 1) scope.names [] ++ closOf (fun n => env.cells.lookup n) scope.names [] := by rw [← hcs]; exact cellsFrom_app _ _ _
  have fresh2 : ∀ a, Da ≤ a → s₂.heap.get? a = none := fun a ha => by
    cases e : s₂.heap.get? a with
    | none => rfl
    | some o => exact absurd (Heap.lt_size e) (by rw [hDa]; exact Nat.not_lt.mpr ha)
  have freshS : ∀ a, Da ≤ a → s.heap.get? a = none := fun a ha => by
    cases e : s.heap.get? a with
    | none => rfl
    | some o => rw [← k₂.kp _ _ e, fresh2 a ha]
  have offX : ∀ a, Da ≤ a → a ∉ X := fun a ha hm => by
    obtain ⟨o, e⟩ := hX a hm
    rw [freshS a ha] at e; cases e
  -- lookups in the cells
  have look : ∀ n c, cs.lookup n = some c → ((n, NameKind.cell) ∈ scope.names ∧ (cellsFrom (Da + 1 + 1) scope.names []).lookup n = some c ∧ H4.IsCell c none ∧ Da + 2 ≤ c) ∨
      ((n, NameKind.free) ∈ scope.names ∧ env.cells.lookup n = some c) := by
    intro n c hc
    rw [cs_app, List.lookup_append] at hc
    cases ho : (cellsFrom (Da + 1 + 1) scope.names []).lookup n with
    | some c' =>
      rw [ho] at hc; cases hc
      have hm := mem_of_lookup ho
      exact .inl ⟨own_mem _ _ hm, rfl, ok.empty _ _ hm⟩
    | none =>
      rw [ho] at hc
      have hm := mem_of_lookup (show (closOf (fun n => env.cells.lookup n) scope.names []).lookup n = some c from hc)
      rcases clos_mem _ _ hm with h1 | ⟨h1, h2⟩
      · cases h1
      · obtain ⟨_, c', _, _, hc', _⟩ := hfree _ h1 rfl
        rw [hc'] at h2
        subst h2
        exact .inr ⟨h1, hc'⟩
  have ceo : EnvOk cenv := by
    refine ⟨by rw [ce_scope]; exact hkind, by rw [← hce]; exact eo.gl, by rw [← hce]; exact eo.bl, fun n n' c h1 h2 => ?_⟩
    rw [ce_cells] at h1 h2
    rcases look n c h1 with ⟨a1, b1, c1, d1⟩ | ⟨a1, b1⟩ <;> rcases look n' c h2 with ⟨a2, b2, c2, d2⟩ | ⟨a2, b2⟩
    · exact name_of_addr ok.apart (mem_of_lookup b1) (mem_of_lookup b2)
    · obtain ⟨_, c', v, _, hc', hv, _⟩ := hfree _ a2 rfl
      rw [b2] at hc'; cases hc'
      have := hv.lt
      have e := freshS c (by omega)
      obtain ⟨o, ho, _⟩ := hv
      rw [e] at ho; cases ho
    · obtain ⟨_, c', v, _, hc', hv, _⟩ := hfree _ a1 rfl
      rw [b1] at hc'; cases hc'
      have e := freshS c (by omega)
      obtain ⟨o, ho, _⟩ := hv
      rw [e] at ho; cases ho
    · exact eo.apart _ _ _ b1 b2
  have ckn : KN scope cenv := kn_relabel ce_scope
  -- the base: all that stood, but the iterator
  obtain ⟨oI, TI, fsI, hoI, hcI, hdI, hTI⟩ := S.cls 0 _ S.st
  have hIs : I < Da := by rw [← hDa]; exact Heap.lt_size hoI
  let hbm := mask s₂.heap [I]
  have hbm_out : ∀ b, b ≠ I → hbm.get? b = s₂.heap.get? b := fun b hb => mask_out _ _ _ (by simpa using hb)
  have hbm_in : hbm.get? I = none := mask_in _ _ _ List.mem_cons_self
  have hbm_kp : Kp hbm s₂.heap := fun b o e => by
    by_cases hb : b = I
    · subst hb; rw [hbm_in] at e; cases e
    · rw [hbm_out b hb] at e; exact e
  have s_hbm : Kp s.heap hbm := fun b o e => by
    rw [hbm_out b (by rintro rfl; rw [S.new] at e; cases e)]
    exact k₂.kp b o e
  have hbm_fresh : ∀ a, Da ≤ a → hbm.get? a = none := fun a ha => by
    cases e : hbm.get? a with
    | none => rfl
    | some o => rw [← hbm_kp _ _ e, fresh2 a ha]
  have cfm : Fm hbm cenv := ⟨ceo, by rw [ce_loc]; exact hbm_fresh _ (by omega)⟩
  have csto : ∀ x, scope.names.lookup x = some .local ∨ scope.names.lookup x = some .cell → Sto hbm cenv x := by
    intro x hx
    rcases hx with hx | hx
    · rcases ckn x _ hx with h1 | ⟨h1, _⟩
      · exact .inl h1
      · cases h1
    · rcases ckn x _ hx with h1 | ⟨h1, _⟩
      · refine .inr ⟨h1, ?_⟩
        obtain ⟨c, hc⟩ := own_look scope.names (Da + 1 + 1) (mem_of_lookup hx)
        refine ⟨c, by rw [ce_cells, cs_app, List.lookup_append, hc]; rfl, hbm_fresh c ?_⟩
        have := (ok.empty _ _ (mem_of_lookup hc)).2
        omega
      · cases h1
  have hXD : XOk (Da :: X) H4 := fun a ha => by
    rcases List.mem_cons.mp ha with rfl | ha
    · exact ⟨_, hD4⟩
    · obtain ⟨o, e⟩ := hX₂ a ha
      exact ⟨o, k34 _ _ e⟩
  have hDmore : ∀ {v : Value} {d : D}, Rd X s₂.heap v d → Rd (Da :: X) hbm v d := fun {v d} r =>
    Rd.more (hbm_fresh Da (Nat.le_refl _)) d (Rd.go (fun _ x => x) (fun b o _ hq e => by
      rw [hbm_out b (by rintro rfl; rw [hoI] at e; cases e; obtain ⟨_, _, hq⟩ := hq; rw [hdI] at hq; cases hq)]; exact e) d r)
  generalize hs4 : ({ s₂ with heap := H4 } : Shared) = s₄
  have e4 : s₄.heap = H4 := by rw [← hs4]
  have q4 : St s₂ hbm cenv (Da :: X) (sg0 fv) s₄ := by
    refine ⟨fun b o e => by rw [e4]; exact k34 _ _ (hbm_kp b o e), ⟨_, by rw [e4, ce_loc]; exact hN4⟩, fun n c hc => ?_, fun x sl e => ?_, by rw [e4]; exact hXD, ?_, ?_, by rw [← hs4]; exact ⟨rfl, rfl, rfl⟩, ?_, ?_⟩
    · rw [ce_cells] at hc
      rw [e4]
      rcases look n c hc with ⟨_, _, h1, _⟩ | ⟨h1, h2⟩
      · exact ⟨_, h1⟩
      · obtain ⟨_, c', v, _, hc', hv, _⟩ := hfree _ h1 rfl
        rw [h2] at hc'; cases hc'
        exact ⟨_, (hv.keeps k₂.kp).keeps k34⟩
    · unfold sg0 at e
      cases hf : fv.lookup x with
      | none => rw [hf] at e; cases e
      | some d =>
        rw [hf] at e; cases e
        have hk := hfv x d hf
        obtain ⟨hcd, c, v, d', hc, hv, hr, hd'⟩ := hfree _ (mem_of_lookup hk) rfl
        dsimp only at hd' hc
        rw [hf] at hd'; cases hd'
        refine ⟨v, .inr ⟨?_, c, ?_, by rw [e4]; exact (hv.keeps k₂.kp).keeps k34⟩, ?_⟩
        · rcases ckn x _ hk with h1 | ⟨_, h1⟩
          · exact .inr ⟨h1, hcd⟩
          · exact .inl h1
        · rw [ce_cells, cs_app, List.lookup_append]
          have hno : (cellsFrom (Da + 1 + 1) scope.names []).lookup x = none := by
            cases ho : (cellsFrom (Da + 1 + 1) scope.names []).lookup x with
            | none => rfl
            | some c' =>
              have := hdist _ (own_mem _ _ (mem_of_lookup ho))
              dsimp only at this
              rw [hk] at this; cases this
          rw [hno]
          obtain ⟨c1, h1⟩ := clos_in (look := fun n => env.cells.lookup n) scope.names [] (x := x) (.inl (mem_of_lookup hk))
          obtain ⟨c2, h2⟩ := lookup_of_mem h1
          show (closOf (fun n => env.cells.lookup n) scope.names []).lookup x = some c
          rw [h2]
          rcases clos_mem _ _ (mem_of_lookup h2) with h3 | ⟨_, h3⟩
          · cases h3
          · rw [hc] at h3; rw [h3]; rfl
        · show Rd (Da :: X) s₄.heap v d
          rw [e4]
          exact ((hDmore (hr.up k₂.kp)).up hbm_kp).up k34
    · intro x y a ds a' ds' e1
      unfold sg0 at e1
      cases hf : fv.lookup x <;> rw [hf] at e1 <;> cases e1
    · intro x a ds e1
      unfold sg0 at e1
      cases hf : fv.lookup x <;> rw [hf] at e1 <;> cases e1
    · intro x I l i ns e1
      exact absurd e1 (sg0_ni fv x I l i ns)
    · intro x y I l i ns I' l' i' ns' e1
      exact absurd e1 (sg0_ni fv x I l i ns)
  -- the turns
  have W := S.W A hA
  have ksI : ∀ {h1 h' : Heap}, (∀ b o, b ∉ wr → h1.get? b = some o → h'.get? b = some o) → ∀ b o, b ≠ I → h1.get? b = some o → h'.get? b = some o := fun hk b o hb e => hk b o (by rw [S.wrI]; simpa using hb) e
  have IX : I ∉ Da :: X := fun hm => by
    rcases List.mem_cons.mp hm with e | hm
    · exact absurd e (Nat.ne_of_lt hIs)
    · obtain ⟨o, e⟩ := hX I hm
      rw [S.new] at e; cases e
  have loop : codeAny (model prog w) A (.compLoop (.ListComp elt [⟨target, iter, ifs, 0⟩] scope pos) 0 (.ref I) (.ref Da) cenv) (compPost (model prog w) A E use Q (.ref Da) (Da + 1)) s₄ := by
    refine codeAny_loop rfl (fun k s' => ∃ i, i ≤ items.length ∧ k = items.length + 1 - i ∧ Sx i s'.heap ∧ St s₂ hbm cenv (Da :: X) (sg0 fv) s' ∧ ∃ ys n, s'.heap.get? Da = some (LO ys n) ∧ Rds (Da :: X) s'.heap ys (((items.take i).filter p).map fe)) ?_ (items.length + 1)
      ⟨0, Nat.zero_le _, rfl, W.frame _ _ _ S.st fun b _ o e => by rw [e4]; exact k34 b o e, q4, [], 0, by rw [e4]; exact hD4, trivial⟩
    rintro k s' ⟨i, hle, rfl, hst, q', ys, n, hDs, hys⟩
    show wpAny _ A ((compTurn (.ListComp elt [⟨target, iter, ifs, 0⟩] scope pos) 0 (.ref I) (.ref Da) cenv).onRaise (fun x => do noteFrame x cenv; theTreesLotGoes x)) _ _ s'
    refine wpAny_noted ?_
    rw [compTurn_list]
    refine wpAny_bind (wpAny_standAt (wpAny_bind ?_))
    obtain ⟨oI, TI, fsI, hoI, hcI, hdI, hTI⟩ := S.cls i _ hst
    rcases Nat.lt_or_ge i items.length with hlt | hge
    · refine W.item i s' _ _ hlt hst fun v h' tk hP hst' hk => ?_
      have q1 := q'.walk (tk := tk) ⟨oI, fsI, hoI, hdI⟩ hbm_in (.inl IX) (ksI hk) (fun x I' l k ns e => absurd e (sg0_ni fv x I' l k ns))
      obtain ⟨hb', R, q2, hin⟩ := q1.rebase cfm [] (fun x a ds e => by
        unfold sg0 at e
        cases hf : fv.lookup x <;> rw [hf] at e <;> cases e) (fun x I' l k ns e => absurd e (sg0_ni fv x I' l k ns))
      obtain ⟨d, hd, rd⟩ := S.val i v hP
      have hdm : d ∈ items := List.mem_of_getElem? hd
      have hDh : h'.get? Da = some (LO ys n) := ksI hk _ _ (Nat.ne_of_gt hIs) hDs
      have hDb : hb'.get? Da = some (LO ys n) := hin _ _ hDh List.not_mem_nil (notDC_seq rfl)
      have hfp : ∀ b ∈ fp, ∀ o, h'.get? b = some o → hb'.get? b = some o := fun b hb o e => by
        obtain ⟨o', e', nd⟩ := S.nd (i + 1) h' hst' b hb
        rw [e] at e'; cases e'
        exact hin b o e List.not_mem_nil nd
      have rds' : Rds (Da :: X) hb' ys (((items.take i).filter p).map fe) := by
        refine Rds.go (fun _ x => x) (fun b o hbX hq e => ?_) _ hys
        refine hin b o ?_ List.not_mem_nil (isSeq_notDC hq)
        exact ksI hk b o (by rintro rfl; rw [hoI] at e; cases e; obtain ⟨_, _, hq⟩ := hq; rw [hdI] at hq; cases hq) e
      have hvd : Rd (Da :: X) h' v d := (hDmore rd).up q1.kp
      refine wpAny_bind (wpAny_mono (hasg cenv hb' (Da :: X) _ s₂ d v I _ hdm R.fm (fun x hx => R.sto x (csto x hx)) q2 hvd (S.cls (i + 1) h' hst')) (fun _ s1 h1 => wpAny_bind (wpAny_mono h1 (fun _ s3 q3 => ?_) fun _ _ e => e)) fun _ _ e => e)
      have Ks3 : Kp s.heap s3.heap := s_hbm.trans (R.kp.trans q3.kp)
      refine wpAny_bind (htest cenv s3.heap (Da :: X) d hdm ceo ckn Ks3 (fun x d' e => q3.vd e) q3.xok s3 _ _ Kp.refl fun s5 k5 => ?_)
      have q5 := q3.up k5
      have htake : items.take (i + 1) = items.take i ++ [d] := by
        rw [List.take_add_one, hd]; rfl
      have frame : ∀ {h6 : Heap}, Kp hb' h6 → Sx (i + 1) h6 := fun k6 => W.frame _ _ _ hst' fun b hb o e => k6 b o (hfp b hb o e)
      cases hp : p d with
      | false =>
        refine wpAny_pure ⟨rfl, items.length + 1 - (i + 1), by omega, i + 1, hlt, rfl, frame q5.kp, (q5.base R.kp).weak (hσ d), ys, n, q5.kp _ _ hDb, ?_⟩
        rw [htake, List.filter_append, List.filter_cons, hp]
        simp only [Bool.false_eq_true, if_false, List.filter_nil, List.append_nil]
        exact rds'.up q5.kp
      | true =>
        simp only [if_true]
        refine wpAny_bind (wpAny_bind (helt cenv s5.heap (Da :: X) d hdm hp ceo ckn (Ks3.trans k5.kp) (fun x d' e => q5.vd e) q5.xok s5 _ _ Kp.refl fun y s6 k6 r6 => ?_))
        have q6 := q5.up k6
        have hD6 := q6.kp _ _ hDb
        have hyl : ys.length ≤ sizeLine := by
          rw [hys.length, List.length_map]
          refine Nat.le_trans (List.length_filter_le _ _) (Nat.le_trans ?_ hz)
          rw [List.length_take]; omega
        refine wpAny_bind (wpAny_list_append_plain ⟨n, hD6⟩ (fun h7 hl7 hs7 => ?_) (by rw [List.size_toArray]; exact hyl))
        have hex7 : ∃ o, h7.get? Da = some o := let ⟨n7, ho⟩ := hl7; ⟨_, ho⟩
        have q7 : St s₂ hbm cenv (Da :: X) (sg0 fv) { s6 with heap := h7 } := St.other (tk := s6.toks) ((q6.base R.kp).weak (hσ d)) hs7 (by rw [ce_loc]; exact Nat.ne_of_lt (Nat.lt_succ_self _)) (fun n hn => by
            rw [ce_cells] at hn
            rcases look n Da hn with ⟨_, _, _, h1⟩ | ⟨h1, h2⟩
            · omega
            · obtain ⟨_, c', v', _, hc', hv', _⟩ := hfree _ h1 rfl
              rw [h2] at hc'; cases hc'
              obtain ⟨o, ho, _⟩ := hv'
              rw [freshS Da (Nat.le_refl _)] at ho; cases ho) (fun x a ds e => by
            unfold sg0 at e
            cases hf : fv.lookup x <;> rw [hf] at e <;> cases e) (hbm_fresh _ (Nat.le_refl _)) (.inl List.mem_cons_self) (fun _ => hex7) (fun x I' l k ns e => absurd e (sg0_ni fv x I' l k ns))
        refine wpAny_pure (wpAny_pure ⟨rfl, items.length + 1 - (i + 1), by omega, i + 1, hlt, rfl, W.frame _ _ _ (frame q6.kp) fun b hb o e => hs7.extBut b o ?_ e, q7, ?_⟩)
        · rintro rfl
          obtain ⟨o', e', _⟩ := S.nd 0 _ S.st _ hb
          rw [fresh2 _ (Nat.le_refl _)] at e'; cases e'
        · have hobj : ∃ n', h7.get? Da = some (LO (ys ++ [y]) n') := by
            obtain ⟨n7, e7⟩ := hl7
            rw [List.push_toArray] at e7
            exact ⟨n7, e7⟩
          obtain ⟨n', hg7⟩ := hobj
          refine ⟨ys ++ [y], n', hg7, ?_⟩
          rw [htake, List.filter_append, List.filter_cons, hp]
          simp only [if_true, List.filter_nil, List.map_append]
          exact Rds.app (Rds.same (rds'.up q6.kp) hs7 (.inl List.mem_cons_self)) ⟨Rd.same r6 hs7 (.inl List.mem_cons_self), trivial⟩
    · have hii : i = items.length := Nat.le_antisymm hle hge
      subst hii
      refine W.done s' _ _ hst fun h' tk hk => ?_
      have q1 := q'.walk (tk := tk) ⟨oI, fsI, hoI, hdI⟩ hbm_in (.inl IX) (ksI hk) (fun x I' l k ns e => absurd e (sg0_ni fv x I' l k ns))
      refine wpAny_pure ?_
      have hk1 : Kps s { s' with heap := h', toks := tk } := by
        have r1 := q1.rest
        have : SR s { s' with heap := h', toks := tk } := by
          obtain ⟨h2, t2, e2, _⟩ := k₂
          subst e2
          exact r1
        exact this.kps (s_hbm.trans q1.kp)
      refine hend Da (Da + 1) _ hk1 (freshS _ (by omega)) (offX _ (by omega)) ?_ ⟨Da, ys, n, rfl, offX _ (Nat.le_refl _), ksI hk _ _ (Nat.ne_of_gt hIs) hDs, ?_⟩
      · obtain ⟨m, hm⟩ := q1.nst
        rw [ce_loc] at hm
        exact ⟨m, hm⟩
      · rw [List.take_length] at hys
        refine Rds.go (fun a ha hm => ha (List.mem_cons_of_mem _ hm)) (fun b o hbX hq e => ?_) _ hys
        exact ksI hk b o (by rintro rfl; rw [hoI] at e; cases e; obtain ⟨_, _, hq⟩ := hq; rw [hdI] at hq; cases hq) e
  exact codeAny_compStart_list loop (W.self 0 _ _ _ (W.frame _ _ _ S.st fun b _ o e => by rw [e4]; exact k34 b o e) loop)

/-- the free names of a comprehension's block, out of the names at hand -/
theorem free_of {scope : Scope} {fv : List (Str × D)} (h : Heap) (hv : ∀ n d, fv.lookup n = some d → Var env h X n d ∧ env.kindOf n ≠ some .local) (hc : ∀ y ∈ scope.names, y.2 = .free → (y.1 == ("__classdict__" : Str)) = false ∧ ∃ d, fv.lookup y.1 = some d) :
    ∀ y ∈ scope.names, y.2 = .free → (y.1 == ("__classdict__" : Str)) = false ∧ ∃ c v d, env.cells.lookup y.1 = some c ∧ h.IsCell c (some v) ∧ Rd X h v d ∧ fv.lookup y.1 = some d := by
  intro y hy hf
  obtain ⟨h1, d, hd⟩ := hc y hy hf
  obtain ⟨⟨v, a, r⟩, hk⟩ := hv _ _ hd
  rcases a with ⟨k, _⟩ | ⟨_, c, hc, hv⟩
  · exact absurd k hk
  · exact ⟨h1, c, v, d, hc, hv, r, hd⟩

/-- a comprehension as a value -/
theorem ev_comp {elt target iter : Expr} {ifs : List Expr} {scope : Scope} {pos : Pos} {items : List D} {p : D → Bool} {fe : D → D}
    {fv : List (Str × D)} {σ1 : D → Sg} (hA : A.handled = none) (eo : EnvOk env)
    (hv : ∀ n d, fv.lookup n = some d → Var env h X n d ∧ env.kindOf n ≠ some .local)
    (hi : Gi prog w A h X env iter items) (hz : items.length ≤ sizeLine)
    (hasg : ∀ (cenv : Env) (hb' : Heap) (X' : List Addr) (s' s0 : Shared) (d : D) (v : Value) (I : Addr) (E' : Value → Shared → Prop), d ∈ items → Fm hb' cenv → (∀ x, scope.names.lookup x = some .local ∨ scope.names.lookup x = some .cell → Sto hb' cenv x) →
      St s0 hb' cenv X' (sg0 fv) s' → Rd X' s'.heap v d → IterOk I s'.heap →
      wpAny (model prog w) A (letOwnedTupleGo target (.ref I) v) (fun _ s1 => wpAny (model prog w) A (assign target cenv v) (fun _ s2 => St s0 hb' cenv X' (σ1 d) s2) E' s1) E' s')
    (hσ : ∀ d x sl, sg0 fv x = some sl → σ1 d x = some sl)
    (htest : ∀ (cenv : Env) (h' : Heap) (X' : List Addr) (d : D), d ∈ items → EnvOk cenv → KN scope cenv → Kp h h' → (∀ x d', σ1 d x = some (.d d') → Var cenv h' X' x d') → Gt prog w A h' X' cenv ifs (p d))
    (helt : ∀ (cenv : Env) (h' : Heap) (X' : List Addr) (d : D), d ∈ items → p d = true → EnvOk cenv → KN scope cenv → Kp h h' → (∀ x d', σ1 d x = some (.d d') → Var cenv h' X' x d') → Gv prog w A h' X' (eval elt cenv) (fe d))
    (hkind : scope.kind = .function := by rfl) (hdist : ∀ y ∈ scope.names, scope.names.lookup y.1 = some y.2 := by decide +kernel)
    (hc : ∀ y ∈ scope.names, y.2 = .free → (y.1 == ("__classdict__" : Str)) = false ∧ ∃ d, fv.lookup y.1 = some d)
    (hfv : ∀ n d, fv.lookup n = some d → scope.names.lookup n = some .free)
    (hs : ∀ x, foldedSetIterable iter env x = pure x := by intro _; rfl) :
    Gv prog w A h X (eval (.ListComp elt [⟨target, iter, ifs, 0⟩] scope pos) env) (.lst ((items.filter p).map fe)) := by
  intro hX s Q E hk hQ
  rw [eval_ListComp]
  refine comp_core (s := s) hA eo (hX.up hk) hkind hdist (free_of (scope := scope) s.heap (fun n d e => ⟨(hv n d e).1.up hk, (hv n d e).2⟩) hc) hfv (fun hX' s' Q' E' k' h' => hi hX s' Q' E' (hk.trans k') h') hz hasg hσ
    (fun cenv h' X' d h1 h2 h3 h4 => htest cenv h' X' d h1 h2 h3 (hk.trans h4)) (fun cenv h' X' d h1 h2 h3 h4 h5 => helt cenv h' X' d h1 h2 h3 h4 (hk.trans h5)) (fun D' C s' k1 hC hCX hN hR => ?_) hs
  obtain ⟨m, hn⟩ := hN
  exact ⟨m, hn, fun h' hs' => hQ _ _ (k1.same hC hs') (Rd.same hR hs' (.inr (ns_notSeq hn)))⟩

/-- a comprehension stored at once into a local name -/
theorem st_comp {elt target iter : Expr} {ifs : List Expr} {scope : Scope} {pos spos py : Pos} {y : Str} {rest : List Stmt} {items : List D} {p : D → Bool} {fe : D → D}
    {fv : List (Str × D)} {σ1 : D → Sg} {Q : Flow → Shared → Prop} {E : Value → Shared → Prop} (hA : A.handled = none) (f : Fm hb env) (q : St s0 hb env X σ s)
    (hv : ∀ n d, fv.lookup n = some d → Var env s.heap X n d ∧ env.kindOf n ≠ some .local)
    (hi : Gi prog w A s.heap X env iter items) (hz : items.length ≤ sizeLine)
    (hasg : ∀ (cenv : Env) (hb' : Heap) (X' : List Addr) (s' s0 : Shared) (d : D) (v : Value) (I : Addr) (E' : Value → Shared → Prop), d ∈ items → Fm hb' cenv → (∀ x, scope.names.lookup x = some .local ∨ scope.names.lookup x = some .cell → Sto hb' cenv x) →
      St s0 hb' cenv X' (sg0 fv) s' → Rd X' s'.heap v d → IterOk I s'.heap →
      wpAny (model prog w) A (letOwnedTupleGo target (.ref I) v) (fun _ s1 => wpAny (model prog w) A (assign target cenv v) (fun _ s2 => St s0 hb' cenv X' (σ1 d) s2) E' s1) E' s')
    (hσ : ∀ d x sl, sg0 fv x = some sl → σ1 d x = some sl)
    (htest : ∀ (cenv : Env) (h' : Heap) (X' : List Addr) (d : D), d ∈ items → EnvOk cenv → KN scope cenv → Kp s.heap h' → (∀ x d', σ1 d x = some (.d d') → Var cenv h' X' x d') → Gt prog w A h' X' cenv ifs (p d))
    (helt : ∀ (cenv : Env) (h' : Heap) (X' : List Addr) (d : D), d ∈ items → p d = true → EnvOk cenv → KN scope cenv → Kp s.heap h' → (∀ x d', σ1 d x = some (.d d') → Var cenv h' X' x d') → Gv prog w A h' X' (eval elt cenv) (fe d))
    (hy : env.kindOf y = some .local)
    (hn : ∀ s', St s0 hb env X (upd σ y (.d (.lst ((items.filter p).map fe)))) s' → wpAny (model prog w) A (execs rest env) Q E s')
    (hsw : swapsWith (.ListComp elt [⟨target, iter, ifs, 0⟩] scope pos) (some (.Name y py)) spos.line env = pure true)
    (hc : ∀ y ∈ scope.names, y.2 = .free → (y.1 == ("__classdict__" : Str)) = false ∧ ∃ d, fv.lookup y.1 = some d)
    (hfv : ∀ n d, fv.lookup n = some d → scope.names.lookup n = some .free)
    (hkind : scope.kind = .function := by rfl) (hdist : ∀ y ∈ scope.names, scope.names.lookup y.1 = some y.2 := by decide +kernel)
    (hs : ∀ x, foldedSetIterable iter env x = pure x := by intro _; rfl) :
    wpAny (model prog w) A (execs (.Assign [.Name y py] (.ListComp elt [⟨target, iter, ifs, 0⟩] scope pos) spos :: rest) env) Q E s := by
  refine wpAny_execs_cons ?_
  rw [exec_Assign_Name_used _ _ _ _ hsw]
  refine wpAny_bind (wpAny_standAt (wpAny_bind ?_))
  show wpAny _ A (do let _ ← comprehension (.ListComp elt [⟨target, iter, ifs, 0⟩] scope pos) scope env _ (newList []) false (eval iter env) (some (assign (.Name y py) env))) _ _ s
  refine wpAny_bind (wpAny_mono (Q := fun _ s' => wpAny (model prog w) A (execs rest env) Q E s') ?_ (fun _ s' hq => wpAny_pure (wpAny_pure hq)) fun _ _ e => e)
  refine comp_core (s := s) hA f.eo q.xok hkind hdist (free_of (scope := scope) s.heap hv hc) hfv hi hz hasg hσ htest helt (fun D' C s' k1 hC hCX hN hR => ?_) hs
  obtain ⟨m, hn'⟩ := hN
  show wpAny _ A (assign (.Name y py) env (.ref D')) _ _ _
  have q1 := q.up k1
  have hCL : C ≠ env.locals := by
    rintro rfl
    obtain ⟨m2, o, _, _, e, _⟩ := q.nst
    rw [hC] at e; cases e
  have hCc : ∀ n, env.cells.lookup n ≠ some C := fun n e => by
    obtain ⟨v, o, e2, _⟩ := q.cells n C e
    rw [hC] at e2; cases e2
  have hbC : hb.get? C = none := by
    cases e : hb.get? C with
    | none => rfl
    | some o => rw [← q.kp _ _ e, hC]
  refine wpAny_assign_Name (st_store_x (sl := .d (.lst ((items.filter p).map fe))) f q1 (.inl hy) hR (fun _ _ e => nomatch e) (fun _ _ _ _ e => nomatch e) fun s2 a ha hs2 q2 => ?_)
  have hCa : C ≠ a := by
    rcases ha with rfl | ⟨n, e⟩
    · exact hCL
    · rintro rfl; exact hCc n e
  have hN2 := hn'.sameBut hs2 hCa
  refine ⟨m, hN2, fun h3 hs3 => hn _ ?_⟩
  refine St.other (tk := s2.toks) q2 hs3 hCL hCc (fun x a' ds e => ?_) hbC (.inr (ns_notSeq hN2)) (fun hm => absurd hm hCX) (fun x I l i ns e => ?_)
  · rintro rfl
    obtain ⟨v, _, _, ha', _⟩ := q2.var x _ e
    exact hCX ha'
  · rintro rfl
    obtain ⟨v, _, _, ⟨o, ho, _, hd⟩, _⟩ := q2.var x _ e
    obtain ⟨o2, _, _, ho2, hd2, _⟩ := hN2
    rw [ho] at ho2; cases ho2
    rw [hd] at hd2; cases hd2
end
end Mine
end
section
open PySem PySem.W PyProof.Rows
namespace Mine

section
variable {prog : Program} {w : World} {A : Around} {env : Env} {h hb : Heap} {X : List Addr} {mg mb : Str → Option Value} {σ : Sg} {s s0 : Shared}

theorem upd_self_eq {σ : Sg} {x : Str} {sl : Sl} : upd σ x sl x = some sl := by unfold upd; rw [if_pos rfl]
theorem upd_ne {σ : Sg} {x y : Str} {sl : Sl} (h : y ≠ x) : upd σ x sl y = σ y := by unfold upd; rw [if_neg h]

theorem St.own_set (q : St s0 hb env X σ s) {x : Str} {a : Addr} {ds ds' : List D} {h' : Heap} {tk : Nat} {vs' : List Value} {n' : Nat} (hx : σ x = some (.own a ds)) (hs : Heap.SameBut a s.heap h') (hg : h'.get? a = some (LO vs' n'))
    (hr : Rds X s.heap vs' ds') : St s0 hb env X (upd σ x (.own a ds')) { s with heap := h', toks := tk } := by
  obtain ⟨v, at1, rfl, haX, vs, n, hgo, hro⟩ := q.var x _ hx
  have hloc : a ≠ env.locals := by obtain ⟨m, hm⟩ := q.nst; exact ns_list_ne hm hgo
  have hcel : ∀ n, env.cells.lookup n ≠ some a := fun k e => by obtain ⟨v, hv⟩ := q.cells k a e; exact cell_list_ne hv hgo rfl
  have hba := q.ob x a ds hx
  have q1 : St s0 hb env X (fun y => if y = x then none else σ y) s := q.weak fun y sl e => by
    by_cases hy : y = x
    · rw [if_pos hy] at e; cases e
    · rw [if_neg hy] at e; exact e
  have q2 := q1.other (tk := tk) hs hloc hcel (fun y a' ds'' e => by
    by_cases hy : y = x
    · rw [if_pos hy] at e; cases e
    · rw [if_neg hy] at e; exact (q.od x y a ds a' ds'' hx e fun ee => hy ee.symm).symm) hba (.inl haX) (fun _ => ⟨_, hg⟩) (fun y I l i ns e => by
    by_cases hy : y = x
    · rw [if_pos hy] at e; cases e
    · rw [if_neg hy] at e
      rintro rfl
      obtain ⟨v, _, _, ⟨o, ho, _, hd⟩, _⟩ := q.var y _ e
      rw [hgo] at ho; cases ho; cases hd)
  have updI : ∀ {y : Str} {I l : Addr} {i : Nat} {ns : List Int}, upd σ x (.own a ds') y = some (.iter I l i ns) → y ≠ x ∧ σ y = some (.iter I l i ns) := by
    intro y I l i ns e
    by_cases hy : y = x
    · subst hy; rw [upd_self_eq] at e; cases e
    · rw [upd_ne hy] at e; exact ⟨hy, e⟩
  refine ⟨q2.kp, q2.nst, q2.cells, fun y sl e => ?_, q2.xok, fun y z b es b' es' e1 e2 hne => ?_, fun y b es e => ?_, q2.rest, fun y I l i ns e => q.ib y I l i ns (updI e).2, fun y z I l i ns I' l' i' ns' e1 e2 => q.oi y z _ _ _ _ _ _ _ _ (updI e1).2 (updI e2).2⟩
  · by_cases hy : y = x
    · subst hy
      rw [upd_self_eq] at e; cases e
      refine ⟨.ref a, ?_, rfl, haX, vs', n', hg, hr.same hs (.inl haX)⟩
      rcases at1 with ⟨k, m, hn, hm⟩ | ⟨k, c, hc, hv⟩
      · exact .inl ⟨k, m, hn.sameBut hs hloc.symm, hm⟩
      · exact .inr ⟨k, c, hc, hv.sameBut hs fun ec => hcel y (ec ▸ hc)⟩
    · rw [upd_ne hy] at e
      exact q2.var y sl (by rw [if_neg hy]; exact e)
  · by_cases hy : y = x <;> by_cases hz : z = x
    · exact absurd (hy.trans hz.symm) hne
    · subst hy; rw [upd_self_eq] at e1; cases e1; rw [upd_ne hz] at e2
      exact q.od y z a ds b' es' hx e2 hne
    · subst hz; rw [upd_self_eq] at e2; cases e2; rw [upd_ne hy] at e1
      exact q.od y z b es a ds e1 hx hne
    · rw [upd_ne hy] at e1; rw [upd_ne hz] at e2
      exact q.od _ _ _ _ _ _ e1 e2 hne
  · by_cases hy : y = x
    · subst hy; rw [upd_self_eq] at e; cases e; exact hba
    · rw [upd_ne hy] at e; exact q.ob _ _ _ e

/-- the list stands no longer for itself: its items may be read as data -/
theorem St.disown (q : St s0 hb env X σ s) {x : Str} {a : Addr} {ds : List D} {X' : List Addr} (hx : σ x = some (.own a ds)) (hX' : ∀ b, b ∈ X' → b ∈ X) (ha : a ∉ X') (hoth : ∀ y b es, y ≠ x → σ y = some (.own b es) → b ∈ X') :
    St s0 hb env X' (upd σ x (.d (.lst ds))) s := by
  have less : ∀ b, b ∉ X → b ∉ X' := fun b hb hm => hb (hX' b hm)
  have updI : ∀ {y : Str} {I l : Addr} {i : Nat} {ns : List Int}, upd σ x (.d (.lst ds)) y = some (.iter I l i ns) → y ≠ x ∧ σ y = some (.iter I l i ns) := by
    intro y I l i ns e
    by_cases hy : y = x
    · subst hy; rw [upd_self_eq] at e; cases e
    · rw [upd_ne hy] at e; exact ⟨hy, e⟩
  refine ⟨q.kp, q.nst, q.cells, fun y sl e => ?_, fun b hb => q.xok b (hX' b hb), fun y z b es b' es' e1 e2 hne => ?_, fun y b es e => ?_, q.rest, fun y I l i ns e => q.ib y I l i ns (updI e).2, fun y z I l i ns I' l' i' ns' e1 e2 => q.oi y z _ _ _ _ _ _ _ _ (updI e1).2 (updI e2).2⟩
  · by_cases hy : y = x
    · subst hy
      rw [upd_self_eq] at e; cases e
      obtain ⟨v, at1, rfl, haX, vs, n, hgo, hro⟩ := q.var y _ hx
      exact ⟨_, at1, a, vs, n, rfl, ha, hgo, hro.less less⟩
    · rw [upd_ne hy] at e
      obtain ⟨v, at1, r⟩ := q.var y sl e
      refine ⟨v, at1, ?_⟩
      cases sl with
      | d d => exact Rd.less r less
      | own b es => obtain ⟨e', hb', vs, n, hg, hr⟩ := r; exact ⟨e', hoth y b es hy e, vs, n, hg, hr.less less⟩
      | val v0 => exact r
      | iter I l i ns => obtain ⟨e', hi, hl, vs, n, hg, hr⟩ := r; exact ⟨e', hi, less l hl, vs, n, hg, hr.less less⟩
  · by_cases hy : y = x
    · subst hy; rw [upd_self_eq] at e1; cases e1
    · by_cases hz : z = x
      · subst hz; rw [upd_self_eq] at e2; cases e2
      · rw [upd_ne hy] at e1; rw [upd_ne hz] at e2
        exact q.od _ _ _ _ _ _ e1 e2 hne
  · by_cases hy : y = x
    · subst hy; rw [upd_self_eq] at e; cases e
    · rw [upd_ne hy] at e; exact q.ob _ _ _ e

/-- x = [] -/
theorem st_own {x : Str} {px lp pos : Pos} {rest : List Stmt} {Q : Flow → Shared → Prop} {E : Value → Shared → Prop} (f : Fm hb env) (q : St s0 hb env X σ s) (hx : Sto hb env x)
    (hn : ∀ a s', a ∉ X → (∀ o, hb.get? a ≠ some o) → St s0 hb env (a :: X) (upd σ x (.own a [])) s' → wpAny (model prog w) A (execs rest env) Q E s') :
    wpAny (model prog w) A (execs (.Assign [.Name x px] (.List [] lp) pos :: rest) env) Q E s := by
  refine wpAny_execs_cons (PySem.wpAny_Assign_Name ?_ rfl)
  show wpAny _ A (do standAt lp; newList (← spliced (backTo lp (starEach [] env)))) _ _ s
  refine wpAny_bind (wpAny_standAt (wpAny_bind (spliced_none (wpAny_newList ?_))))
  have hnone : s.heap.get? s.heap.objs.size = none := by
    cases e : s.heap.get? s.heap.objs.size with
    | none => rfl
    | some o => exact absurd (Heap.lt_size e) (Nat.lt_irrefl _)
  have hbn : hb.get? s.heap.objs.size = none := by
    cases e : hb.get? s.heap.objs.size with
    | none => rfl
    | some o => rw [← q.kp _ _ e, hnone]
  have hg : (s.heap.push { cls := .type "list", data := .seq ([] : List Value).toArray }).get? s.heap.objs.size = some (LO [] 0) := Heap.get?_push_size _ rfl
  have hoff := q.xok.off
  have q1 : St s0 hb env (s.heap.objs.size :: X) σ { s with heap := s.heap.push { cls := .type "list", data := .seq ([] : List Value).toArray } } := by
    refine ⟨fun b o e => Heap.get?_push_of_some _ (q.kp b o e), let ⟨m, n⟩ := q.nst; ⟨m, n.keeps kp_push⟩, fun n c e => let ⟨v, hv⟩ := q.cells n c e; ⟨v, hv.keeps kp_push⟩, fun y sl e => ?_, fun b hb' => ?_, q.od, q.ob, q.rest, q.ib, q.oi⟩
    · obtain ⟨v, at1, r⟩ := q.var y sl e
      refine ⟨v, at1.up kp_push, ?_⟩
      cases sl with
      | d d => exact Rd.up (Rd.more hnone d r) kp_push
      | own b es => obtain ⟨e', hb', vs, n, hg', hr⟩ := r; exact ⟨e', List.mem_cons_of_mem _ hb', vs, n, kp_push _ _ hg', Rds.up (Rds.more hnone es hr) kp_push⟩
      | val v0 => exact r
      | iter I l i ns =>
        obtain ⟨e', hi, hl, vs, n, hg', hr⟩ := r
        refine ⟨e', hi.at fun o eo => kp_push _ o eo, fun hm => ?_, vs, n, kp_push _ _ hg', Rds.up (Rds.more hnone _ hr) kp_push⟩
        rcases List.mem_cons.mp hm with rfl | hm
        · rw [hnone] at hg'; cases hg'
        · exact hl hm
    · rcases List.mem_cons.mp hb' with rfl | hb'
      · exact ⟨_, hg⟩
      · obtain ⟨o, ho⟩ := q.xok b hb'; exact ⟨o, kp_push _ _ ho⟩
  refine st_store (sl := .own s.heap.objs.size []) f q1 hx ⟨rfl, List.mem_cons_self, [], 0, hg, trivial⟩ (fun a ds e => ?_) (fun _ _ _ _ e => nomatch e) fun s' q' => hn _ s' hoff (fun o e => by rw [hbn] at e; cases e) q'
  cases e
  refine ⟨hbn, fun y a' ds' hy e' ee => ?_⟩
  obtain ⟨v, _, rfl, ha', _⟩ := q.var y _ e'
  exact hoff (ee ▸ ha')

theorem intr_false (eo : EnvOk env) : interactive env = false := by unfold interactive; rw [eo.kind]; rfl

theorem own_none {x : Str} {a : Addr} {ds : List D} (q : St s0 hb env X σ s) (hx : σ x = some (.own a ds)) : ∃ vs n, At env s.heap x (.ref a) ∧ a ∈ X ∧ s.heap.get? a = some (LO vs n) ∧ Rds X s.heap vs ds := by
  obtain ⟨v, at1, rfl, haX, vs, n, hgo, hro⟩ := q.var x _ hx
  exact ⟨vs, n, at1, haX, hgo, hro⟩

theorem wp_append {x : Str} {px apos cpos : Pos} {e : Expr} {a : Addr} {ds : List D} {d : D} {Y : List Addr} {Q : Value → Shared → Prop} {E : Value → Shared → Prop} (f : Fm hb env) (q : St s0 hb env X σ s) (hx : σ x = some (.own a ds))
    (hY : XOk Y s.heap) (he : Gv prog w A s.heap Y (eval e env) d) (hYX : Y = X ∨ Flat d) (hz : ds.length ≤ sizeLine) (hQ : ∀ s', St s0 hb env X (upd σ x (.own a (ds ++ [d]))) s' → Q .none s')
    (hbase : attributeBase (.Name x px) (Str.ofString "append") env (eval (.Name x px) env) = eval (.Name x px) env := by rfl) (hs : starEach [e] env = [(false, eval e env)] := by rfl) (hline : (apos.endLine == cpos.line) = true := by rfl)
    (hdb : (x == ("__debug__" : Str)) = false := by decide) :
    wpAny (model prog w) A (eval (.Call (.Attribute (.Name x px) (Str.ofString "append") apos) [e] [] cpos) env) Q E s := by
  obtain ⟨vs, n, at1, haX, hg, hr⟩ := own_none q hx
  refine Call_method1 hbase hs hline (wp_at f.eo at1 ⟨"list", "list.append", PySem.F.plainAttrs_list, PySem.F.slot_list_append, PySem.F.type_list_append, (lo_isList hg).typeIs, fun b e => by cases e; exact ⟨_, hg, rfl⟩, ?_⟩ hdb)
  refine PySem.P.append_list (he hY s _ _ Kp.refl fun v s1 k1 r1 => ⟨vs.toArray, n, by rw [List.size_toArray, hr.length]; exact hz, k1.kp _ _ hg, ?_⟩)
  have q1 := q.up k1
  have r1' : Rd X s1.heap v d := by
    rcases hYX with rfl | hf
    · exact r1
    · exact Rd.flat hf r1
  have hg1 := k1.kp _ _ hg
  refine hQ _ (q1.own_set (tk := s1.toks) (vs' := vs ++ [v]) (n' := if vs.toArray.size + 1 == vs.toArray.size then n else n + 1) hx (Heap.SameBut.update ..) ?_ (Rds.app (hr.up k1.kp) ⟨r1', trivial⟩))
  rw [Heap.get?_update_self _ hg1 (by unfold LO Obj.mapSeq; rfl)]
  unfold LO Obj.mapSeq
  simp

theorem wp_pop {x : Str} {px apos cpos : Pos} {a : Addr} {ds : List D} {d : D} {Q : Value → Shared → Prop} {E : Value → Shared → Prop} (f : Fm hb env) (q : St s0 hb env X σ s) (hx : σ x = some (.own a (ds ++ [d])))
    (hz : ds.length + 1 ≤ sizeLine) (hQ : ∀ v s', St s0 hb env X (upd σ x (.own a ds)) s' → Rd X s'.heap v d → Q v s')
    (hbase : attributeBase (.Name x px) (Str.ofString "pop") env (eval (.Name x px) env) = eval (.Name x px) env := by rfl) (hline : (apos.endLine == cpos.line) = true := by rfl)
    (hdb : (x == ("__debug__" : Str)) = false := by decide) :
    wpAny (model prog w) A (eval (.Call (.Attribute (.Name x px) (Str.ofString "pop") apos) [] [] cpos) env) Q E s := by
  obtain ⟨vs, n, at1, haX, hg, hr⟩ := own_none q hx
  have hl := hr.length
  rw [List.length_append, List.length_singleton] at hl
  obtain ⟨v, hv, rv⟩ := hr.get (i := ds.length) (d := d) (by simp)
  refine Call_method0 hbase hline (wp_at f.eo at1 ⟨"list", "list.pop", PySem.F.plainAttrs_list, PySem.F.slot_list_pop, PySem.F.type_list_pop, (lo_isList hg).typeIs, fun b e => by cases e; exact ⟨_, hg, rfl⟩, ?_⟩ hdb)
  have htk : vs.eraseIdx (vs.length - 1) = vs.take ds.length := by
    rw [show vs.length - 1 = ds.length by omega, List.eraseIdx_eq_take_drop_succ, List.drop_of_length_le (by omega), List.append_nil]
  refine PySem.P.pop_list (items := vs.toArray) (n := n) hg (y := v) (by rw [List.size_toArray, show vs.length - 1 = ds.length by omega]; simpa using hv) ?_ (by rw [List.size_toArray, hl]; exact hz)
  refine hQ v _ (q.own_set (tk := s.toks) (vs' := vs.take ds.length) (n' := if (vs.toArray.eraseIdxIfInBounds (vs.toArray.size - 1)).size == vs.toArray.size then n else n + 1) hx (Heap.SameBut.update ..) ?_ ?_) ?_
  · rw [Heap.get?_update_self _ hg (by unfold LO Obj.mapSeq; rfl)]
    unfold LO Obj.mapSeq
    simp only [Option.some.injEq, Obj.mk.injEq, Data.seq.injEq, true_and, and_true]
    rw [← htk]
    simp
  · have := hr.take ds.length
    simpa using this
  · exact Rd.same rv (Heap.SameBut.update ..) (.inl haX)

theorem st_append {x : Str} {px apos cpos pos : Pos} {e : Expr} {rest : List Stmt} {a : Addr} {ds : List D} {d : D} {Q : Flow → Shared → Prop} {E : Value → Shared → Prop} (f : Fm hb env) (q : St s0 hb env X σ s) (hx : σ x = some (.own a ds))
    (he : Gv prog w A s.heap X (eval e env) d) (hz : ds.length ≤ sizeLine) (hn : ∀ s', St s0 hb env X (upd σ x (.own a (ds ++ [d]))) s' → wpAny (model prog w) A (execs rest env) Q E s')
    (hbase : attributeBase (.Name x px) (Str.ofString "append") env (eval (.Name x px) env) = eval (.Name x px) env := by rfl) (hs : starEach [e] env = [(false, eval e env)] := by rfl) (hline : (apos.endLine == cpos.line) = true := by rfl)
    (hdb : (x == ("__debug__" : Str)) = false := by decide) :
    wpAny (model prog w) A (execs (.Expr (.Call (.Attribute (.Name x px) (Str.ofString "append") apos) [e] [] cpos) pos :: rest) env) Q E s :=
  wpAny_execs_cons (PySem.wpAny_Expr (wp_append f q hx q.xok he (.inl rfl) hz (fun s' q' => hn s' q') hbase hs hline hdb) (intr_false f.eo) rfl)
theorem st_append0 {x : Str} {px apos cpos pos : Pos} {e : Expr} {rest : List Stmt} {a : Addr} {ds : List D} {d : D} {Q : Flow → Shared → Prop} {E : Value → Shared → Prop} (f : Fm hb env) (q : St s0 hb env X σ s) (hx : σ x = some (.own a ds))
    (he : Gv prog w A s.heap [] (eval e env) d) (hf : Flat d) (hz : ds.length ≤ sizeLine) (hn : ∀ s', St s0 hb env X (upd σ x (.own a (ds ++ [d]))) s' → wpAny (model prog w) A (execs rest env) Q E s')
    (hbase : attributeBase (.Name x px) (Str.ofString "append") env (eval (.Name x px) env) = eval (.Name x px) env := by rfl) (hs : starEach [e] env = [(false, eval e env)] := by rfl) (hline : (apos.endLine == cpos.line) = true := by rfl)
    (hdb : (x == ("__debug__" : Str)) = false := by decide) :
    wpAny (model prog w) A (execs (.Expr (.Call (.Attribute (.Name x px) (Str.ofString "append") apos) [e] [] cpos) pos :: rest) env) Q E s :=
  wpAny_execs_cons (PySem.wpAny_Expr (wp_append f q hx XOk.nil he (.inr hf) hz (fun s' q' => hn s' q') hbase hs hline hdb) (intr_false f.eo) rfl)
theorem st_pop {x y : Str} {px apos cpos py pos : Pos} {rest : List Stmt} {a : Addr} {ds : List D} {d : D} {Q : Flow → Shared → Prop} {E : Value → Shared → Prop} (f : Fm hb env) (q : St s0 hb env X σ s) (hx : σ x = some (.own a (ds ++ [d])))
    (hz : ds.length + 1 ≤ sizeLine) (hy : Sto hb env y) (hn : ∀ s', St s0 hb env X (upd (upd σ x (.own a ds)) y (.d d)) s' → wpAny (model prog w) A (execs rest env) Q E s')
    (hbase : attributeBase (.Name x px) (Str.ofString "pop") env (eval (.Name x px) env) = eval (.Name x px) env := by rfl) (hline : (apos.endLine == cpos.line) = true := by rfl)
    (hdb : (x == ("__debug__" : Str)) = false := by decide) :
    wpAny (model prog w) A (execs (.Assign [.Name y py] (.Call (.Attribute (.Name x px) (Str.ofString "pop") apos) [] [] cpos) pos :: rest) env) Q E s :=
  wpAny_execs_cons (PySem.wpAny_Assign_Name (wp_pop f q hx hz (fun v s1 q1 r1 => st_store_d f q1 hy r1 fun s2 q2 => hn s2 q2) hbase hline hdb) rfl)
theorem st_pop_drop {x : Str} {px apos cpos pos : Pos} {rest : List Stmt} {a : Addr} {ds : List D} {d : D} {Q : Flow → Shared → Prop} {E : Value → Shared → Prop} (f : Fm hb env) (q : St s0 hb env X σ s) (hx : σ x = some (.own a (ds ++ [d]))) (hf : Flat d)
    (hz : ds.length + 1 ≤ sizeLine) (hn : ∀ s', St s0 hb env X (upd σ x (.own a ds)) s' → wpAny (model prog w) A (execs rest env) Q E s')
    (hbase : attributeBase (.Name x px) (Str.ofString "pop") env (eval (.Name x px) env) = eval (.Name x px) env := by rfl) (hline : (apos.endLine == cpos.line) = true := by rfl)
    (hdb : (x == ("__debug__" : Str)) = false := by decide) :
    wpAny (model prog w) A (execs (.Expr (.Call (.Attribute (.Name x px) (Str.ofString "pop") apos) [] [] cpos) pos :: rest) env) Q E s :=
  wpAny_execs_cons (PySem.wpAny_Expr (wp_pop f q hx hz (fun v s1 q1 r1 => by
    cases d with
    | none => rw [show v = .none from r1]; exact hn _ q1
    | bool b => rw [show v = .bool b from r1]; exact hn _ q1
    | int i => obtain ⟨t, rfl⟩ := r1; exact hn _ q1
    | str x => obtain ⟨t, rfl⟩ := r1; exact hn _ q1
    | tup l => exact hf.elim
    | lst l => exact hf.elim) hbase hline hdb) (intr_false f.eo) rfl)

theorem asg_two {x y : Str} {p1 p2 tp : Pos} {k : Nat} {v : Value} {d1 d2 : D} {E' : Value → Shared → Prop} (hA : A.handled = none) (f : Fm hb env) (hx : Sto hb env x) (hy : Sto hb env y) (q : St s0 hb env X σ s) (r : Rd X s.heap v (.tup [d1, d2])) :
    wpAny (model prog w) A (assign (.Tuple [.Name x p1, .Name y p2] k tp) env v) (fun _ s' => St s0 hb env X (upd (upd σ x (.d d1)) y (.d d2)) s') E' s := by
  obtain ⟨a, vs, n, rfl, hn, hg, hr⟩ := r
  obtain ⟨v1, v2, rfl, r1, r2⟩ := Rds.two hr
  refine PySem.wpAny_assign_Tuple hA (items := #[v1, v2]) ⟨_, hg, rfl, n, rfl⟩ rfl rfl fun h' he => ?_
  have k1 : Kps s { s with heap := h' } := keeps_heap' fun b o e => he b o (Nat.ne_of_lt (Heap.lt_size e)) e
  have q1 := q.up k1
  show wpAny _ A (assignInOrder [assign (.Name x p1) env, assign (.Name y p2) env] [v1, v2]) _ _ _
  unfold assignInOrder
  refine wpAny_bind (wpAny_holding (wpAny_assign_Name (st_store_x (sl := .d d1) f q1 hx (Rd.up r1 k1.kp) (fun _ _ e => nomatch e) (fun _ _ _ _ e => nomatch e) fun s2 c hc hs2 q2 => ?_)))
  unfold assignInOrder
  refine wpAny_bind (wpAny_holding (wpAny_assign_Name (st_store_d f q2 hy (Rd.same (Rd.up r2 k1.kp) hs2 (.inr ?_)) fun s3 q3 => ?_)))
  · rcases hc with rfl | ⟨n, e⟩
    · obtain ⟨m, hm⟩ := q1.nst; exact ns_notSeq hm
    · obtain ⟨v, hv⟩ := q1.cells n c e; exact cell_notSeq hv
  · unfold assignInOrder
    exact wpAny_pure q3
theorem asg_pair {x y : Str} {p1 p2 tp : Pos} {k : Nat} {v : Value} {d1 d2 : D} {I : Addr} {E' : Value → Shared → Prop} (hA : A.handled = none) (f : Fm hb env) (hx : Sto hb env x) (hy : Sto hb env y) (q : St s0 hb env X σ s) (r : Rd X s.heap v (.tup [d1, d2])) (hI : IterOk I s.heap) :
    wpAny (model prog w) A (letOwnedTupleGo (.Tuple [.Name x p1, .Name y p2] k tp) (.ref I) v) (fun _ s1 => wpAny (model prog w) A (assign (.Tuple [.Name x p1, .Name y p2] k tp) env v) (fun _ s' => St s0 hb env X (upd (upd σ x (.d d1)) y (.d d2)) s') E' s1) E' s := by
  have r' := r
  obtain ⟨a, vs, n, rfl, _⟩ := r'
  obtain ⟨o, T, fs, ho, hc, hd, hT⟩ := hI
  unfold letOwnedTupleGo
  refine wpAny_bind (wpAny_load ho ?_)
  rw [hc, hd]
  simp only [hT, Bool.false_and, Bool.false_eq_true, if_false]
  exact wpAny_pure (asg_two hA f hx hy q r)
theorem st_two {x y : Str} {p1 p2 tp pos : Pos} {k : Nat} {e : Expr} {rest : List Stmt} {d1 d2 : D} {Q : Flow → Shared → Prop} {E : Value → Shared → Prop} (hA : A.handled = none) (f : Fm hb env) (q : St s0 hb env X σ s) (hx : Sto hb env x) (hy : Sto hb env y)
    (he : Gv prog w A s.heap X (eval e env) (.tup [d1, d2])) (hn : ∀ s', St s0 hb env X (upd (upd σ x (.d d1)) y (.d d2)) s' → wpAny (model prog w) A (execs rest env) Q E s')
    (hs : swapsWithSole [.Tuple [.Name x p1, .Name y p2] k tp] e pos.line env = pure false := by rfl)
    (hw : swappedStores [.Tuple [.Name x p1, .Name y p2] k tp] e env = pure none := by rfl) :
    wpAny (model prog w) A (execs (.Assign [.Tuple [.Name x p1, .Name y p2] k tp] e pos :: rest) env) Q E s :=
  wpAny_execs_cons (PyProof.Rows.Assign_Tuple (he q.xok s _ _ Kp.refl fun v s1 k1 r1 => wpAny_mono (asg_two hA f hx hy (q.up k1) r1) (fun _ s2 q2 => hn s2 q2) fun _ _ e => e) hs hw)
theorem st_pop_two {x y z : Str} {px apos cpos py pz tp pos : Pos} {k : Nat} {rest : List Stmt} {a : Addr} {ds : List D} {d1 d2 : D} {Q : Flow → Shared → Prop} {E : Value → Shared → Prop} (hA : A.handled = none) (f : Fm hb env) (q : St s0 hb env X σ s)
    (hx : σ x = some (.own a (ds ++ [.tup [d1, d2]]))) (hz : ds.length + 1 ≤ sizeLine) (hy : Sto hb env y) (hzz : Sto hb env z)
    (hn : ∀ s', St s0 hb env X (upd (upd (upd σ x (.own a ds)) y (.d d1)) z (.d d2)) s' → wpAny (model prog w) A (execs rest env) Q E s')
    (hbase : attributeBase (.Name x px) (Str.ofString "pop") env (eval (.Name x px) env) = eval (.Name x px) env := by rfl) (hline : (apos.endLine == cpos.line) = true := by rfl)
    (hdb : (x == ("__debug__" : Str)) = false := by decide) :
    wpAny (model prog w) A (execs (.Assign [.Tuple [.Name y py, .Name z pz] k tp] (.Call (.Attribute (.Name x px) (Str.ofString "pop") apos) [] [] cpos) pos :: rest) env) Q E s :=
  wpAny_execs_cons (PyProof.Rows.Assign_Tuple (wp_pop f q hx hz (fun v s1 q1 r1 => wpAny_mono (asg_two hA f hy hzz q1 r1) (fun _ s2 q2 => hn s2 q2) fun _ _ e => e) hbase hline hdb) rfl rfl)
end
end Mine
end
section
open PySem PySem.W PyProof.Rows
namespace Mine

section
variable {prog : Program} {w : World} {A : Around} {env : Env} {h hb : Heap} {X : List Addr} {mg mb : Str → Option Value} {σ : Sg} {s s0 : Shared}

/-- a def of the text, as the heap bears it -/
structure FnAt (h : Heap) (mg : Str → Option Value) (name : Str) (params : Arguments) (body : List Stmt) (scope : Scope) (fa : Addr) : Prop where
  glob : mg name = some (.ref fa)
  obj : ∃ o pm cd doc, h.get? fa = some o ∧ o.data = .func (Calls.docDef name params body scope pm cd doc) ∧ h.CodeRec cd name
theorem FnAt.up {name : Str} {params : Arguments} {body : List Stmt} {scope : Scope} {fa : Addr} {h' : Heap} (x : FnAt h mg name params body scope fa) (k : Kp h h') : FnAt h' mg name params body scope fa :=
  ⟨x.glob, let ⟨o, pm, cd, doc, h1, h2, h3⟩ := x.obj; ⟨o, pm, cd, doc, k _ _ h1, h2, h3.keeps k⟩⟩

/-- what a called def's frame is -/
structure Fr1 (s0 : Shared) (env : Env) (scope : Scope) : Prop where
  fm : Fm s0.heap env
  kind : ∀ x k, scope.names.lookup x = some k → env.kindOf x = some k
  sto : ∀ x, scope.names.lookup x = some .local ∨ scope.names.lookup x = some .cell → Sto s0.heap env x

/-- the names of the parameters, with their data -/
noncomputable def args1 (x : Str) (d : D) : Sg := fun y => if y = x then some (.d d) else none
noncomputable def args2 (x1 : Str) (d1 : D) (x2 : Str) (d2 : D) : Sg := fun y => if y = x2 then some (.d d2) else if y = x1 then some (.d d1) else none

theorem enter_raw {name : Str} {params : Arguments} {body : List Stmt} {scope : Scope} {fa : Addr} {vals : List Value} {binds : List (Str × Value)} {σ : Sg} {Q : Value → Shared → Prop} {E : Value → Shared → Prop} (hd : A.depth < recursionLimit) (hX : XOk X s.heap) (g' : Gl mg mb s.heap) (F : FnAt s.heap mg name params body scope fa)
    (hbind : ∀ pm cd doc, bindArgs (Calls.docDef name params body scope pm cd doc) ⟨vals, []⟩ = pure binds)
    (hkind : ∀ x ∈ binds, scope.names.lookup x.1 = some .local ∨ scope.names.lookup x.1 = some .cell)
    (hσ : ∀ x sl, σ x = some sl → (∀ a ds, sl ≠ .own a ds) ∧ (∀ I l i ns, sl ≠ .iter I l i ns) ∧ ((scope.names.lookup x = some .local ∧ ∃ v, RS X s.heap v sl ∧ ∀ kf : Str → Option NameKind, (∀ y ∈ binds, kf y.1 = scope.names.lookup y.1) → bindL kf binds (fun _ => none) x = some v) ∨
      (scope.names.lookup x = some .cell ∧ ∃ v, RS X s.heap v sl ∧ ∀ kf : Str → Option NameKind, (∀ y ∈ binds, kf y.1 = scope.names.lookup y.1) → bindC kf binds (fun _ => none) x = some v)))
    (hbody : ∀ (env : Env) (s1 : Shared) (E' : Value → Shared → Prop), Fr1 s env scope → St s s.heap env X σ s1 →
      wpAny (model prog w) (A.deeper env) (execs body env) (fun fl s' => ∃ v, fl = .ret v ∧ Q v s') E' s1)
    (hco : scope.isCoroutine = false := by rfl) (hgen : scope.isGenerator = false := by rfl) (hk : scope.kind = .function := by rfl) :
    wpAny (model prog w) A (call (.ref fa) vals) Q E s := by
  obtain ⟨o, pm, cd, doc, ho, hdata, hcode⟩ := F.obj
  refine wpAny_call (codeAny_call_cells hd ho hdata g'.nolimit hcode rfl (hbind pm cd doc) rfl (fun x hx => ?_) (fun s₁ IC => ?_) hco hgen hk)
  · rcases hkind x hx with h1 | h1
    · exact .inl h1
    · obtain ⟨c, hc⟩ := own_look scope.names (s.heap.objs.size + 1) (mem_of_lookup h1)
      exact .inr ⟨h1, by show ((cellsFrom (s.heap.objs.size + 1) scope.names []).lookup x.1).isSome = true; rw [hc]; rfl⟩
  · generalize hce : callEnvC (Calls.docDef name params body scope pm cd doc) s.heap.objs.size fa = cenv at IC ⊢
    have ce_scope : cenv.scope = scope := by rw [← hce]; rfl
    have ce_loc : cenv.locals = s.heap.objs.size := by rw [← hce]; rfl
    have ce_cells : cenv.cells = cellsFrom (s.heap.objs.size + 1) scope.names [] := by rw [← hce]; rfl
    have kf : ∀ x k, scope.names.lookup x = some k → cenv.kindOf x = some k := fun x k e => by unfold Env.kindOf; rw [ce_scope]; exact e
    have sz : s.heap.get? s.heap.objs.size = none := by
      cases e : s.heap.get? s.heap.objs.size with
      | none => rfl
      | some o => exact absurd (Heap.lt_size e) (Nat.lt_irrefl _)
    have fresh : ∀ a, s.heap.objs.size ≤ a → s.heap.get? a = none := fun a ha => by
      cases e : s.heap.get? a with
      | none => rfl
      | some o => exact absurd (Heap.lt_size e) (Nat.not_lt.mpr ha)
    have eo : EnvOk cenv := ⟨by rw [ce_scope]; exact hk, by rw [← hce]; rfl, by rw [← hce]; rfl, fun n n' c h1 h2 => name_of_addr IC.apart (mem_of_lookup h1) (mem_of_lookup h2)⟩
    have fm : Fm s.heap cenv := ⟨eo, by rw [ce_loc]; exact sz⟩
    have fr : Fr1 s cenv scope := ⟨fm, kf, fun x hx => by
      rcases hx with h1 | h1
      · exact .inl (kf x _ h1)
      · obtain ⟨c, hc⟩ := own_look scope.names (s.heap.objs.size + 1) (mem_of_lookup h1)
        have hc' : cenv.cells.lookup x = some c := by rw [ce_cells]; exact hc
        refine .inr ⟨kf x _ h1, c, hc', fresh c ?_⟩
        have := IC.above x c (mem_of_lookup hc')
        rw [ce_loc] at this
        exact Nat.le_of_lt this⟩
    obtain ⟨h₁, tk, e1⟩ := IC.toInCall.same
    have kp1 : Kp s.heap s₁.heap := IC.toInCall.keep
    have st : St s s.heap cenv X σ s₁ := by
      refine ⟨kp1, ⟨_, IC.toInCall.ns⟩, fun n c e => ⟨_, IC.cell n c e⟩, fun x sl e => ?_, hX.up kp1, fun x y a ds a' ds' e1 => absurd rfl ((hσ x _ e1).1 a ds), fun x a ds e1 => absurd rfl ((hσ x _ e1).1 a ds), by rw [e1]; exact ⟨rfl, rfl, rfl⟩,
        fun x I l i ns e1 => absurd rfl ((hσ x _ e1).2.1 I l i ns), fun x y I l i ns I' l' i' ns' e1 => absurd rfl ((hσ x _ e1).2.1 I l i ns)⟩
      have h1 := (hσ x sl e).2.2
      have hkf : ∀ y ∈ binds, cenv.kindOf y.1 = scope.names.lookup y.1 := fun y hy => by unfold Env.kindOf; rw [ce_scope]
      rcases h1 with ⟨hl, v, r, hb⟩ | ⟨hl, v, r, hb⟩
      · exact ⟨v, .inl ⟨kf x _ hl, _, IC.toInCall.ns, hb _ hkf⟩, r.up kp1⟩
      · obtain ⟨c, hc⟩ := own_look scope.names (s.heap.objs.size + 1) (mem_of_lookup hl)
        have hc' : cenv.cells.lookup x = some c := by rw [ce_cells]; exact hc
        refine ⟨v, .inr ⟨.inl (kf x _ hl), c, hc', ?_⟩, r.up kp1⟩
        have := IC.cell x c hc'
        rw [hb _ hkf] at this
        exact this
    refine wpAny_mono (hbody cenv s₁ (fun e s' => wpAny (model prog w) (A.deeper cenv) (leaving cenv e) (fun _ s'' => match (Except.error e : Result) with | .ok (.ret v) => Q v s'' | .ok _ => False | .error e => E e s'') (fun e' s'' => match (Except.error e' : Result) with | .ok (.ret v) => Q v s'' | .ok _ => False | .error e => E e s'') s') fr st) (fun fl s' hq => ?_) fun _ _ e => e
    obtain ⟨v, rfl, r⟩ := hq
    exact r
theorem enter {name : Str} {params : Arguments} {body : List Stmt} {scope : Scope} {fa : Addr} {vals : List Value} {binds : List (Str × Value)} {d : D} {σ : Sg} (hd : A.depth < recursionLimit) (g : Gl mg mb h) (F : FnAt h mg name params body scope fa)
    (hbind : ∀ pm cd doc, bindArgs (Calls.docDef name params body scope pm cd doc) ⟨vals, []⟩ = pure binds)
    (hkind : ∀ x ∈ binds, scope.names.lookup x.1 = some .local ∨ scope.names.lookup x.1 = some .cell)
    (hσ : ∀ x sl, σ x = some sl → ∃ d', sl = .d d' ∧ ((scope.names.lookup x = some .local ∧ ∃ v, Rd X h v d' ∧ ∀ kf : Str → Option NameKind, (∀ y ∈ binds, kf y.1 = scope.names.lookup y.1) → bindL kf binds (fun _ => none) x = some v) ∨
      (scope.names.lookup x = some .cell ∧ ∃ v, Rd X h v d' ∧ ∀ kf : Str → Option NameKind, (∀ y ∈ binds, kf y.1 = scope.names.lookup y.1) → bindC kf binds (fun _ => none) x = some v)))
    (hbody : ∀ (env : Env) (s0 s1 : Shared) (E' : Value → Shared → Prop), Kp h s0.heap → Fr1 s0 env scope → St s0 s0.heap env X σ s1 →
      wpAny (model prog w) (A.deeper env) (execs body env) (fun fl s' => ∃ v, fl = .ret v ∧ Rd X s'.heap v d ∧ Kps s0 s') E' s1)
    (hco : scope.isCoroutine = false := by rfl) (hgen : scope.isGenerator = false := by rfl) (hk : scope.kind = .function := by rfl) :
    Gv prog w A h X (call (.ref fa) vals) d := by
  intro hX s Q E hks hQ
  refine enter_raw (σ := σ) hd (hX.up hks) (g.up hks) (F.up hks) hbind hkind (fun x sl e => ?_) (fun env s1 E' fr st => wpAny_mono (hbody env s s1 E' hks fr st) (fun fl s' ⟨v, e, r, k⟩ => ⟨v, e, hQ v s' k r⟩) fun _ _ e => e) hco hgen hk
  obtain ⟨d', rfl, h1⟩ := hσ x sl e
  refine ⟨(fun _ _ e => nomatch e), (fun _ _ _ _ e => nomatch e), ?_⟩
  rcases h1 with ⟨hl, v, r, hb⟩ | ⟨hl, v, r, hb⟩
  · exact .inl ⟨hl, v, r.up hks, hb⟩
  · exact .inr ⟨hl, v, r.up hks, hb⟩

theorem enter1 {name x : Str} {ap : Arguments} {body : List Stmt} {scope : Scope} {fa : Addr} {vs : List Value} {d1 d : D} (hd : A.depth < recursionLimit) (g : Gl mg mb h) (F : FnAt h mg name ap body scope fa) (r : Rds X h vs [d1])
    (hbind : ∀ v pm cd doc, bindArgs (Calls.docDef name ap body scope pm cd doc) ⟨[v], []⟩ = pure [(x, v)])
    (hkind : scope.names.lookup x = some .local ∨ scope.names.lookup x = some .cell)
    (hbody : ∀ (env : Env) (s0 s1 : Shared) (E' : Value → Shared → Prop), Kp h s0.heap → Fr1 s0 env scope → St s0 s0.heap env X (args1 x d1) s1 →
      wpAny (model prog w) (A.deeper env) (execs body env) (fun fl s' => ∃ v, fl = .ret v ∧ Rd X s'.heap v d ∧ Kps s0 s') E' s1)
    (hco : scope.isCoroutine = false := by rfl) (hgen : scope.isGenerator = false := by rfl) (hk : scope.kind = .function := by rfl) : Gv prog w A h X (call (.ref fa) vs) d := by
  obtain ⟨v, rfl, rv⟩ := r.one
  refine enter (binds := [(x, v)]) hd g F (hbind v) (fun y hy => ?_) (fun y sl e => ?_) hbody hco hgen hk
  · simp at hy; subst hy; exact hkind
  · unfold args1 at e
    by_cases hy : y = x
    · subst hy
      rw [if_pos rfl] at e; cases e
      refine ⟨d1, rfl, ?_⟩
      rcases hkind with h1 | h1
      · refine .inl ⟨h1, v, rv, fun kf hkf => ?_⟩
        have := hkf (y, v) List.mem_cons_self
        dsimp only at this
        rw [h1] at this
        simp [bindL, this]
      · refine .inr ⟨h1, v, rv, fun kf hkf => ?_⟩
        have := hkf (y, v) List.mem_cons_self
        dsimp only at this
        rw [h1] at this
        simp [bindC, this]
    · rw [if_neg hy] at e; cases e

theorem enter2 {name x1 x2 : Str} {ap : Arguments} {body : List Stmt} {scope : Scope} {fa : Addr} {vs : List Value} {d1 d2 d : D} (hd : A.depth < recursionLimit) (g : Gl mg mb h) (F : FnAt h mg name ap body scope fa) (r : Rds X h vs [d1, d2])
    (hbind : ∀ v u pm cd doc, bindArgs (Calls.docDef name ap body scope pm cd doc) ⟨[v, u], []⟩ = pure [(x1, v), (x2, u)])
    (hne : x1 ≠ x2)
    (hkind1 : scope.names.lookup x1 = some .local ∨ scope.names.lookup x1 = some .cell) (hkind2 : scope.names.lookup x2 = some .local ∨ scope.names.lookup x2 = some .cell)
    (hbody : ∀ (env : Env) (s0 s1 : Shared) (E' : Value → Shared → Prop), Kp h s0.heap → Fr1 s0 env scope → St s0 s0.heap env X (args2 x1 d1 x2 d2) s1 →
      wpAny (model prog w) (A.deeper env) (execs body env) (fun fl s' => ∃ v, fl = .ret v ∧ Rd X s'.heap v d ∧ Kps s0 s') E' s1)
    (hco : scope.isCoroutine = false := by rfl) (hgen : scope.isGenerator = false := by rfl) (hk : scope.kind = .function := by rfl) : Gv prog w A h X (call (.ref fa) vs) d := by
  obtain ⟨v, u, rfl, rv, ru⟩ := r.two
  refine enter (binds := [(x1, v), (x2, u)]) hd g F (hbind v u) (fun y hy => ?_) (fun y sl e => ?_) hbody hco hgen hk
  · simp at hy
    rcases hy with rfl | rfl
    · exact hkind1
    · exact hkind2
  · unfold args2 at e
    by_cases hy : y = x2
    · subst hy
      rw [if_pos rfl] at e; cases e
      refine ⟨d2, rfl, ?_⟩
      rcases hkind2 with h1 | h1
      · refine .inl ⟨h1, u, ru, fun kf hkf => ?_⟩
        have := hkf (y, u) (by simp)
        dsimp only at this
        rw [h1] at this
        simp [bindL, this]
      · refine .inr ⟨h1, u, ru, fun kf hkf => ?_⟩
        have := hkf (y, u) (by simp)
        dsimp only at this
        rw [h1] at this
        simp [bindC, this]
    · rw [if_neg hy] at e
      by_cases hy1 : y = x1
      · subst hy1
        rw [if_pos rfl] at e; cases e
        refine ⟨d1, rfl, ?_⟩
        rcases hkind1 with h1 | h1
        · refine .inl ⟨h1, v, rv, fun kf hkf => ?_⟩
          have := hkf (y, v) (by simp)
          dsimp only at this
          rw [h1] at this
          by_cases h2 : kf x2 = some .local
          · simp [bindL, this, h2, hy]
          · simp [bindL, this, h2]
        · refine .inr ⟨h1, v, rv, fun kf hkf => ?_⟩
          have := hkf (y, v) (by simp)
          dsimp only at this
          rw [h1] at this
          by_cases h2 : kf x2 = some .local
          · simp [bindC, this, h2]
          · simp [bindC, this, h2, hy]
      · rw [if_neg hy1] at e; cases e
end
end Mine
end
section
open PySem PySem.W PyProof.Rows
namespace Mine

noncomputable def vloop : List Int → Int → Int → Option (Int × List Int)
  | [], b, val => if Builtin.bitAnd b 64 != 0 then none else some (val, [])
  | c :: r, b, val => if Builtin.bitAnd b 64 != 0 then (if val.natAbs < 2 ^ 64 then vloop r c (Builtin.bitOr (val * 2 ^ (6 : Int).toNat) (Builtin.bitAnd c 63)) else none) else some (val, c :: r)
noncomputable def vread : List Int → Option (Int × List Int)
  | [] => none
  | b :: r => vloop r b (Builtin.bitAnd b 63)

section
variable {prog : Program} {w : World} {A : Around} {env : Env} {h hb : Heap} {X : List Addr} {mg mb : Str → Option Value} {σ : Sg} {s s0 : Shared}

theorem wp_next {I l : Addr} {i : Nat} {items : Array Value} {x : Value} {Q : Value → Shared → Prop} {E : Value → Shared → Prop} (hit : s.heap.IsListIter I l i) (hl : s.heap.IsList l items) (hx : items[i]? = some x)
    (hQ : ∀ h', h'.IsListIter I l (i + 1) → Heap.SameBut I s.heap h' → Q x { s with heap := h' }) : wpAny (model prog w) A (call (.builtin "next") [.ref I]) Q E s := by
  refine Calls.call_function_entry (by decide +kernel) (by decide +kernel) kdk_entry_next (kdk_args_next _) ?_
  unfold Builtin.«next»
  refine wpAny_bind (m := someArgs "next" 1 2 _) (wpAny_of_eq (a := [Value.ref I]) (by first | rfl | kernel_rfl!) ?_)
  dsimp only
  refine wpAny_bind (wpAny_specialOf (name := Str.ofString "__next__") hit.typeIs slot_listiter_next.lookup ?_)
  refine wpAny_ite_split (fun hab => absurd hab (by decide)) (fun _ => ?_)
  obtain ⟨o, ho, hc, hd⟩ := id hit
  obtain ⟨ol, hol, _, nl, hdl⟩ := hl
  refine wpAny_bind (wpAny_callSpecial?_slot (name := Str.ofString "__next__") hit.typeIs slot_listiter_next
    (wpAny_call_entry slot_listiter_next hit.typeIs entry_listiter_next ?_ (args_listiter_next _)))
  show wpAny _ _ (field (.ref I) 0 >>= _) _ _ s
  refine wpAny_bind (wpAny_field ho hd (x := .ref l) rfl ?_)
  show wpAny _ _ (if (Value.ref l == Value.none) = true then _ else _) _ _ s
  rw [if_neg (show ¬ ((Value.ref l == Value.none) = true) from Bool.false_ne_true)]
  show wpAny _ _ (field (.ref I) 1 >>= _) _ _ s
  refine wpAny_bind (wpAny_field ho hd (x := .int i 0) rfl ?_)
  show wpAny _ _ (seqItems? (.ref l) >>= _) _ _ s
  refine wpAny_bind (wpAny_seqItems hol hdl ?_)
  simp only [Int.toNat_natCast, hx]
  refine wpAny_bind (wpAny_setField ho hd (by simp) (wpAny_pure ⟨x, rfl, wpAny_pure ⟨_, rfl, hQ _ ?_ (Heap.SameBut.update ..)⟩⟩))
  exact ⟨_, Heap.get?_update_self _ ho (Obj.isFreed_of_fields (Obj.data_mapFields hd _)), (Obj.cls_mapFields ..).trans hc, by
    rw [Obj.data_mapFields hd]; simp [rawInt]⟩

theorem wp_iter {l : Addr} {items : Array Value} {Q : Value → Shared → Prop} {E : Value → Shared → Prop} (hl : s.heap.IsList l items)
    (hQ : Q (.ref s.heap.objs.size) { s with heap := s.heap.push { cls := .type "list_iterator", data := .fields #[.ref l, .int 0 0] } }) : wpAny (model prog w) A (call (.builtin "iter") [.ref l]) Q E s := by
  refine Calls.call_function_entry (by decide +kernel) (by decide +kernel) kdk_entry_iter (kdk_args_iter _) ?_
  unfold Builtin.«iter»
  refine wpAny_bind (m := someArgs "iter" 1 2 _) (wpAny_of_eq (a := [Value.ref l]) (by first | rfl | kernel_rfl!) ?_)
  show wpAny _ _ (pyIter (.ref l) >>= _) _ _ _
  exact wpAny_bind (wpAny_pyIter_list hl (wpAny_pure ⟨_, rfl, hQ⟩))

theorem St.iter_set (q : St s0 hb env X σ s) {x : Str} {I l : Addr} {i j : Nat} {ns : List Int} {h' : Heap} {tk : Nat} (hx : σ x = some (.iter I l i ns)) (hk : ∀ b o, b ≠ I → s.heap.get? b = some o → h'.get? b = some o) (hit : h'.IsListIter I l j) :
    St s0 hb env X (upd σ x (.iter I l j ns)) { s with heap := h', toks := tk } := by
  obtain ⟨v, at1, rfl, hi, hl, vs, n, hg, hr⟩ := q.var x _ hx
  have q1 : St s0 hb env X (fun y => if y = x then none else σ y) s := q.weak fun y sl e => by
    by_cases hy : y = x
    · rw [if_pos hy] at e; cases e
    · rw [if_neg hy] at e; exact e
  obtain ⟨oi, hoi, hci, hdi⟩ := id hi
  have q2 := q1.walk (tk := tk) (I := I) (h' := h') ⟨oi, _, hoi, hdi⟩ (q.ib x I l i ns hx) (.inr (let ⟨o, ho, _⟩ := hit; ⟨o, ho⟩)) hk (fun y I' l' i' ns' e => by
    by_cases hy : y = x
    · rw [if_pos hy] at e; cases e
    · rw [if_neg hy] at e; exact absurd (q.oi y x _ _ _ _ _ _ _ _ e hx) hy)
  have hlI : l ≠ I := by rintro rfl; rw [hoi] at hg; cases hg; cases hdi
  have seq_up : ∀ b o, b ∉ X → IsSeqO o → s.heap.get? b = some o → h'.get? b = some o := fun b o _ hq e => hk b o (by
    rintro rfl
    rw [hoi] at e; cases e
    obtain ⟨_, _, hq⟩ := hq
    rw [hdi] at hq; cases hq) e
  have updO : ∀ {y : Str} {a : Addr} {ds : List D}, upd σ x (.iter I l j ns) y = some (.own a ds) → y ≠ x ∧ σ y = some (.own a ds) := by
    intro y a ds e
    by_cases hy : y = x
    · subst hy; rw [upd_self_eq] at e; cases e
    · rw [upd_ne hy] at e; exact ⟨hy, e⟩
  refine ⟨q2.kp, q2.nst, q2.cells, fun y sl e => ?_, q2.xok, fun y z a ds a' ds' e1 e2 => q.od y z _ _ _ _ (updO e1).2 (updO e2).2, fun y a ds e => q.ob y a ds (updO e).2, q2.rest, fun y I' l' i' ns' e => ?_, fun y z I1 l1 i1 ns1 I2 l2 i2 ns2 e1 e2 => ?_⟩
  · by_cases hy : y = x
    · subst hy
      rw [upd_self_eq] at e; cases e
      refine ⟨.ref I, ?_, rfl, hit, hl, vs, n, hk _ _ hlI hg, Rds.go (fun _ x => x) seq_up _ hr⟩
      rcases at1 with ⟨k, m, hn, hm⟩ | ⟨k, c, hc, hv⟩
      · refine .inl ⟨k, m, hn.at' fun o e => hk _ o ?_ e, hm⟩
        rintro rfl
        obtain ⟨o, es, ep, ho, hd, _⟩ := hn
        rw [hoi] at ho; cases ho; rw [hdi] at hd; cases hd
      · refine .inr ⟨k, c, hc, ?_⟩
        obtain ⟨o, ho, hd⟩ := hv
        exact ⟨o, hk _ o (by rintro rfl; rw [hoi] at ho; cases ho; rw [hdi] at hd; cases hd) ho, hd⟩
    · rw [upd_ne hy] at e
      exact q2.var y sl (by rw [if_neg hy]; exact e)
  · by_cases hy : y = x
    · subst hy; rw [upd_self_eq] at e; cases e; exact q.ib _ _ _ _ _ hx
    · rw [upd_ne hy] at e; exact q.ib _ _ _ _ _ e
  · by_cases hy : y = x <;> by_cases hz : z = x
    · exact hy.trans hz.symm
    · subst hy; rw [upd_ne hz] at e2; exact absurd (q.oi _ _ _ _ _ _ _ _ _ _ e2 hx) hz
    · subst hz; rw [upd_ne hy] at e1; exact absurd (q.oi _ _ _ _ _ _ _ _ _ _ e1 hx) hy
    · rw [upd_ne hy] at e1; rw [upd_ne hz] at e2; exact q.oi _ _ _ _ _ _ _ _ _ _ e1 e2

/-- y = next(x) -/
theorem st_next {x y f : Str} {px pn cpos py pos : Pos} {rest : List Stmt} {I l : Addr} {i : Nat} {ns : List Int} {b : Int} {Q : Flow → Shared → Prop} {E : Value → Shared → Prop} (fm : Fm hb env) (g : Gl mg mb hb) (q : St s0 hb env X σ s) (hx : σ x = some (.iter I l i ns)) (hxy : x ≠ y)
    (hb' : ns[i]? = some b) (hf : env.kindOf f = some .globalImplicit) (hm : mg f = none) (hbf : mb f = some (.builtin "next")) (hy : Sto hb env y)
    (hn : ∀ s', St s0 hb env X (upd (upd σ x (.iter I l (i + 1) ns)) y (.d (.int b))) s' → wpAny (model prog w) A (execs rest env) Q E s')
    (hdb : (x == ("__debug__" : Str)) = false := by decide) (hdf : (f == ("__debug__" : Str)) = false := by decide) :
    wpAny (model prog w) A (execs (.Assign [.Name y py] (.Call (.Name f pn) [.Name x px] [] cpos) pos :: rest) env) Q E s := by
  obtain ⟨v, at1, rfl, hi, hl, vs, n, hg, hr⟩ := q.var x _ hx
  refine wpAny_execs_cons (PySem.wpAny_Assign_Name (wpAny_bind (wp_bltn fm.eo hf (g.up q.kp) hm hbf (Calls.callWith_builtin rfl (Calls.evalArgs_plain (Calls.spliced_cons (wp_at fm.eo at1 (Calls.spliced_nil ?_) hdb)))) hdf)) rfl)
  obtain ⟨v, hv, t, rfl⟩ := hr.get (i := i) (d := .int b) (by rw [List.getElem?_map, hb']; rfl)
  refine wp_next hi (lo_isList hg) (x := .int b t) (by simpa using hv) fun h' hit' hs' => ?_
  exact st_store_d (d := .int b) fm (q.iter_set (tk := s.toks) hx (fun b o hb e => hs'.extBut b o hb e) hit') hy ⟨t, rfl⟩ fun s2 q2 => hn s2 q2

/-- a name that holds an iterator -/
theorem St.to_iter (q : St s0 hb env X σ s) {x : Str} {I l : Addr} {i : Nat} {ns : List Int} {vs : List Value} {n : Nat} (hx : σ x = some (.val (.ref I))) (hi : s.heap.IsListIter I l i) (hl : l ∉ X) (hg : s.heap.get? l = some (LO vs n)) (hr : Rds X s.heap vs (ns.map .int))
    (hbI : hb.get? I = none) (hno : ∀ y I l i ns, σ y ≠ some (.iter I l i ns)) : St s0 hb env X (upd σ x (.iter I l i ns)) s := by
  have updO : ∀ {y : Str} {a : Addr} {ds : List D}, upd σ x (.iter I l i ns) y = some (.own a ds) → y ≠ x ∧ σ y = some (.own a ds) := by
    intro y a ds e
    by_cases hy : y = x
    · subst hy; rw [upd_self_eq] at e; cases e
    · rw [upd_ne hy] at e; exact ⟨hy, e⟩
  refine ⟨q.kp, q.nst, q.cells, fun y sl e => ?_, q.xok, fun y z a ds a' ds' e1 e2 => q.od y z _ _ _ _ (updO e1).2 (updO e2).2, fun y a ds e => q.ob y a ds (updO e).2, q.rest, fun y I' l' i' ns' e => ?_, fun y z I1 l1 i1 ns1 I2 l2 i2 ns2 e1 e2 => ?_⟩
  · by_cases hy : y = x
    · subst hy
      rw [upd_self_eq] at e; cases e
      obtain ⟨v, at1, rfl⟩ := q.var y _ hx
      exact ⟨_, at1, rfl, hi, hl, vs, n, hg, hr⟩
    · rw [upd_ne hy] at e
      exact q.var y sl e
  · by_cases hy : y = x
    · subst hy; rw [upd_self_eq] at e; cases e; exact hbI
    · rw [upd_ne hy] at e; exact absurd e (hno _ _ _ _ _)
  · by_cases hy : y = x <;> by_cases hz : z = x
    · exact hy.trans hz.symm
    · rw [upd_ne hz] at e2; exact absurd e2 (hno _ _ _ _ _)
    · rw [upd_ne hy] at e1; exact absurd e1 (hno _ _ _ _ _)
    · rw [upd_ne hy] at e1; exact absurd e1 (hno _ _ _ _ _)
end
end Mine
end
section
open PySem PySem.W PyProof.Rows PySem.SeqAt
namespace Mine

mutual
noncomputable def toP : D → PyData
  | .none => .none
  | .bool b => .bool b
  | .int i => .int i
  | .str x => .str x
  | .tup ds => .tuple (toPs ds)
  | .lst ds => .list (toPs ds)
noncomputable def toPs : List D → List PyData
  | [] => []
  | d :: ds => toP d :: toPs ds
end
mutual
theorem Rd.reads {X : List Addr} {h : Heap} : ∀ {v : Value} (d : D), Rd X h v d → ∃ as, Reads h v (toP d) as
  | _, .none, r => by rw [show _ = Value.none from r]; exact ⟨_, .none⟩
  | _, .bool b, r => by rw [show _ = Value.bool b from r]; exact ⟨_, .bool b⟩
  | _, .int i, ⟨t, e⟩ => by rw [e]; exact ⟨_, .int i t⟩
  | _, .str x, ⟨t, e⟩ => by rw [e]; exact ⟨_, .str x t⟩
  | _, .tup ds, ⟨a, vs, n, e, hn, hg, hr⟩ => by
    obtain ⟨as, q⟩ := Rds.reads ds hr
    rw [e, toP]; exact ⟨_, .tuple hg rfl rfl (by simpa using q)⟩
  | _, .lst ds, ⟨a, vs, n, e, hn, hg, hr⟩ => by
    obtain ⟨as, q⟩ := Rds.reads ds hr
    rw [e, toP]; exact ⟨_, .list hg rfl rfl (by simpa using q)⟩
theorem Rds.reads {X : List Addr} {h : Heap} : ∀ {vs : List Value} (ds : List D), Rds X h vs ds → ∃ as, ReadsAll h vs (toPs ds) as
  | [], [], _ => ⟨_, .nil⟩
  | _ :: _, d :: ds, r => by
    obtain ⟨as, q⟩ := Rd.reads d r.1
    obtain ⟨bs, p⟩ := Rds.reads ds r.2
    rw [toPs]; exact ⟨_, .cons q p⟩
  | [], _ :: _, r => r.elim
  | _ :: _, [], r => r.elim
end
/-- data that may be compared: texts of real signs, depth told -/
noncomputable def Lay (d : D) (k : Nat) : Prop := (toP d).canLay0 = true ∧ (toP d).depth ≤ k

section
variable {prog : Program} {w : World} {A : Around} {env : Env} {h hb : Heap} {X : List Addr} {mg mb : Str → Option Value} {σ : Sg} {s s0 : Shared}

theorem eq_dd {a b : D} {k : Nat} (ha : Lay a k) (hb : (toP b).canLay0 = true) (hu : A.units + k < cLine) : CmpD prog w A X .Eq a b (PyData.eqv (toP a) (toP b)) := by
  intro h v1 v2 r1 r2 hX s Q E hk hQ
  obtain ⟨as, q1⟩ := Rd.reads a (r1.up hk)
  obtain ⟨bs, q2⟩ := Rd.reads b (r2.up hk)
  exact compareEq_reads q1 q2 ha.1 hb (by have := ha.2; omega) (hQ _ _ keeps_refl rfl)
theorem ne_dd {a b : D} {k : Nat} (ha : Lay a k) (hb : (toP b).canLay0 = true) (hu : A.units + k < cLine) : CmpD prog w A X .NotEq a b (!PyData.eqv (toP a) (toP b)) := by
  intro h v1 v2 r1 r2 hX s Q E hk hQ
  obtain ⟨as, q1⟩ := Rd.reads a (r1.up hk)
  obtain ⟨bs, q2⟩ := Rd.reads b (r2.up hk)
  exact compareNe_reads q1 q2 ha.1 hb (by have := ha.2; omega) (hQ _ _ keeps_refl rfl)
theorem eq_same {a : D} {k : Nat} (ha : Lay a k) (hu : A.units + k < cLine) : CmpD prog w A X .Eq a a true := by
  have := eq_dd (prog := prog) (w := w) (X := X) ha ha.1 hu
  rwa [eqv_refl _ ha.1] at this
theorem ne_same {a : D} {k : Nat} (ha : Lay a k) (hu : A.units + k < cLine) : CmpD prog w A X .NotEq a a false := by
  have := ne_dd (prog := prog) (w := w) (X := X) ha ha.1 hu
  rwa [eqv_refl _ ha.1] at this

theorem ord_c {c : Nat} (h' : Heap) (vs : List Value) (r : Rds X h' vs [.str ⟨#[c]⟩]) : Gv prog w A h' X (call (.builtin "ord") vs) (.int c) := by
  obtain ⟨v, rfl, t, rfl⟩ := r.one
  intro hX s Q E hk hQ
  exact PySem.P.ord_of_char (hQ _ _ keeps_tok ⟨_, rfl⟩)
theorem chr_i {i : Int} (h0 : 0 ≤ i) (h1 : i ≤ 1114111) (h' : Heap) (vs : List Value) (r : Rds X h' vs [.int i]) : Gv prog w A h' X (call (.builtin "chr") vs) (.str ⟨#[i.toNat]⟩) := by
  obtain ⟨v, rfl, t, rfl⟩ := r.one
  intro hX s Q E hk hQ
  exact chr_of_range h0 h1 (hQ _ _ keeps_tok ⟨_, rfl⟩)
theorem sum_l {ns : List Int} (hA : A.handled = none) (h' : Heap) (vs : List Value) (r : Rds X h' vs [.lst (ns.map .int)]) : Gv prog w A h' X (call (.builtin "sum") vs) (.int ns.sum) := by
  obtain ⟨v, rfl, a, us, n, rfl, hn, hg, hr⟩ := r.one
  intro hX s Q E hk hQ
  have hg' := hk _ _ hg
  have hlen : us.length = ns.length := by rw [hr.length, List.length_map]
  have val : ∀ (i : Nat) (v : Value), us.toArray[i]? = some v → ∃ t, v = Value.int (ns.getD i 0) t := fun i v e => by
    have e' : us[i]? = some v := by rw [List.getElem?_toArray] at e; exact e
    obtain ⟨d, hd, rd⟩ := hr.getV (i := i) (v := v) e'
    rw [List.getElem?_map] at hd
    cases hi : ns[i]? with
    | none => rw [hi] at hd; cases hd
    | some k =>
      rw [hi] at hd; cases hd
      obtain ⟨t, rfl⟩ := rd
      exact ⟨t, by rw [List.getD_eq_getElem?_getD, hi]; rfl⟩
  refine call_sum_walkG (wpAny_pyIter_list (lo_isList hg') ⟨s.heap.objs.size, [s.heap.objs.size, a], [s.heap.objs.size], us.toArray.size, _, _, fun i => ns.getD i 0, rfl, Walks.list (A := A.in1) hA s.heap.objs.size a (Nat.ne_of_lt (Heap.lt_size hg')) us.toArray,
    ⟨⟨_, Heap.get?_push_size _ rfl, rfl, rfl⟩, lo_isList (n := n) (Heap.get?_push_of_some _ hg')⟩, fun b hb => ?_, val, fun h2 tk t' hk2 => ?_⟩)
  · have := Heap.lt_size hg'
    rw [Heap.size_push]
    simp at hb
    rcases hb with rfl | rfl
    · exact Nat.lt_succ_self _
    · exact Nat.lt_succ_of_lt this
  · have e : preSum (fun i => ns.getD i 0) us.toArray.size = ns.sum := by
      rw [List.size_toArray, hlen, preSum_getD, List.take_length]
    rw [e]
    exact hQ _ _ (keeps_heap fun b o eb => hk2 b o (by
      intro hm
      simp at hm
      subst hm
      exact Nat.lt_irrefl _ (Heap.lt_size eb)) (kp_push _ _ eb)) ⟨_, rfl⟩
theorem in_ss {x y : Str} : CmpD prog w A X .In (.str y) (.str x) (!(Builtin.Str.occurrences x y 0 x.length 1).isEmpty) := by
  rintro h _ _ ⟨t, rfl⟩ ⟨u, rfl⟩ hX s Q E hk hQ
  exact PyProof.Rows.in_str (hQ _ _ keeps_refl rfl)
/-- text.index(text) -/
theorem ev_index {o e : Expr} {apos pos : Pos} {x y : Str} {i : Nat} {rest : List Nat} (ho : Gv prog w A h X (eval o env) (.str x)) (he : Gv prog w A h X (eval e env) (.str y)) (hi : Builtin.Str.occurrences x y 0 x.length 1 = i :: rest)
    (hbase : attributeBase o (Str.ofString "index") env (eval o env) = eval o env := by rfl) (hs : starEach [e] env = [(false, eval e env)] := by rfl) (hline : (apos.endLine == pos.line) = true := by rfl) :
    Gv prog w A h X (eval (.Call (.Attribute o (Str.ofString "index") apos) [e] [] pos) env) (.int i) := fun hX s Q E hk hQ =>
  Call_method1 hbase hs hline (ho hX s _ _ hk fun v s1 k1 r1 => by
    obtain ⟨t, rfl⟩ := r1
    refine ⟨"str", "str.index", PySem.F.plainAttrs_str, PySem.F.slot_str_index, PySem.F.type_str_index, typeIs_str _ _ _, (fun _ e => nomatch e), ?_⟩
    refine Calls.callWith_builtin rfl (Calls.evalArgs_plain (Calls.spliced_cons (he hX s1 _ _ (hk.trans k1.kp) fun v2 s2 k2 r2 => Calls.spliced_nil ?_)))
    obtain ⟨u, rfl⟩ := r2
    exact SC.index hi (hQ _ _ (k1.tr (k2.tr keeps_tok)) ⟨_, rfl⟩))
end
end Mine
end
section
open PySem PySem.W PyProof.Rows
namespace Mine

noncomputable def cd1 : Array Nat := #[14, 4, 0, 1, 1, 6, 1, 16, 46, 1]
/-- the first machine, about to try at place s -/
noncomputable def S1 (text : Array Nat) (lim s : Nat) (must outer : Bool) (seen : Sre.Seen) : Sre.M :=
  { code := cd1, text, lim, start := s, lastStart := lim, wholeText := false, mustAdvance := must, pc := 5, pos := s, handed := s, outermost := outer, marks := #[], lastmark := -1, lastindex := -1, loops := #[], inner := none,
    frames := [{ wait := .nextStart, pc := 5, pos := s, outermost := outer }], weight := 1, answer := none, seen := seen, outcome := none }
/-- the machine comes to an end, in n steps or fewer -/
noncomputable def Ends (n : Nat) (m F : Sre.M) : Prop := ∃ k, k ≤ n ∧ Sre.M.runFor k m = F ∧ F.outcome.isSome = true
theorem Ends.done {n : Nat} {m : Sre.M} (h : m.outcome.isSome = true) : Ends n m m := ⟨0, Nat.zero_le _, rfl, h⟩
theorem Ends.next {n : Nat} {m F : Sre.M} (h : m.outcome = none) (e : Ends n m.step F) : Ends (n + 1) m F := by
  obtain ⟨k, h0, h1, h2⟩ := e
  refine ⟨k + 1, Nat.succ_le_succ h0, ?_, h2⟩
  show (if m.outcome.isSome then m else Sre.M.runFor k m.step) = F
  rw [h]; exact h1
theorem Ends.of {n : Nat} {m m' F : Sre.M} (h : m.outcome = none) (hs : m.step = m') (e : Ends n m' F) : Ends (n + 1) m F := .next h (hs ▸ e)
theorem Ends.weak {n n' : Nat} {m F : Sre.M} (e : Ends n m F) (h : n ≤ n') : Ends n' m F := let ⟨k, h0, h1⟩ := e; ⟨k, Nat.le_trans h0 h, h1⟩
theorem runFor_done : ∀ (k : Nat) {m : Sre.M}, m.outcome.isSome = true → Sre.M.runFor k m = m
  | 0, _, _ => rfl
  | k + 1, m, h => by show (if m.outcome.isSome then m else _) = m; rw [h]; rfl
theorem runFor_add : ∀ (a b : Nat) (m : Sre.M), Sre.M.runFor (a + b) m = Sre.M.runFor b (Sre.M.runFor a m)
  | 0, b, m => by rw [Nat.zero_add]; rfl
  | a + 1, b, m => by
    rw [Nat.add_right_comm]
    show (if m.outcome.isSome then m else Sre.M.runFor (a + b) m.step) = Sre.M.runFor b (if m.outcome.isSome then m else Sre.M.runFor a m.step)
    cases h : m.outcome.isSome
    · simp only [Bool.false_eq_true, if_false]; exact runFor_add a b _
    · simp only [if_true]; exact (runFor_done b h).symm

theorem step1a (text : Array Nat) (lim s : Nat) (must outer : Bool) (seen : Sre.Seen) :
    (S1 text lim s must outer seen).step = if (s == 0 || text.getD (s - 1) 0 == 10) = true then { S1 text lim s must outer ((seen.add 6).add 44) with pc := 7 } else { S1 text lim s must outer ((seen.add 6).add 44) with answer := some false } := by
  rfl
theorem step1b (text : Array Nat) (lim s : Nat) (must outer : Bool) (seen : Sre.Seen) :
    ({ S1 text lim s must outer seen with pc := 7 } : Sre.M).step = if s ≥ lim then { S1 text lim s must outer (seen.add 16) with pc := 7, answer := some false } else
      (match (text.getD s 0 == 46) with
        | false => { S1 text lim s must outer (seen.add 16) with pc := 7, answer := some false }
        | true => { S1 text lim s must outer (seen.add 16) with pc := 9, pos := s + 1 }) := by
  show (if s ≥ lim then _ else _) = _
  split
  · rfl
  · cases hq : (text.getD s 0 == 46)
    · show (match (Except.ok ((text.getD s 0 == 46), seen.add 16) : Except String (Bool × Sre.Seen)) with | .error why => _ | .ok (false, seen) => _ | .ok (true, seen) => _) = _
      rw [hq]; rfl
    · show (match (Except.ok ((text.getD s 0 == 46), seen.add 16) : Except String (Bool × Sre.Seen)) with | .error why => _ | .ok (false, seen) => _ | .ok (true, seen) => _) = _
      rw [hq]; rfl
theorem step1c (text : Array Nat) (lim s : Nat) (must outer : Bool) (seen : Sre.Seen) :
    ({ S1 text lim s must outer seen with pc := 9, pos := s + 1 } : Sre.M).step = { S1 text lim s must outer (seen.add 1) with pc := 9, pos := s + 1, handed := s + 1, answer := some true } := by
  show (if (outer && ((false && (s + 1 != lim)) || (must && (s + 1 == s)))) = true then _ else _) = _
  have : (s + 1 == s) = false := by simp
  rw [this, Bool.and_false, Bool.false_and, Bool.or_false, Bool.and_false, if_neg Bool.false_ne_true]
  rfl
/-- an attempt that said no: on to the next place, or the end -/
theorem step1f (text : Array Nat) (lim s pc : Nat) (must outer : Bool) (seen : Sre.Seen) :
    ({ S1 text lim s must outer seen with pc := pc, answer := some false } : Sre.M).step = if s < lim then S1 text lim (s + 1) false false seen else { S1 text lim s must outer seen with frames := [], weight := 0, answer := some false } := by
  show (if s < lim then _ else _) = _
  split <;> rfl
theorem step1t (text : Array Nat) (lim s : Nat) (must outer : Bool) (seen : Sre.Seen) :
    ({ S1 text lim s must outer seen with pc := 9, pos := s + 1, handed := s + 1, answer := some true } : Sre.M).step = { S1 text lim s must outer seen with handed := s + 1, frames := [], weight := 0, answer := some true } := rfl
theorem step1e (text : Array Nat) (lim s : Nat) (must outer : Bool) (seen : Sre.Seen) :
    ({ S1 text lim s must outer seen with handed := s + 1, frames := [], weight := 0, answer := some true } : Sre.M).step = { S1 text lim s must outer seen with handed := s + 1, frames := [], weight := 0, answer := some true, outcome := some .matched } := rfl
theorem step1g (text : Array Nat) (lim s : Nat) (must outer : Bool) (seen : Sre.Seen) :
    ({ S1 text lim s must outer seen with frames := [], weight := 0, answer := some false } : Sre.M).step = { S1 text lim s must outer seen with frames := [], weight := 0, answer := some false, outcome := some .failed } := rfl

noncomputable def ok1 (text : Array Nat) (s : Nat) : Bool := (s == 0 || text.getD (s - 1) 0 == 10) && text.getD s 0 == 46
noncomputable def find1 (text : Array Nat) : Nat → Nat → Option Nat
  | 0, _ => none
  | k + 1, s => if ok1 text s then some s else find1 text k (s + 1)
noncomputable def Said (F : Sre.M) : Option (Nat × Nat) → Prop
  | some (p, e) => F.outcome = some .matched ∧ F.start = p ∧ F.handed = e
  | none => F.outcome = some .failed

theorem run1 (text : Array Nat) (lim : Nat) : ∀ (k s : Nat) (must outer : Bool) (seen : Sre.Seen), s + k = lim → ∃ F, Ends (3 * k + 9) (S1 text lim s must outer seen) F ∧ Said F ((find1 text k s).map fun p => (p, p + 1))
  | 0, s, must, outer, seen, hk => by
    show ∃ F, Ends 9 _ F ∧ _
    have no : ∀ (pc : Nat) (seen : Sre.Seen), ∃ F, Ends 7 ({ S1 text lim s must outer seen with pc := pc, answer := some false } : Sre.M) F ∧ Said F none := fun pc seen =>
      ⟨{ S1 text lim s must outer seen with frames := [], weight := 0, answer := some false, outcome := some .failed }, .of rfl (step1f text lim s pc must outer seen) (by
        rw [if_neg (by omega)]
        exact .of rfl (step1g text lim s must outer seen) (.done rfl)), rfl⟩
    by_cases ha : (s == 0 || text.getD (s - 1) 0 == 10) = true
    · obtain ⟨F, hF, hS⟩ := no 7 ((seen.add 6).add 44 |>.add 16)
      refine ⟨F, .of rfl (step1a text lim s must outer seen) ?_, hS⟩
      rw [if_pos ha]
      refine .of rfl (step1b text lim s must outer _) ?_
      rw [if_pos (by omega)]
      exact hF
    · obtain ⟨F, hF, hS⟩ := no 5 ((seen.add 6).add 44)
      refine ⟨F, .of rfl (step1a text lim s must outer seen) ?_, hS⟩
      rw [if_neg ha]
      exact hF.weak (by omega)
  | k + 1, s, must, outer, seen, hk => by
    show ∃ F, Ends (3 * k + 12) _ F ∧ _
    have no : ∀ (pc : Nat) (seen : Sre.Seen), ok1 text s = false → ∃ F, Ends (3 * k + 10) ({ S1 text lim s must outer seen with pc := pc, answer := some false } : Sre.M) F ∧ Said F ((find1 text (k + 1) s).map fun p => (p, p + 1)) := fun pc seen hno => by
      obtain ⟨F, hF, hS⟩ := run1 text lim k (s + 1) false false seen (by omega)
      refine ⟨F, .of rfl (step1f text lim s pc must outer seen) ?_, ?_⟩
      · rw [if_pos (by omega)]; exact hF
      · unfold find1; rw [hno]; exact hS
    by_cases ha : (s == 0 || text.getD (s - 1) 0 == 10) = true
    · cases hb : (text.getD s 0 == 46) with
      | false =>
        obtain ⟨F, hF, hS⟩ := no 7 ((seen.add 6).add 44 |>.add 16) (by unfold ok1; rw [hb, Bool.and_false])
        refine ⟨F, .of rfl (step1a text lim s must outer seen) ?_, hS⟩
        rw [if_pos ha]
        refine .of rfl (step1b text lim s must outer _) ?_
        rw [if_neg (by omega), hb]
        exact hF
      | true =>
        have hok : ok1 text s = true := by unfold ok1; rw [ha, hb]; rfl
        refine ⟨{ S1 text lim s must outer ((((seen.add 6).add 44).add 16).add 1) with handed := s + 1, frames := [], weight := 0, answer := some true, outcome := some .matched }, .of rfl (step1a text lim s must outer seen) ?_, ?_⟩
        · rw [if_pos ha]
          refine .of rfl (step1b text lim s must outer _) ?_
          rw [if_neg (by omega), hb]
          exact .of rfl (step1c text lim s must outer _) (.of rfl (step1t text lim s must outer _) (.of rfl (step1e text lim s must outer _) (.done rfl)))
        · unfold find1; rw [hok]; exact ⟨rfl, rfl, rfl⟩
    · obtain ⟨F, hF, hS⟩ := no 5 ((seen.add 6).add 44) (by unfold ok1; rw [Bool.eq_false_iff.mpr ha]; rfl)
      refine ⟨F, .of rfl (step1a text lim s must outer seen) ?_, hS⟩
      rw [if_neg ha]
      exact hF.weak (by omega)
theorem search1 (text : Array Nat) (start : Nat) (must : Bool) (h : start ≤ text.size) : ∃ F, Ends (3 * text.size + 20) (Sre.forSearch cd1 text 0 start text.size must) F ∧ Said F ((find1 text (text.size - start) start).map fun p => (p, p + 1)) := by
  have e : Sre.forSearch cd1 text 0 start text.size must = if (decide (start > text.size) || decide (text.size - start < 1)) = true then { S1 text text.size start must true (({} : Sre.Seen).add 14) with frames := [], weight := 0, lastStart := 0, answer := some false } else S1 text text.size start must true (({} : Sre.Seen).add 14) := by
    rfl
  rw [e]
  by_cases hs : text.size - start < 1
  · rw [if_pos (by simp [hs])]
    refine ⟨_, .next rfl (.done rfl), ?_⟩
    rw [show text.size - start = 0 by omega]
    rfl
  · rw [if_neg (by simp; omega)]
    obtain ⟨F, hF, hS⟩ := run1 text text.size (text.size - start) start must true (({} : Sre.Seen).add 14) (by omega)
    exact ⟨F, hF.weak (by omega), hS⟩
end Mine
end
section
open PySem PySem.W PyProof.Rows
namespace Mine

noncomputable def cd2 : Array Nat := #[14, 9, 4, 1, 2, 16, 10, 16, 13, 0, 7, 7, 16, 13, 16, 10, 15, 18, 5, 16, 10, 15, 13, 11, 16, 13, 5, 5, 0, 16, 10, 1, 15, 2, 0, 1]
/-- the second machine at work on place s -/
noncomputable def S2 (text : Array Nat) (lim s pc pos handed : Nat) (outer : Bool) (frames : List Sre.Frame) (weight : Nat) (answer : Option Bool) (seen : Sre.Seen) : Sre.M :=
  { code := cd2, text, lim, start := s, lastStart := lim, wholeText := false, mustAdvance := false, pc, pos, handed, outermost := outer, marks := #[], lastmark := -1, lastindex := -1, loops := #[], inner := none, frames, weight, answer, seen, outcome := none }
noncomputable def fStart (s : Nat) (outer : Bool) : Sre.Frame := { wait := .nextStart, pc := 10, pos := s, outermost := outer }
noncomputable def fBr (s alt : Nat) (outer : Bool) : Sre.Frame := { wait := .nextBranch, pc := alt, pos := s, outermost := outer }
noncomputable def fLook (p : Nat) (outer : Bool) : Sre.Frame := { wait := .lookNot, pc := 26, pos := p, outermost := outer }

section
variable (text : Array Nat) (lim s pos handed : Nat) (outer : Bool) (frames : List Sre.Frame) (weight : Nat) (seen : Sre.Seen)
theorem lit2 (pc c : Nat) (h : (pc, c) ∈ [(12, 13), (14, 10), (19, 10), (24, 13), (29, 10)]) :
    (S2 text lim s pc pos handed outer frames weight none seen).step = if pos < lim ∧ text.getD pos 0 = c then S2 text lim s (pc + 2) (pos + 1) handed outer frames weight none (seen.add 16) else S2 text lim s pc pos handed outer frames weight (some false) (seen.add 16) := by
  simp only [List.mem_cons, Prod.mk.injEq, List.not_mem_nil, or_false] at h
  rcases h with ⟨rfl, rfl⟩ | ⟨rfl, rfl⟩ | ⟨rfl, rfl⟩ | ⟨rfl, rfl⟩ | ⟨rfl, rfl⟩ <;> by_cases hp : pos ≥ lim
  all_goals first
    | (rw [if_neg (by omega)]
       show (if pos ≥ lim then _ else _) = _
       rw [if_pos hp]; rfl)
    | (show (if pos ≥ lim then _ else _) = _
       rw [if_neg hp]
       first
       | (cases hq : (text.getD pos 0 == 13)
          · rw [if_neg (by simp at hq; simp [hq])]
            show (match (Except.ok ((text.getD pos 0 == 13), seen.add 16) : Except String (Bool × Sre.Seen)) with | .error why => _ | .ok (false, seen) => _ | .ok (true, seen) => _) = _
            rw [hq]; rfl
          · rw [if_pos (by simp at hq; exact ⟨by omega, by simpa using hq⟩)]
            show (match (Except.ok ((text.getD pos 0 == 13), seen.add 16) : Except String (Bool × Sre.Seen)) with | .error why => _ | .ok (false, seen) => _ | .ok (true, seen) => _) = _
            rw [hq]; rfl)
       | (cases hq : (text.getD pos 0 == 10)
          · rw [if_neg (by simp at hq; simp [hq])]
            show (match (Except.ok ((text.getD pos 0 == 10), seen.add 16) : Except String (Bool × Sre.Seen)) with | .error why => _ | .ok (false, seen) => _ | .ok (true, seen) => _) = _
            rw [hq]; rfl
          · rw [if_pos (by simp at hq; exact ⟨by omega, by simpa using hq⟩)]
            show (match (Except.ok ((text.getD pos 0 == 10), seen.add 16) : Except String (Bool × Sre.Seen)) with | .error why => _ | .ok (false, seen) => _ | .ok (true, seen) => _) = _
            rw [hq]; rfl))
theorem br2 : (S2 text lim s 10 s s outer [fStart s outer] 1 none seen).step = S2 text lim s 12 s s outer [fBr s 11 outer, fStart s outer] 2 none (seen.add 7) := rfl
theorem jmp2 (pc : Nat) (h : pc = 16 ∨ pc = 21 ∨ pc = 32) : (S2 text lim s pc pos handed outer frames weight none seen).step = S2 text lim s 35 pos handed outer frames weight none (seen.add 15) := by
  rcases h with rfl | rfl | rfl <;> rfl
theorem suc2 : (S2 text lim s 35 pos handed outer frames weight none seen).step = S2 text lim s 35 pos pos outer frames weight (some true) (seen.add 1) := by
  show (if (outer && ((false && (pos != lim)) || (false && (pos == s)))) = true then _ else _) = _
  rw [Bool.false_and, Bool.false_and, Bool.or_false, Bool.and_false, if_neg Bool.false_ne_true]
  rfl
theorem yes2 (pc alt : Nat) : (S2 text lim s pc pos handed outer [fBr s alt outer, fStart s outer] 2 (some true) seen).step = S2 text lim s alt s handed outer [fStart s outer] 1 (some true) seen := rfl
theorem yess2 (pc : Nat) : (S2 text lim s pc pos handed outer [fStart s outer] 1 (some true) seen).step = S2 text lim s 10 s handed outer [] 0 (some true) seen := rfl
theorem no2a (pc : Nat) : (S2 text lim s pc pos handed outer [fBr s 11 outer, fStart s outer] 2 (some false) seen).step = S2 text lim s 19 s s outer [fBr s 18 outer, fStart s outer] 2 none seen := rfl
theorem no2b (pc : Nat) : (S2 text lim s pc pos handed outer [fBr s 18 outer, fStart s outer] 2 (some false) seen).step = S2 text lim s 24 s s outer [fBr s 23 outer, fStart s outer] 2 none seen := rfl
theorem not2 : (S2 text lim s 26 pos handed outer [fBr s 23 outer, fStart s outer] 2 none seen).step = S2 text lim s 29 pos pos false [fLook pos outer, fBr s 23 outer, fStart s outer] 3 none (seen.add 5) := rfl
theorem look2 (pc p : Nat) : (S2 text lim s pc p handed false [fLook pos outer, fBr s 23 outer, fStart s outer] 3 (some false) seen).step = S2 text lim s 32 pos handed outer [fBr s 23 outer, fStart s outer] 2 none seen := rfl
end
noncomputable def find2 (text : Array Nat) : Nat → Nat → Option (Nat × Nat)
  | 0, _ => none
  | k + 1, s => if text.getD s 0 = 10 then some (s, s + 1) else if text.getD s 0 = 13 then some (s, if 1 ≤ k ∧ text.getD (s + 1) 0 = 10 then s + 2 else s + 1) else find2 text k (s + 1)
theorem end2 (text : Array Nat) (lim s pos handed alt : Nat) (outer : Bool) (seen : Sre.Seen) : ∃ F, Ends 20 (S2 text lim s 35 pos handed outer [fBr s alt outer, fStart s outer] 2 none seen) F ∧ Said F (some (s, pos)) :=
  ⟨{ S2 text lim s 10 s pos outer [] 0 (some true) (seen.add 1) with outcome := some .matched },
    .of rfl (suc2 ..) (.of rfl (yes2 ..) (.of rfl (yess2 ..) (.next rfl (.done rfl)))), rfl, rfl, rfl⟩
theorem try2 (text : Array Nat) (lim s k : Nat) (outer : Bool) (seen : Sre.Seen) (hk : s + (k + 1) = lim) (hs : text.getD s 0 = 10 ∨ text.getD s 0 = 13) :
    ∃ F, Ends 40 (S2 text lim s 10 s s outer [fStart s outer] 1 none seen) F ∧ Said F (find2 text (k + 1) s) := by
  rcases hs with hs | hs
  · obtain ⟨F, hF, hS⟩ := end2 text lim s (s + 1) s 18 outer ((((seen.add 7).add 16).add 16).add 15)
    refine ⟨F, .of rfl (br2 ..) (.of rfl (lit2 _ _ _ _ _ _ _ _ _ 12 13 (by simp)) ?_), by unfold find2; rw [if_pos hs]; exact hS⟩
    rw [if_neg (by rw [hs]; simp)]
    refine .of rfl (no2a ..) (.of rfl (lit2 _ _ _ _ _ _ _ _ _ 19 10 (by simp)) ?_)
    rw [if_pos ⟨by omega, hs⟩]
    exact .of rfl (jmp2 _ _ _ _ _ _ _ _ _ 21 (by simp)) (hF.weak (by omega))
  · by_cases hn : 1 ≤ k ∧ text.getD (s + 1) 0 = 10
    · obtain ⟨F, hF, hS⟩ := end2 text lim s (s + 2) s 11 outer ((((seen.add 7).add 16).add 16).add 15)
      refine ⟨F, .of rfl (br2 ..) (.of rfl (lit2 _ _ _ _ _ _ _ _ _ 12 13 (by simp)) ?_), by unfold find2; rw [if_neg (by rw [hs]; simp), if_pos hs, if_pos hn]; exact hS⟩
      rw [if_pos ⟨by omega, hs⟩]
      refine .of rfl (lit2 _ _ _ _ _ _ _ _ _ 14 10 (by simp)) ?_
      rw [if_pos ⟨by omega, hn.2⟩]
      exact .of rfl (jmp2 _ _ _ _ _ _ _ _ _ 16 (by simp)) (hF.weak (by omega))
    · have hm : ¬(s + 1 < lim ∧ text.getD (s + 1) 0 = 10) := fun hh => hn ⟨by omega, hh.2⟩
      obtain ⟨F, hF, hS⟩ := end2 text lim s (s + 1) (s + 1) 23 outer ((((((((seen.add 7).add 16).add 16).add 16).add 16).add 5).add 16).add 15)
      refine ⟨F, .of rfl (br2 ..) (.of rfl (lit2 _ _ _ _ _ _ _ _ _ 12 13 (by simp)) ?_), by unfold find2; rw [if_neg (by rw [hs]; simp), if_pos hs, if_neg hn]; exact hS⟩
      rw [if_pos ⟨by omega, hs⟩]
      refine .of rfl (lit2 _ _ _ _ _ _ _ _ _ 14 10 (by simp)) ?_
      rw [if_neg hm]
      refine .of rfl (no2a ..) (.of rfl (lit2 _ _ _ _ _ _ _ _ _ 19 10 (by simp)) ?_)
      rw [if_neg (by rw [hs]; simp)]
      refine .of rfl (no2b ..) (.of rfl (lit2 _ _ _ _ _ _ _ _ _ 24 13 (by simp)) ?_)
      rw [if_pos ⟨by omega, hs⟩]
      refine .of rfl (not2 ..) (.of rfl (lit2 _ _ _ _ _ _ _ _ _ 29 10 (by simp)) ?_)
      rw [if_neg hm]
      exact .of rfl (look2 ..) (.of rfl (jmp2 _ _ _ _ _ _ _ _ _ 32 (by simp)) (hF.weak (by omega)))

/-- the first place that the set lets in -/
noncomputable def adm2 (text : Array Nat) : Nat → Nat → Option Nat
  | 0, _ => none
  | k + 1, s => if text.getD s 0 = 10 ∨ text.getD s 0 = 13 then some s else adm2 text k (s + 1)
theorem inSet2 (c : Nat) (seen : Sre.Seen) : ∃ seen', Sre.inSet cd2 c cd2.size 5 true seen = .ok (decide (c = 10 ∨ c = 13), seen') := by
  have e : Sre.inSet cd2 c cd2.size 5 true seen = if (c == 10) = true then .ok (true, seen.add 16) else if (c == 13) = true then .ok (true, (seen.add 16).add 16) else .ok (false, ((seen.add 16).add 16).add 0) := rfl
  rw [e]
  by_cases h1 : c = 10
  · subst h1; exact ⟨_, rfl⟩
  · by_cases h2 : c = 13
    · subst h2; exact ⟨_, rfl⟩
    · rw [if_neg (by simpa using h1), if_neg (by simpa using h2)]
      exact ⟨((seen.add 16).add 16).add 0, by simp [h1, h2]⟩
theorem admitted2 (m : Sre.M) (hc : m.code = cd2) : ∀ (k s : Nat) (seen : Sre.Seen), s + k = m.lim → ∃ seen', Sre.M.admitted m (k + 1) s seen = .ok (adm2 m.text k s, seen')
  | 0, s, seen, hk => ⟨seen, by unfold Sre.M.admitted; rw [if_pos (by omega)]; rfl⟩
  | k + 1, s, seen, hk => by
    obtain ⟨seen', e⟩ := inSet2 (m.text.getD s 0) seen
    unfold Sre.M.admitted
    rw [if_neg (by omega), hc, e]
    by_cases hq : m.text.getD s 0 = 10 ∨ m.text.getD s 0 = 13
    · refine ⟨seen', ?_⟩
      rw [decide_eq_true hq]; unfold adm2; rw [if_pos hq]
    · obtain ⟨seen'', e'⟩ := admitted2 m hc k (s + 1) seen' (by omega)
      refine ⟨seen'', ?_⟩
      rw [decide_eq_false hq]; unfold adm2; rw [if_neg hq]; exact e'
theorem adm_find (text : Array Nat) : ∀ (k s : Nat), (adm2 text k s = none ∧ find2 text k s = none) ∨ ∃ p j, adm2 text k s = some p ∧ p + (j + 1) = s + k ∧ (text.getD p 0 = 10 ∨ text.getD p 0 = 13) ∧ find2 text k s = find2 text (j + 1) p
  | 0, s => .inl ⟨rfl, rfl⟩
  | k + 1, s => by
    by_cases hq : text.getD s 0 = 10 ∨ text.getD s 0 = 13
    · exact .inr ⟨s, k, by unfold adm2; rw [if_pos hq], rfl, hq, rfl⟩
    · have e1 : adm2 text (k + 1) s = adm2 text k (s + 1) := by rw [adm2, if_neg hq]
      have e2 : find2 text (k + 1) s = find2 text k (s + 1) := by rw [find2, if_neg (fun h => hq (.inl h)), if_neg (fun h => hq (.inr h))]
      rcases adm_find text k (s + 1) with ⟨a, b⟩ | ⟨p, j, a, b, c, d⟩
      · exact .inl ⟨e1.trans a, e2.trans b⟩
      · exact .inr ⟨p, j, e1.trans a, by omega, c, e2.trans d⟩
theorem search2 (text : Array Nat) (start : Nat) (must : Bool) (h : start ≤ text.size) : ∃ F, Ends (3 * text.size + 40) (Sre.forSearch cd2 text 0 start text.size must) F ∧ Said F (find2 text (text.size - start) start) := by
  have e : Sre.forSearch cd2 text 0 start text.size must = if (decide (start > text.size) || decide (text.size - start < 1)) = true then { S2 text text.size start 10 start start true [] 0 (some false) (({} : Sre.Seen).add 14) with lastStart := 0, mustAdvance := must } else
      Sre.M.attemptFrom { S2 text text.size start 10 start start true [] 0 none (({} : Sre.Seen).add 14) with mustAdvance := must } start true := rfl
  rw [e]
  by_cases hs : text.size - start < 1
  · rw [if_pos (by simp [hs])]
    refine ⟨_, .next rfl (.done rfl), ?_⟩
    rw [show text.size - start = 0 by omega]
    rfl
  · rw [if_neg (by simp; omega)]
    obtain ⟨seen', ha⟩ := admitted2 ({ S2 text text.size start 10 start start true [] 0 none (({} : Sre.Seen).add 14) with mustAdvance := must } : Sre.M) rfl (text.size - start) start (({} : Sre.Seen).add 14) (by show start + (text.size - start) = text.size; omega)
    have e2 : Sre.M.attemptFrom { S2 text text.size start 10 start start true [] 0 none (({} : Sre.Seen).add 14) with mustAdvance := must } start true =
        (match adm2 text (text.size - start) start with
        | some s => S2 text text.size s 10 s s true [fStart s true] 1 none seen'
        | none => { S2 text text.size start 10 start start true [] 0 (some false) seen' with mustAdvance := must }) := by
      show (match Sre.M.admitted _ (text.size + 1 - start) start (({} : Sre.Seen).add 14) with | .ok (some s, seen) => _ | .ok (none, seen) => _ | .error why => _) = _
      rw [show text.size + 1 - start = text.size - start + 1 by omega, ha]
      show (match (Except.ok (adm2 text (text.size - start) start, seen') : Except String (Option Nat × Sre.Seen)) with | .ok (some s, seen) => _ | .ok (none, seen) => _ | .error why => _) = _
      cases adm2 text (text.size - start) start <;> rfl
    rw [e2]
    rcases adm_find text (text.size - start) start with ⟨a, b⟩ | ⟨p, j, a, b, c, d⟩
    · rw [a, b]
      exact ⟨_, .next rfl (.done rfl), rfl⟩
    · rw [a, d]
      obtain ⟨F, hF, hS⟩ := try2 text text.size p j true seen' (by omega) c
      exact ⟨F, hF.weak (by omega), hS⟩
end Mine
end
section
open PySem PySem.W PyProof.Rows
open PySem.Builtin PySem.Builtin.Re
namespace Mine
section
variable {M : Model} {A : Around} {E : Value → Shared → Prop} {s : Shared}
theorem wp_drive {F : Sre.M} {Q : Sre.M → Shared → Prop} (hq : Q F s) : ∀ (turns n : Nat) (m : Sre.M), Ends n m F → n < 4 * turns → wpAny M A (reDrive turns m) Q E s
  | 0, n, m, _, h => by omega
  | turns + 1, n, m, e, h => by
    obtain ⟨k, hk, h1, h2⟩ := e
    unfold reDrive
    show wpAny M A (if (Sre.M.runFor 4 m).outcome.isSome = true then pure (Sre.M.runFor 4 m) else do rule "sre.turn"; reDrive turns (Sre.M.runFor 4 m)) Q E s
    by_cases h4 : k ≤ 4
    · have : Sre.M.runFor 4 m = F := by
        have := runFor_add k (4 - k) m
        rw [h1, runFor_done _ h2, show k + (4 - k) = 4 by omega] at this
        exact this
      rw [this, if_pos h2]
      exact wpAny_pure hq
    · have e2 : Sre.M.runFor (k - 4) (Sre.M.runFor 4 m) = F := by rw [← runFor_add, show 4 + (k - 4) = k by omega, h1]
      by_cases ho : (Sre.M.runFor 4 m).outcome.isSome = true
      · rw [runFor_done _ ho] at e2
        rw [e2, if_pos h2]
        exact wpAny_pure hq
      · rw [if_neg ho]
        exact wpAny_bind (wpAny_rule (wp_drive hq turns (n - 4) _ ⟨k - 4, by omega, e2, h2⟩ (by omega)))
theorem wp_runToEnd {n : Nat} {m F : Sre.M} {r : Option (Nat × Nat)} {Q : Option Sre.M → Shared → Prop} (e : Ends n m F) (hn : n < 2 ^ 60) (hS : Said F r)
    (hn' : r = none → Q none s) (hq : ∀ p q, r = some (p, q) → ∀ F : Sre.M, F.start = p → F.handed = q → Q (some F) s) : wpAny M A (reRunToEnd m) Q E s := by
  unfold reRunToEnd
  refine wpAny_bind (wp_drive ?_ _ _ _ e (by omega))
  refine wpAny_bind (wpAny_forIn_list _ (fun _ _ s' => s' = s) _ (fun x rest b s₁ hI => ?_) (fun b s₁ hI => ?_) _ _ rfl)
  · subst hI
    by_cases hh : F.seen.has x = true
    · rw [if_pos hh]; exact wpAny_bind (wpAny_rule (wpAny_pure rfl))
    · rw [if_neg hh]; exact wpAny_pure rfl
  · subst hI
    cases r with
    | none => rw [show F.outcome = _ from hS]; exact wpAny_pure (hn' rfl)
    | some pq => obtain ⟨p, q⟩ := pq; rw [hS.1]; exact wpAny_pure (hq p q rfl F hS.2.1 hS.2.2)
end

structure PatAt (h : Heap) (a : Addr) (cd : Array Nat) : Prop where
  ex : ∃ (o : Obj) (fs : Array Value) (c : Addr) (oc : Obj) (items : Array Value) (n : Nat), h.get? a = some o ∧ o.cls = .type "re.Pattern" ∧ o.data = .fields fs ∧ fs.getD 6 .none = rawInt 0 ∧ fs.getD 2 .none = rawInt 0 ∧ fs.getD 5 .none = .ref c ∧
    h.get? c = some oc ∧ oc.data = .seq items n ∧ (items.map reRawOf).map (·.toNat) = cd
theorem PatAt.up {h h' : Heap} {a : Addr} {cd : Array Nat} (p : PatAt h a cd) (k : Kp h h') : PatAt h' a cd :=
  let ⟨o, fs, c, oc, items, n, h1, h2, h3, h4, h5, h6, h7, h8⟩ := p.ex; ⟨o, fs, c, oc, items, n, k _ _ h1, h2, h3, h4, h5, h6, k _ _ h7, h8⟩
section
variable {M : Model} {A : Around} {E : Value → Shared → Prop} {s : Shared}
theorem wp_target {a : Addr} {cd : Array Nat} {x : Str} {t : Tok} {Q : ReTarget → Shared → Prop} (p : PatAt s.heap a cd) (hq : Q { pattern := .ref a, string := .str x t, code := cd, text := x.cps, kind := 0, groups := 0, pos := 0, lim := x.cps.size } s) :
    wpAny M A (reWholeTarget (.ref a) (.str x t)) Q E s := by
  obtain ⟨o, fs, c, oc, items, n, h1, h2, h3, h4, h5, h6, h7, h8, h9⟩ := p.ex
  unfold reWholeTarget
  refine wpAny_bind (wpAny_fieldsOf h1 h3 ?_)
  show wpAny M A (reTextOf (.str x t) >>= _) Q E s
  refine wpAny_bind (wpAny_pure ?_)
  rw [h4, h6]
  show wpAny M A (reRawItems (.ref c) >>= _) Q E s
  refine wpAny_bind (wpAny_bind (wpAny_seqItems h7 h8 ?_))
  refine wpAny_pure (wpAny_pure ?_)
  show Q { pattern := .ref a, string := .str x t, code := (items.map reRawOf).map (·.toNat), text := x.cps, kind := 0, groups := reRawNat (fs.getD 2 .none), pos := 0, lim := x.cps.size } s
  rw [h9, h5]
  exact hq
end
/-- what the search finds -/
structure Finds (cd : Array Nat) (find : Array Nat → Nat → Nat → Option (Nat × Nat)) : Prop where
  run : ∀ (text : Array Nat) (start : Nat) (must : Bool), start ≤ text.size → ∃ F, Ends (3 * text.size + 40) (Sre.forSearch cd text 0 start text.size must) F ∧ Said F (find text (text.size - start) start)
  ok : ∀ (text : Array Nat) (k s p e : Nat), find text k s = some (p, e) → s ≤ p ∧ p < e ∧ e ≤ s + k
noncomputable def subGo (find : Array Nat → Nat → Nat → Option (Nat × Nat)) (text : Array Nat) (repl : List Nat) : Nat → Nat → List Nat
  | 0, d => text.toList.drop d
  | f + 1, d => match find text (text.size - d) d with
    | none => text.toList.drop d
    | some (p, e) => (text.toList.drop d).take (p - d) ++ repl ++ subGo find text repl f e

noncomputable def flat (l : List (Str × Tok)) : List Nat := l.flatMap fun p => p.1.cps.toList
theorem flat_snoc (l : List (Str × Tok)) (x : Str) (t : Tok) : flat (l ++ [(x, t)]) = flat l ++ x.cps.toList := by simp [flat]
theorem ext_drop (text : Array Nat) (d e : Nat) : (text.extract d e).toList = (text.toList.drop d).take (e - d) := by
  simp [Array.toList_extract, List.extract_eq_take_drop]
/-- all but the object L as it was -/
noncomputable def Off (L : Addr) (s s' : Shared) : Prop := SR s s' ∧ ∀ b o, b ≠ L → s.heap.get? b = some o → s'.heap.get? b = some o
theorem Off.refl {L : Addr} {s : Shared} : Off L s s := ⟨⟨rfl, rfl, rfl⟩, fun _ _ _ e => e⟩
theorem Off.tr {L : Addr} {s s' s'' : Shared} (a : Off L s s') (b : Off L s' s'') : Off L s s'' := ⟨⟨b.1.1.trans a.1.1, b.1.2.1.trans a.1.2.1, b.1.2.2.trans a.1.2.2⟩, fun c o h e => b.2 c o h (a.2 c o h e)⟩
theorem Off.tok {L : Addr} {s : Shared} {k : Nat} : Off L s { s with toks := k } := ⟨⟨rfl, rfl, rfl⟩, fun _ _ _ e => e⟩
theorem Off.write {L : Addr} {s : Shared} {f : Obj → Obj} : Off L s { s with heap := s.heap.update L f } := ⟨⟨rfl, rfl, rfl⟩, fun b o h e => by
  rw [(Heap.SameBut.update ..).2 b h]; exact e⟩
theorem Off.kp {L : Addr} {s s' : Shared} {h0 : Heap} (k : Off L s s') (h : h0.get? L = none) (q : Kp h0 s.heap) : Kp h0 s'.heap := fun b o e => k.2 b o (fun hb => by subst hb; rw [h] at e; cases e) (q b o e)
theorem lo_push {h : Heap} {L : Addr} {vs : List Value} {n : Nat} {v : Value} (hg : h.get? L = some (LO vs n)) : ∃ n', (h.update L (Obj.mapSeq (·.push v))).get? L = some (LO (vs ++ [v]) n') := by
  refine ⟨if vs.toArray.size + 1 == vs.toArray.size then n else n + 1, ?_⟩
  rw [Heap.get?_update_self _ hg (by unfold LO Obj.mapSeq; rfl)]
  unfold LO Obj.mapSeq
  simp
theorem strValues_snoc (acc : List (Str × Tok)) (x : Str) (t : Tok) : strValues acc ++ [.str x t] = strValues (acc ++ [(x, t)]) := by simp [strValues]
theorem join_flat (acc : List (Str × Tok)) : Txt.join ⟨#[]⟩ (acc.map (·.1)) = ⟨(flat acc).toArray⟩ := by
  show Builtin.Str.glued _ _ = _
  unfold Builtin.Str.glued
  cases acc with
  | nil => rfl
  | cons p r =>
    have : ∀ (r : List (Str × Tok)) (a : Array Nat), (r.map (·.1)).foldl (fun acc p => acc ++ (#[] : Array Nat) ++ p.cps) a = a ++ (flat r).toArray := by
      intro r
      induction r with
      | nil => intro a; simp [flat]
      | cons q r ih => intro a; simp only [List.map_cons, List.foldl_cons]; rw [ih]; apply Array.toList_inj.mp; simp [flat]
    simp only [List.map_cons, List.drop_succ_cons, List.drop_zero, List.headD_cons]
    rw [this]
    simp [flat]
theorem join_ok (acc : List (Str × Tok)) (h : (flat acc).length ≤ sizeLine) : JoinOk ⟨#[]⟩ (acc.map (·.1)) = true := by
  have : ∀ (l : List (Str × Tok)) (k : Nat), (l.map (·.1)).foldl (fun a (p : Str) => a + p.length + Str.length ⟨#[]⟩) k = k + (flat l).length := by
    intro l
    induction l with
    | nil => intro k; simp [flat]
    | cons q r ih => intro k; simp only [List.map_cons, List.foldl_cons]; rw [ih]; simp [flat, Str.length]; omega
  unfold JoinOk Builtin.Str.tooLong
  rw [List.foldl_toArray', this]
  simp; omega
  all_goals simp
theorem drop_take (text : Array Nat) {d e : Nat} : ((text.toList.drop d).take (e - d)).length ≤ e - d := by simp; omega

theorem plain_sub_loop : plainId "re.Pattern.sub.loop" = true := by decide +kernel
theorem entry_sub_loop : entryFor table "re.Pattern.sub.loop" = some Builtin.«re.Pattern.sub.loop» := entryFor_of_tree (by kernel_rfl)
theorem sub_loop {cd : Array Nat} {find : Array Nat → Nat → Nat → Option (Nat × Nat)} (fd : Finds cd find) {h0 : Heap} {a L : Addr} (P : PatAt h0 a cd) (hL : h0.get? L = none) (x repl : Str) (t u : Tok) (hx : x.cps.size ≤ 100000) (hr : repl.cps.size ≤ 2) :
    ∀ (f d : Nat) (n : Int) (must : Bool) (acc : List (Str × Tok)) (m : Nat), x.cps.size - d < f → d ≤ x.cps.size → (flat acc).length ≤ 3 * d → acc.length ≤ 2 * d →
    Meets (Builtin.«re.Pattern.sub.loop» ⟨[.ref a, .str x t, .str repl u, rawInt 0, rawInt 0, rawInt n, rawInt d, rawInt d, .bool must, .ref L, .bool false], []⟩)
      (fun A R s => Kp h0 s.heap ∧ s.heap.get? L = some (LO (strValues acc) m) ∧ ∀ t' s', Off L s s' → R (.ok (.ret (.str ⟨(flat acc ++ subGo find x.cps repl.cps.toList f d).toArray⟩ t'))) s')
  | 0, d, n, must, acc, m, hf, _, _, _ => by omega
  | f + 1, d, n, must, acc, m, hf, hd, hl, hc => by
    rintro prog w A R s ⟨hk, hg, hq⟩
    obtain ⟨F, hF, hS⟩ := fd.run x.cps d must hd
    unfold Builtin.«re.Pattern.sub.loop»
    refine wpAny_bind (wp_target (P.up hk) ?_)
    refine wpAny_bind (wpAny_bind (wpAny_pure (wpAny_pure ?_)))
    show wpAny _ _ (reNextFound _ ((d : Nat) : Int).toNat must >>= _) _ _ s
    have hsz : (strValues acc).toArray.size = acc.length := by simp [strValues]
    refine wpAny_bind (wp_runToEnd hF (by omega) hS (fun hr2 => ?_) fun p e hr2 => ?_)
    · --
      have e2 : subGo find x.cps repl.cps.toList (f + 1) d = x.cps.toList.drop d := by rw [subGo, hr2]
      rw [e2] at hq
      have fin : ∀ (acc' : List (Str × Tok)) (m' : Nat) (s1 : Shared), Off L s s1 → s1.heap.get? L = some (LO (strValues acc') m') → flat acc' = flat acc ++ x.cps.toList.drop d →
          wpAny (model prog w) A.in1 (do
            let joiner ← reSlice x.cps 0 0 0
            let text ← if ((← seqItems? (.ref L)).getD #[]).isEmpty then pure joiner else call (.builtin "str.join") [joiner, .ref L]
            ret text) (fun fin s' => match fin with | .done f => R (.ok f) s' | .again c' => c'.quiet = true ∧ codeAny (model prog w) A c' R s') (fun e s' => R (.error e) s') s1 := by
        intro acc' m' s1 ho hg1 hfl
        rw [← hfl] at hq
        refine wpAny_bind (wpAny_mkStr ?_ (by show (x.cps.extract 0 0).size ≤ _; simp))
        refine wpAny_bind (wpAny_seqItems hg1 rfl ?_)
        have hempty : (⟨x.cps.extract 0 0⟩ : Str) = ⟨#[]⟩ := by simp
        rw [hempty]
        cases acc' with
        | nil =>
          show wpAny _ _ (pure (Value.str ⟨#[]⟩ s1.toks) >>= _) _ _ _
          refine wpAny_bind (wpAny_pure (wpAny_pure ?_))
          exact hq _ _ (ho.tr .tok)
        | cons p r =>
          show wpAny _ _ (call (.builtin "str.join") [.str ⟨#[]⟩ s1.toks, .ref L] >>= _) _ _ _
          refine wpAny_bind (SC.join (l := p :: r) (lo_isList (vs := strValues (p :: r)) hg1) rfl (join_ok _ ?_) fun t' k => wpAny_pure ?_)
          · rw [hfl]; simp; have := sizeLine; unfold sizeLine; omega
          · rw [join_flat]
            exact hq _ _ ((ho.tr .tok).tr .tok)
      by_cases hdl : d < x.cps.size
      · show wpAny _ _ (if ((d : Nat) : Int).toNat < x.cps.size then (do let v ← reSlice x.cps 0 ((d : Nat) : Int).toNat x.cps.size; let _ ← updateSeq L (·.push v); _) else _) _ _ s
        rw [if_pos (show ((d : Nat) : Int).toNat < x.cps.size from hdl)]
        refine wpAny_bind (wpAny_mkStr ?_ (by show (x.cps.extract d x.cps.size).size ≤ _; simp; unfold sizeLine; omega))
        refine wpAny_bind (wpAny_updateSeq hg rfl ?_ (by rw [hsz]; unfold sizeLine; omega) (by rw [Array.size_push, hsz]; unfold sizeLine; omega))
        obtain ⟨m', hg'⟩ := lo_push (v := .str ⟨x.cps.extract d x.cps.size⟩ s.toks) hg
        rw [strValues_snoc] at hg'
        refine fin _ m' _ ((Off.tok (k := s.toks + 1)).tr (.write (f := Obj.mapSeq (·.push (.str ⟨x.cps.extract d x.cps.size⟩ s.toks))))) hg' ?_
        rw [flat_snoc, ext_drop]
        rw [List.take_of_length_le (by simp)]
      · show wpAny _ _ (if ((d : Nat) : Int).toNat < x.cps.size then _ else _) _ _ s
        rw [if_neg (show ¬((d : Nat) : Int).toNat < x.cps.size from hdl)]
        refine fin acc m s .refl hg ?_
        rw [List.drop_of_length_le (by simpa using hdl)]; simp
    · intro F' hp he
      obtain ⟨o1, o2, o3⟩ := fd.ok _ _ _ _ _ hr2
      have e2 : subGo find x.cps repl.cps.toList (f + 1) d = (x.cps.toList.drop d).take (p - d) ++ repl.cps.toList ++ subGo find x.cps repl.cps.toList f e := by rw [subGo, hr2]
      rw [e2] at hq
      have fin : ∀ (acc' : List (Str × Tok)) (m' : Nat) (s1 : Shared), Off L s s1 → s1.heap.get? L = some (LO (strValues acc') m') → flat acc' = flat acc ++ (x.cps.toList.drop d).take (p - d) → acc'.length ≤ acc.length + 1 →
          wpAny (model prog w) A.in1 (do
            let _ ← updateSeq L (·.push (.str repl u))
            again (.builtin "re.Pattern.sub.loop" ⟨[.ref a, .str x t, .str repl u, rawInt 0, rawInt 0, rawInt (n + 1), rawInt (F'.handed : Nat), rawInt (F'.handed : Nat), .bool (F'.handed == F'.start), .ref L, .bool false], []⟩))
            (fun fin s' => match fin with | .done f => R (.ok f) s' | .again c' => c'.quiet = true ∧ codeAny (model prog w) A c' R s') (fun e s' => R (.error e) s') s1 := by
        intro acc' m' s1 ho hg1 hfl hln
        have hsz' : (strValues acc').toArray.size = acc'.length := by simp [strValues]
        have hdt := drop_take x.cps (d := d) (e := p)
        refine wpAny_bind (wpAny_updateSeq hg1 rfl ?_ (by rw [hsz']; unfold sizeLine; omega) (by rw [Array.size_push, hsz']; unfold sizeLine; omega))
        obtain ⟨m2, hg2⟩ := lo_push (v := .str repl u) hg1
        rw [strValues_snoc] at hg2
        rw [he]
        refine wpAny_pure ⟨plainId_quiet plain_sub_loop _, codeAny_builtin entry_sub_loop ?_⟩
        rw [Around.under_plainId plain_sub_loop]
        have ho2 : Off L s { s1 with heap := s1.heap.update L (Obj.mapSeq (·.push (.str repl u))) } := ho.tr .write
        refine sub_loop fd P hL x repl t u hx hr f e (n + 1) _ (acc' ++ [(repl, u)]) m2 (by omega) (by omega) ?_ ?_ prog w A R _ ⟨ho2.kp hL hk, hg2, fun t' s' ho3 => ?_⟩
        · have hrl : repl.cps.toList.length ≤ 2 := by simpa using hr
          rw [flat_snoc, hfl, List.length_append, List.length_append]; omega
        · rw [List.length_append, List.length_singleton]; omega
        · have := hq t' s' (ho2.tr ho3)
          rw [flat_snoc, hfl, List.append_assoc, List.append_assoc]
          rw [List.append_assoc] at this
          exact this
      by_cases hdl : d < p
      · show wpAny _ _ (if ((d : Nat) : Int).toNat < F'.start then (do let v ← reSlice x.cps 0 ((d : Nat) : Int).toNat F'.start; let _ ← updateSeq L (·.push v); _) else _) _ _ s
        rw [hp, if_pos (show ((d : Nat) : Int).toNat < p from hdl)]
        refine wpAny_bind (wpAny_mkStr ?_ (by show (x.cps.extract d p).size ≤ _; simp; unfold sizeLine; omega))
        refine wpAny_bind (wpAny_updateSeq hg rfl ?_ (by rw [hsz]; unfold sizeLine; omega) (by rw [Array.size_push, hsz]; unfold sizeLine; omega))
        obtain ⟨m', hg'⟩ := lo_push (v := .str ⟨x.cps.extract d p⟩ s.toks) hg
        rw [strValues_snoc] at hg'
        have := fin _ m' { s with toks := s.toks + 1, heap := s.heap.update L (Obj.mapSeq (·.push (.str ⟨x.cps.extract d p⟩ s.toks))) } ((Off.tok (k := s.toks + 1)).tr (.write (f := Obj.mapSeq (·.push (.str ⟨x.cps.extract d p⟩ s.toks))))) hg' (by rw [flat_snoc, ext_drop]) (by simp)
        rw [hp] at this
        exact this
      · show wpAny _ _ (if ((d : Nat) : Int).toNat < F'.start then _ else _) _ _ s
        rw [hp, if_neg (show ¬((d : Nat) : Int).toNat < p from hdl)]
        have := fin acc m s .refl hg (by rw [show p - d = 0 by omega]; simp) (by omega)
        rw [hp] at this
        exact this
end Mine
end
section
open PySem PySem.W PyProof.Rows
open PySem.Builtin PySem.Builtin.Re
namespace Mine
theorem plainAttrs_pat : PlainAttrs "re.Pattern" :=
  ⟨⟨"object.__getattribute__", by rw [typeLookup_type, builtinLookup_eq_fast]; kernel_rfl, by decide +kernel⟩, by rw [typeLookup_type, builtinLookup_eq_fast]; kernel_rfl⟩
theorem slot_sub : Slot "re.Pattern" (Str.ofString "sub") "re.Pattern.sub" :=
  .of (owner := "re.Pattern") (n := "sub") (by rw [typeLookup_type, builtinLookup_eq_fast]; kernel_rfl) (by decide +kernel) (by decide +kernel) (by decide +kernel)
    (by first | exact .inl (by decide +kernel) | exact .inr (by decide +kernel)) (by rw [isSubtype_type]; kernel_rfl)
theorem type_sub : typeOf (.builtin "re.Pattern.sub") = pure (.type "method_descriptor") := by show builtinType _ = _; rw [builtinType_eq_fast]; kernel_rfl
theorem entry_sub : entryFor table "re.Pattern.sub" = some Builtin.«re.Pattern.sub» := entryFor_of_tree (by kernel_rfl)
theorem args_sub (a b c : Value) : argsOk "re.Pattern.sub" ⟨[a, b, c], []⟩ := by
  unfold argsOk
  kernel_rfl
theorem look_call_str : typeLookup (.type "str") (Str.ofString "__call__") = pure none := by rw [typeLookup_type, builtinLookup_eq_fast]; kernel_rfl
theorem named_sub (r x : Value) : reNamed "re.Pattern.sub" "sub" ["repl", "string", "count"] 2 [r, x] [] = pure [some r, some x, none] := rfl

theorem sub_meets {cd : Array Nat} {find : Array Nat → Nat → Nat → Option (Nat × Nat)} (fd : Finds cd find) {h0 : Heap} {a : Addr} (P : PatAt h0 a cd) (x repl : Str) (t u : Tok) (hx : x.cps.size ≤ 100000) (hr : repl.cps.size ≤ 2) (hb : repl.cps.contains 92 = false) :
    Meets (Builtin.«re.Pattern.sub» ⟨[.ref a, .str repl u, .str x t], []⟩)
      (fun A R s => Kp h0 s.heap ∧ ∀ t' s', Kps s s' → R (.ok (.ret (.str ⟨(subGo find x.cps repl.cps.toList (x.cps.size + 1) 0).toArray⟩ t'))) s') := by
  rintro prog w A R s ⟨hk, hq⟩
  show wpAny _ _ (reNamed "re.Pattern.sub" "sub" ["repl", "string", "count"] 2 [.str repl u, .str x t] [] >>= _) _ _ s
  rw [named_sub]
  refine wpAny_bind (wpAny_pure ?_)
  refine wpAny_bind (wpAny_pure ?_)
  refine wpAny_bind (wpAny_specialOf (typeIs_str _ _ _) look_call_str ?_)
  show wpAny _ _ (asStr? (.str repl u) >>= _) _ _ s
  refine wpAny_bind (wpAny_pure ?_)
  refine wpAny_bind (wpAny_pure ?_)
  rw [hb]
  refine wpAny_bind (wpAny_pure ?_)
  refine wpAny_bind (wpAny_holding (wp_target (P.up hk) ?_))
  refine wpAny_bind (wpAny_newList ?_)
  refine wpAny_pure ⟨plainId_quiet plain_sub_loop _, codeAny_builtin entry_sub_loop ?_⟩
  rw [Around.under_plainId plain_sub_loop]
  have hLn : s.heap.get? s.heap.objs.size = none := by simp [Heap.get?]
  have hk1 : Kp s.heap (s.heap.push { cls := .type "list", data := .seq #[] }) := kp_push
  refine sub_loop fd (P.up hk) (L := s.heap.objs.size) hLn x repl t u hx hr (x.cps.size + 1) 0 0 false [] 0 (by omega) (by omega) (by simp [flat]) (by simp) prog w A R _ ⟨hk1, Heap.get?_push_size _ rfl, fun t' s' ho => ?_⟩
  refine hq t' s' (SR.kps (s := s) ⟨ho.1.1, ho.1.2.1, ho.1.2.2⟩ fun b o e => ho.2 b o (fun hb => by subst hb; rw [hLn] at e; cases e) (hk1 b o e))

/-- each line's end made a return and a feed -/
noncomputable def crlf : List Nat → List Nat
  | [] => []
  | 13 :: 10 :: r => 13 :: 10 :: crlf r
  | 13 :: r => 13 :: 10 :: crlf r
  | 10 :: r => 13 :: 10 :: crlf r
  | c :: r => c :: crlf r
/-- a dot more for each dot that opens a line -/
noncomputable def dots : Bool → List Nat → List Nat
  | _, [] => []
  | b, c :: r => (if b && c == 46 then [46, 46] else [c]) ++ dots (c == 10) r
noncomputable def quoted (l : List Nat) : List Nat := dots true (crlf l)

noncomputable def f1 (text : Array Nat) (k s : Nat) : Option (Nat × Nat) := (find1 text k s).map fun p => (p, p + 1)
theorem find1_ok (text : Array Nat) : ∀ (k s p : Nat), find1 text k s = some p → s ≤ p ∧ p < s + k ∧ ok1 text p = true
  | 0, s, p, h => by cases h
  | k + 1, s, p, h => by
    unfold find1 at h
    split at h
    · cases h; exact ⟨by omega, by omega, by assumption⟩
    · have := find1_ok text k (s + 1) p h
      exact ⟨by omega, by omega, this.2.2⟩
theorem finds1 : Finds cd1 f1 := ⟨fun text start must h => let ⟨F, a, b⟩ := search1 text start must h; ⟨F, a.weak (by omega), b⟩, fun text k s p e h => by
  unfold f1 at h
  cases hf : find1 text k s with
  | none => rw [hf] at h; cases h
  | some q =>
    rw [hf] at h; cases h
    have := find1_ok text k s _ hf
    omega⟩
theorem find2_ok (text : Array Nat) : ∀ (k s p e : Nat), find2 text k s = some (p, e) → s ≤ p ∧ p < e ∧ e ≤ s + k
  | 0, s, p, e, h => by cases h
  | k + 1, s, p, e, h => by
    unfold find2 at h
    split at h
    · cases h; omega
    · split at h
      · split at h <;> cases h <;> omega
      · have := find2_ok text k (s + 1) p e h
        omega
theorem finds2 : Finds cd2 find2 := ⟨fun text start must h => search2 text start must h, find2_ok⟩

theorem getD_drop (text : Array Nat) {s k : Nat} (h : s + (k + 1) = text.size) : text.toList.drop s = text.getD s 0 :: text.toList.drop (s + 1) := by
  have hs : s < text.toList.length := by simp; omega
  rw [List.drop_eq_getElem_cons hs]
  simp [Array.getD, show s < text.size by omega]
theorem crlf_find (text : Array Nat) : ∀ (k s : Nat), s + k = text.size → crlf (text.toList.drop s) = match find2 text k s with
    | none => text.toList.drop s
    | some (p, e) => (text.toList.drop s).take (p - s) ++ [13, 10] ++ crlf (text.toList.drop e)
  | 0, s, h => by rw [List.drop_of_length_le (by simp; omega)]; rfl
  | k + 1, s, h => by
    have e1 := getD_drop text h
    by_cases h10 : text.getD s 0 = 10
    · rw [find2, if_pos h10, e1, h10]; simp [crlf]
    · by_cases h13 : text.getD s 0 = 13
      · rw [find2, if_neg h10, if_pos h13]
        by_cases hn : 1 ≤ k ∧ text.getD (s + 1) 0 = 10
        · obtain ⟨k', rfl⟩ : ∃ k', k = k' + 1 := ⟨k - 1, by omega⟩
          have e2 := getD_drop text (s := s + 1) (k := k') (by omega)
          rw [if_pos hn, e1, h13, e2, hn.2]
          simp [crlf]
        · rw [if_neg hn, e1, h13]
          show crlf (13 :: text.toList.drop (s + 1)) = (13 :: text.toList.drop (s + 1)).take (s - s) ++ [13, 10] ++ crlf (text.toList.drop (s + 1))
          rw [Nat.sub_self]
          by_cases hk : k = 0
          · rw [List.drop_of_length_le (by simp; omega)]; rfl
          · obtain ⟨k', rfl⟩ : ∃ k', k = k' + 1 := ⟨k - 1, by omega⟩
            have e2 := getD_drop text (s := s + 1) (k := k') (by omega)
            rw [e2, crlf]
            · rfl
            · intro r he
              exact hn ⟨by omega, (List.cons.inj he).1⟩
      · rw [find2, if_neg h10, if_neg h13, e1]
        have ih := crlf_find text k (s + 1) (by omega)
        have : crlf (text.getD s 0 :: text.toList.drop (s + 1)) = text.getD s 0 :: crlf (text.toList.drop (s + 1)) := by
          rw [crlf]
          · intro r he; exact fun _ => h13 he
          · exact h13
          · exact h10
        rw [this, ih]
        cases hf : find2 text k (s + 1) with
        | none => rfl
        | some pe =>
          obtain ⟨p, e⟩ := pe
          have := find2_ok text k (s + 1) p e hf
          show _ = (text.getD s 0 :: text.toList.drop (s + 1)).take (p - s) ++ [13, 10] ++ crlf (text.toList.drop e)
          rw [show p - s = p - (s + 1) + 1 by omega]
          rfl
noncomputable def lineAt (text : Array Nat) (s : Nat) : Bool := s == 0 || text.getD (s - 1) 0 == 10
theorem dots_find (text : Array Nat) : ∀ (k s : Nat), s + k = text.size → dots (lineAt text s) (text.toList.drop s) = match f1 text k s with
    | none => text.toList.drop s
    | some (p, e) => (text.toList.drop s).take (p - s) ++ [46, 46] ++ dots (lineAt text e) (text.toList.drop e)
  | 0, s, h => by rw [List.drop_of_length_le (by simp; omega)]; rfl
  | k + 1, s, h => by
    have e1 := getD_drop text h
    have e3 : (text.getD s 0 == 10) = lineAt text (s + 1) := by simp [lineAt]
    rw [e1]
    by_cases hk : ok1 text s = true
    · have hk' := hk
      unfold ok1 at hk'
      rw [Bool.and_eq_true] at hk'
      rw [f1, find1, if_pos hk, dots, lineAt, hk'.1, hk'.2, e3]
      simp
    · have hc : (lineAt text s && text.getD s 0 == 46) = false := by simpa [ok1, lineAt] using hk
      have ih := dots_find text k (s + 1) (by omega)
      rw [f1, find1, if_neg hk, dots, hc, e3, ih]
      show _ = match f1 text k (s + 1) with | none => _ | some (p, e) => _
      cases hf : f1 text k (s + 1) with
      | none => rfl
      | some pe =>
        obtain ⟨p, e⟩ := pe
        have := finds1.ok text k (s + 1) p e hf
        show _ = (text.getD s 0 :: text.toList.drop (s + 1)).take (p - s) ++ [46, 46] ++ dots (lineAt text e) (text.toList.drop e)
        rw [show p - s = p - (s + 1) + 1 by omega]
        rfl
theorem sub_crlf (text : Array Nat) : ∀ (f d : Nat), d ≤ text.size → text.size - d < f → subGo find2 text [13, 10] f d = crlf (text.toList.drop d)
  | 0, d, _, h => by omega
  | f + 1, d, hd, h => by
    rw [subGo, crlf_find text (text.size - d) d (by omega)]
    cases hf : find2 text (text.size - d) d with
    | none => rfl
    | some pe =>
      obtain ⟨p, e⟩ := pe
      have := find2_ok _ _ _ _ _ hf
      show _ ++ subGo find2 text [13, 10] f e = _
      rw [sub_crlf text f e (by omega) (by omega)]
theorem sub_dots (text : Array Nat) : ∀ (f d : Nat), d ≤ text.size → text.size - d < f → subGo f1 text [46, 46] f d = dots (lineAt text d) (text.toList.drop d)
  | 0, d, _, h => by omega
  | f + 1, d, hd, h => by
    rw [subGo, dots_find text (text.size - d) d (by omega)]
    cases hf : f1 text (text.size - d) d with
    | none => rfl
    | some pe =>
      obtain ⟨p, e⟩ := pe
      have := finds1.ok _ _ _ _ _ hf
      show _ ++ subGo f1 text [46, 46] f e = _
      rw [sub_dots text f e (by omega) (by omega)]
end Mine
end
section
open PySem PySem.W PyProof.Rows
open PySem.Builtin PySem.Builtin.Re
namespace Mine
section
variable {prog : Program} {w : World} {A : Around} {env : Env} {h hb : Heap} {X : List Addr} {mg mb : Str → Option Value} {σ : Sg} {s s0 : Shared}

theorem ev_sub {cd : Array Nat} {find : Array Nat → Nat → Nat → Option (Nat × Nat)} {p : Str} {np apos pos : Pos} {e1 e2 : Expr} {a : Addr} {x repl : Str} (fd : Finds cd find) (eo : EnvOk env) (hx : env.kindOf p = some .globalImplicit) (g : Gl mg mb h) (hp : mg p = some (.ref a)) (P : PatAt h a cd) (hdict : ∃ ob, h.get? a = some ob ∧ ob.dict = none)
    (h1 : Gv prog w A h X (eval e1 env) (.str repl)) (h2 : Gv prog w A h X (eval e2 env) (.str x)) (hz : x.cps.size ≤ 100000) (hr : repl.cps.size ≤ 2) (hb : repl.cps.contains 92 = false)
    (hbase : attributeBase (.Name p np) (Str.ofString "sub") env (eval (.Name p np) env) = eval (.Name p np) env := by rfl) (hs : starEach [e1, e2] env = [(false, eval e1 env), (false, eval e2 env)] := by rfl) (hline : (apos.endLine == pos.line) = true := by rfl)
    (hdb : (p == ("__debug__" : Str)) = false := by decide) :
    Gv prog w A h X (eval (.Call (.Attribute (.Name p np) (Str.ofString "sub") apos) [e1, e2] [] pos) env) (.str ⟨(subGo find x.cps repl.cps.toList (x.cps.size + 1) 0).toArray⟩) := fun hX s Q E hk hQ => by
  obtain ⟨ob, hob, hod⟩ := hdict
  have hty : ∀ s' : Shared, Kp h s'.heap → s'.TypeIs (.ref a) "re.Pattern" := fun s' k => let ⟨o, fs, c, oc, items, n, h1, h2, _⟩ := P.ex; ⟨o, k _ _ h1, h2⟩
  refine Call_method2 hbase hs hline (wp_glob eo hx (g.up hk) hp ⟨"re.Pattern", "re.Pattern.sub", plainAttrs_pat, slot_sub, type_sub, hty s hk, fun b e => by cases e; exact ⟨ob, hk _ _ hob, hod⟩, ?_⟩ hdb)
  refine Calls.callWith_builtin rfl (Calls.evalArgs_plain (Calls.spliced_cons (h1 hX s _ _ hk fun v1 s1 k1 r1 => Calls.spliced_cons (h2 hX s1 _ _ (hk.trans k1.kp) fun v2 s2 k2 r2 => Calls.spliced_nil ?_))))
  obtain ⟨u, rfl⟩ := r1
  obtain ⟨t, rfl⟩ := r2
  have hk2 := hk.trans (k1.kp.trans k2.kp)
  exact call_meets slot_sub (hty s2 hk2) entry_sub (args_sub _ _ _) (sub_meets fd P x repl t u hz hr hb) ⟨hk2, fun t' s' k3 => hQ _ _ (k1.tr (k2.tr k3)) ⟨_, rfl⟩⟩
theorem sub_is_crlf (x : Str) : subGo find2 x.cps [13, 10] (x.cps.size + 1) 0 = crlf x.cps.toList := by
  rw [sub_crlf x.cps _ 0 (by omega) (by omega)]; rfl
theorem sub_is_dots (x : Str) : subGo f1 x.cps [46, 46] (x.cps.size + 1) 0 = dots true x.cps.toList := by
  rw [sub_dots x.cps _ 0 (by omega) (by omega)]; rfl
theorem crlf_len : ∀ (l : List Nat), (crlf l).length ≤ 2 * l.length := by
  intro l
  induction l using crlf.induct <;> simp_all [crlf] <;> omega
end
end Mine
end
section
open PySem PySem.W PyProof.Rows
namespace Mine
section
variable {prog : Program} {w : World} {A : Around} {env : Env} {h hb : Heap} {X : List Addr} {mg mb : Str → Option Value} {σ : Sg} {s s0 : Shared}

theorem up_sg0 {fv : List (Str × D)} {x : Str} {d : D} (hxf : fv.lookup x = none) : ∀ y sl, sg0 fv y = some sl → upd (sg0 fv) x (.d d) y = some sl := fun y sl e => by
  by_cases hy : y = x
  · subst hy; unfold sg0 at e; rw [hxf] at e; cases e
  · rw [upd_ne hy]; exact e
theorem fv_sg0 {fv : List (Str × D)} {n : Str} {d : D} (h : fv.lookup n = some d) : sg0 fv n = some (.d d) := by unfold sg0; rw [h]; rfl

theorem ev_comp1 {x : Str} {px : Pos} {elt iter : Expr} {ifs : List Expr} {scope : Scope} {pos : Pos} {items : List D} (p : D → Bool) (fe : D → D) (fv : List (Str × D)) (hA : A.handled = none) (eo : EnvOk env)
    (hv : ∀ n d, fv.lookup n = some d → Var env h X n d ∧ env.kindOf n ≠ some .local) (hi : Gi prog w A h X env iter items) (hz : items.length ≤ sizeLine)
    (hx : scope.names.lookup x = some .local ∨ scope.names.lookup x = some .cell) (hxf : fv.lookup x = none)
    (htest : ∀ (cenv : Env) (h' : Heap) (X' : List Addr) (d : D), d ∈ items → EnvOk cenv → KN scope cenv → Kp h h' → Var cenv h' X' x d → (∀ n d', fv.lookup n = some d' → Var cenv h' X' n d') → Gt prog w A h' X' cenv ifs (p d))
    (helt : ∀ (cenv : Env) (h' : Heap) (X' : List Addr) (d : D), d ∈ items → p d = true → EnvOk cenv → KN scope cenv → Kp h h' → Var cenv h' X' x d → (∀ n d', fv.lookup n = some d' → Var cenv h' X' n d') → Gv prog w A h' X' (eval elt cenv) (fe d))
    (hc : ∀ y ∈ scope.names, y.2 = .free → (y.1 == ("__classdict__" : Str)) = false ∧ ∃ d, fv.lookup y.1 = some d)
    (hfv : ∀ n d, fv.lookup n = some d → scope.names.lookup n = some .free)
    (hkind : scope.kind = .function := by rfl) (hdist : ∀ y ∈ scope.names, scope.names.lookup y.1 = some y.2 := by decide +kernel)
    (hs : ∀ x, foldedSetIterable iter env x = pure x := by intro _; rfl) :
    Gv prog w A h X (eval (.ListComp elt [⟨.Name x px, iter, ifs, 0⟩] scope pos) env) (.lst ((items.filter p).map fe)) :=
  ev_comp (σ1 := fun d => upd (sg0 fv) x (.d d)) hA eo hv hi hz (fun cenv hb' X' s' s0 d v I E' hd fm sto q r hI => asg_name fm (sto x hx) q r) (fun d => up_sg0 hxf)
    (fun cenv h' X' d hd eo' kn kp hvar => htest cenv h' X' d hd eo' kn kp (hvar _ _ upd_self_eq) fun n d' e => hvar n d' (up_sg0 hxf _ _ (fv_sg0 e)))
    (fun cenv h' X' d hd hp eo' kn kp hvar => helt cenv h' X' d hd hp eo' kn kp (hvar _ _ upd_self_eq) fun n d' e => hvar n d' (up_sg0 hxf _ _ (fv_sg0 e))) hkind hdist hc hfv hs
theorem filter_true {α : Type} (l : List α) : l.filter (fun _ => true) = l := by simp
/-- [elt for x in iter] -/
theorem ev_compn {x : Str} {px : Pos} {elt iter : Expr} {scope : Scope} {pos : Pos} {items : List D} (fe : D → D) (fv : List (Str × D)) (hA : A.handled = none) (eo : EnvOk env)
    (hv : ∀ n d, fv.lookup n = some d → Var env h X n d ∧ env.kindOf n ≠ some .local) (hi : Gi prog w A h X env iter items) (hz : items.length ≤ sizeLine)
    (hx : scope.names.lookup x = some .local ∨ scope.names.lookup x = some .cell) (hxf : fv.lookup x = none)
    (helt : ∀ (cenv : Env) (h' : Heap) (X' : List Addr) (d : D), d ∈ items → EnvOk cenv → KN scope cenv → Kp h h' → Var cenv h' X' x d → (∀ n d', fv.lookup n = some d' → Var cenv h' X' n d') → Gv prog w A h' X' (eval elt cenv) (fe d))
    (hc : ∀ y ∈ scope.names, y.2 = .free → (y.1 == ("__classdict__" : Str)) = false ∧ ∃ d, fv.lookup y.1 = some d)
    (hfv : ∀ n d, fv.lookup n = some d → scope.names.lookup n = some .free)
    (hkind : scope.kind = .function := by rfl) (hdist : ∀ y ∈ scope.names, scope.names.lookup y.1 = some y.2 := by decide +kernel)
    (hs : ∀ x, foldedSetIterable iter env x = pure x := by intro _; rfl) :
    Gv prog w A h X (eval (.ListComp elt [⟨.Name x px, iter, [], 0⟩] scope pos) env) (.lst (items.map fe)) := by
  have := ev_comp1 (px := px) (elt := elt) (pos := pos) (ifs := []) (fun _ => true) fe fv hA eo hv hi hz hx hxf (fun _ _ _ _ _ _ _ _ _ _ => gt_nil) (fun cenv h' X' d hd _ => helt cenv h' X' d hd) hc hfv hkind hdist hs
  rwa [filter_true] at this
noncomputable def at2 (fv : List (Str × D)) (x y : Str) : D → Sg
  | .tup [a, b] => upd (upd (sg0 fv) x (.d a)) y (.d b)
  | _ => sg0 fv
/-- [elt for x, y in iter] -/
theorem ev_comp2 {x y : Str} {p1 p2 tp : Pos} {tk : Nat} {elt iter : Expr} {scope : Scope} {pos : Pos} {items : List (D × D)} (fe : D × D → D) (hA : A.handled = none) (eo : EnvOk env)
    (hi : Gi prog w A h X env iter (items.map fun p => D.tup [p.1, p.2])) (hz : items.length ≤ sizeLine)
    (hx : scope.names.lookup x = some .local) (hy : scope.names.lookup y = some .local) (hxy : x ≠ y)
    (helt : ∀ (cenv : Env) (h' : Heap) (X' : List Addr) (d : D × D), d ∈ items → EnvOk cenv → KN scope cenv → Kp h h' → Var cenv h' X' x d.1 → Var cenv h' X' y d.2 → Gv prog w A h' X' (eval elt cenv) (fe d))
    (hc : ∀ y ∈ scope.names, y.2 ≠ .free)
    (hkind : scope.kind = .function := by rfl) (hdist : ∀ y ∈ scope.names, scope.names.lookup y.1 = some y.2 := by decide +kernel)
    (hs : ∀ x, foldedSetIterable iter env x = pure x := by intro _; rfl) :
    Gv prog w A h X (eval (.ListComp elt [⟨.Tuple [.Name x p1, .Name y p2] tk tp, iter, [], 0⟩] scope pos) env) (.lst (items.map fe)) := by
  have := ev_comp (elt := elt) (pos := pos) (ifs := []) (scope := scope) (target := .Tuple [.Name x p1, .Name y p2] tk tp) (p := fun _ => true) (fe := fun d => match d with | .tup [a, b] => fe (a, b) | _ => .none) (fv := []) (σ1 := at2 [] x y) hA eo (fun n d e => nomatch e) hi (by rw [List.length_map]; exact hz)
    (fun cenv hb' X' s' s0 d v I E' hd fm sto q r hI => by
      obtain ⟨⟨a, b⟩, _, rfl⟩ := List.mem_map.mp hd
      exact asg_pair hA fm (sto x (.inl hx)) (sto y (.inl hy)) q r hI) (fun d x sl e => by unfold sg0 at e; cases e)
    (fun _ _ _ _ _ _ _ _ _ => gt_nil)
    (fun cenv h' X' d hd _ eo' kn kp hvar => by
      obtain ⟨⟨a, b⟩, hm, rfl⟩ := List.mem_map.mp hd
      exact helt cenv h' X' (a, b) hm eo' kn kp (hvar x a (by show upd _ y _ x = _; rw [upd_ne hxy, upd_self_eq])) (hvar y b (by show upd _ y _ y = _; rw [upd_self_eq]))) hkind hdist (fun y hy hf => absurd hf (hc y hy)) (fun n d e => nomatch e) hs
  rw [filter_true, List.map_map] at this
  exact this

/-- y = iter(e) -/
theorem st_iter {f y : Str} {np pos cpos py : Pos} {e : Expr} {rest : List Stmt} {ns : List Int} {Q : Flow → Shared → Prop} {E : Value → Shared → Prop} (fm : Fm hb env) (g : Gl mg mb hb) (q : St s0 hb env X σ s) (hf : env.kindOf f = some .globalImplicit) (hm : mg f = none) (hbf : mb f = some (.builtin "iter")) (hy : Sto hb env y)
    (he : Gv prog w A s.heap X (eval e env) (.lst (ns.map .int))) (hno : ∀ y I l i ns, σ y ≠ some (.iter I l i ns))
    (hn : ∀ s' I l, St s0 hb env X (upd σ y (.iter I l 0 ns)) s' → wpAny (model prog w) A (execs rest env) Q E s')
    (hs : starEach [e] env = (false, eval e env) :: starEach [] env := by rfl) (hdf : (f == ("__debug__" : Str)) = false := by decide) :
    wpAny (model prog w) A (execs (.Assign [.Name y py] (.Call (.Name f np) [e] [] cpos) pos :: rest) env) Q E s := by
  refine wpAny_execs_cons (PySem.wpAny_Assign_Name (wpAny_bind (wp_bltn fm.eo hf (g.up q.kp) hm hbf (Calls.callWith_builtin (by rw [hs]; rfl) (wp_args q.xok Kp.refl (gs_cons he gs_nil hs) (fun vs s1 k1 r1 => ?_) hs)) hdf)) rfl)
  obtain ⟨v, rfl, l, vs, n, rfl, hl, hg, hr⟩ := r1.one
  refine wp_iter (lo_isList hg) ?_
  have q1 := (q.up k1).up (s' := { s1 with heap := s1.heap.push { cls := .type "list_iterator", data := .fields #[.ref l, .int 0 0] } }) keeps_push
  have hnew : hb.get? s1.heap.objs.size = none := new_none (s := { s with heap := hb }) (s1 := s1) (q.kp.trans k1.kp) (Nat.le_refl _)
  exact st_store (v := .ref s1.heap.objs.size) (sl := .iter s1.heap.objs.size l 0 ns) fm q1 hy ⟨rfl, ⟨_, Heap.get?_push_size _ rfl, rfl, rfl⟩, hl, vs, n, Heap.get?_push_of_some _ hg, hr.up kp_push⟩ (fun _ _ e => nomatch e)
    (fun I l' i ns' e => by cases e; exact ⟨hnew, fun y I' l' i' ns' _ => hno y I' l' i' ns'⟩) fun s2 q2 => hn s2 _ _ q2

/-- y = f(x), where f reads on from the iterator x -/
theorem st_read {f x y : Str} {np px pos cpos py : Pos} {rest : List Stmt} {fa I l : Addr} {i : Nat} {ns R : List Int} {V : Int} {o : Obj} {fd : FuncData} {Q : Flow → Shared → Prop} {E : Value → Shared → Prop} (fm : Fm hb env) (g : Gl mg mb hb) (q : St s0 hb env X σ s)
    (hx : σ x = some (.iter I l i ns)) (hf : env.kindOf f = some .globalImplicit) (hm : mg f = some (.ref fa)) (ho : hb.get? fa = some o) (hd : o.data = .func fd) (hy : Sto hb env y)
    (hc : ∀ (s : Shared) (vs : List Value) (n : Nat) (Q : Value → Shared → Prop) (E : Value → Shared → Prop), Kp hb s.heap → XOk X s.heap → s.heap.IsListIter I l i → l ∉ X → s.heap.get? l = some (LO vs n) → Rds X s.heap vs (ns.map .int) →
      (∀ t s' j, SR s s' → (∀ b o, b ≠ I → s.heap.get? b = some o → s'.heap.get? b = some o) → s'.heap.IsListIter I l j → ns.drop j = R → Q (.int V t) s') → wpAny (model prog w) A (call (.ref fa) [.ref I]) Q E s)
    (hn : ∀ s' j, ns.drop j = R → St s0 hb env X (upd (upd σ x (.iter I l j ns)) y (.d (.int V))) s' → wpAny (model prog w) A (execs rest env) Q E s')
    (hdb : (x == ("__debug__" : Str)) = false := by decide) (hdf : (f == ("__debug__" : Str)) = false := by decide) :
    wpAny (model prog w) A (execs (.Assign [.Name y py] (.Call (.Name f np) [.Name x px] [] cpos) pos :: rest) env) Q E s := by
  obtain ⟨v, at1, rfl, hi, hl, vs, n, hg, hr⟩ := q.var x _ hx
  refine wpAny_execs_cons (PySem.wpAny_Assign_Name (wpAny_bind (wp_glob fm.eo hf (g.up q.kp) hm (Calls.callWith_function (fd := fd) (Calls.evalArgs_plain (Calls.spliced_cons (wp_at fm.eo at1 (Calls.spliced_nil ⟨⟨q.kp _ _ ho, hd⟩, ?_⟩) hdb)))) hdf)) rfl)
  refine hc s vs n _ _ q.kp q.xok hi hl hg hr fun t s' j hsr hk hit hR => ?_
  obtain ⟨h', g', d', t', o'⟩ := s'
  obtain ⟨e1, e2, e3⟩ := hsr
  dsimp only at e1 e2 e3 hk hit
  subst e1 e2 e3
  exact st_store_d (d := .int V) fm (q.iter_set (tk := t') hx (fun b o hb e => hk b o hb e) hit) hy ⟨t, rfl⟩ fun s2 q2 => hn s2 j hR q2
end
end Mine
end
section
open PySem PySem.W PyProof.Rows
open PySem.Builtin PySem.Builtin.Re
namespace Mine
noncomputable def zeroV : Value → Bool
  | .int i t => i == 0 && t == 0
  | _ => false
theorem zeroV_eq {v : Value} (h : zeroV v = true) : v = rawInt 0 := by
  unfold zeroV at h
  split at h
  · rw [Bool.and_eq_true, beq_iff_eq, beq_iff_eq] at h
    rw [h.1, h.2]; rfl
  · cases h
noncomputable def seqOk (K : Frag) (cd : Array Nat) : Value → Bool
  | .ref c => match K.lookup c with
    | some oc => match oc.data with
      | .seq items _ => decide ((items.map reRawOf).map (·.toNat) = cd)
      | _ => false
    | none => false
  | _ => false
noncomputable def patOk (K : Frag) (a : Addr) (cd : Array Nat) : Bool :=
  match K.lookup a with
  | some o => match o.cls, o.dict, o.data with
    | .type T, none, .fields fs => T == "re.Pattern" && zeroV (fs.getD 6 .none) && zeroV (fs.getD 2 .none) && seqOk K cd (fs.getD 5 .none)
    | _, _, _ => false
  | none => false
theorem pat_of {K : Frag} {h : Heap} {a : Addr} {cd : Array Nat} (X : K.In h) (e : patOk K a cd = true) : PatAt h a cd ∧ ∃ ob, h.get? a = some ob ∧ ob.dict = none := by
  unfold patOk at e
  split at e
  · rename_i o ho
    split at e
    · rename_i T fs e1 e2 e3
      simp only [Bool.and_eq_true, beq_iff_eq] at e
      obtain ⟨⟨⟨rfl, z6⟩, z2⟩, hs⟩ := e
      unfold seqOk at hs
      split at hs
      · rename_i c hc
        split at hs
        · rename_i oc hoc
          split at hs
          · rename_i items n hi
            exact ⟨⟨o, fs, c, oc, items, n, X _ _ ho, e1, e3, zeroV_eq z6, zeroV_eq z2, hc, X _ _ hoc, hi, of_decide_eq_true hs⟩, o, X _ _ ho, e2⟩
          · cases hs
        · cases hs
      · cases hs
    · cases e
  · cases e
section
variable {prog : Program} {w : World} {A : Around} {env : Env} {h hb : Heap} {X : List Addr} {mg mb : Str → Option Value}
theorem ev_crlf {p : Str} {np apos pos : Pos} {e1 e2 : Expr} {a : Addr} {x : Str} (eo : EnvOk env) (hx : env.kindOf p = some .globalImplicit) (g : Gl mg mb h) (hp : mg p = some (.ref a)) (P : PatAt h a cd2 ∧ ∃ ob, h.get? a = some ob ∧ ob.dict = none)
    (h1 : Gv prog w A h X (eval e1 env) (.str ⟨#[13, 10]⟩)) (h2 : Gv prog w A h X (eval e2 env) (.str x)) (hz : x.cps.size ≤ 100000)
    (hbase : attributeBase (.Name p np) (Str.ofString "sub") env (eval (.Name p np) env) = eval (.Name p np) env := by rfl) (hs : starEach [e1, e2] env = [(false, eval e1 env), (false, eval e2 env)] := by rfl) (hline : (apos.endLine == pos.line) = true := by rfl)
    (hdb : (p == ("__debug__" : Str)) = false := by decide) :
    Gv prog w A h X (eval (.Call (.Attribute (.Name p np) (Str.ofString "sub") apos) [e1, e2] [] pos) env) (.str ⟨(crlf x.cps.toList).toArray⟩) := by
  have := ev_sub finds2 eo hx g hp P.1 P.2 h1 h2 hz (by decide) (by decide +kernel) hbase hs hline hdb
  rwa [sub_is_crlf] at this
theorem ev_dots {p : Str} {np apos pos : Pos} {e1 e2 : Expr} {a : Addr} {x : Str} (eo : EnvOk env) (hx : env.kindOf p = some .globalImplicit) (g : Gl mg mb h) (hp : mg p = some (.ref a)) (P : PatAt h a cd1 ∧ ∃ ob, h.get? a = some ob ∧ ob.dict = none)
    (h1 : Gv prog w A h X (eval e1 env) (.str ⟨#[46, 46]⟩)) (h2 : Gv prog w A h X (eval e2 env) (.str x)) (hz : x.cps.size ≤ 100000)
    (hbase : attributeBase (.Name p np) (Str.ofString "sub") env (eval (.Name p np) env) = eval (.Name p np) env := by rfl) (hs : starEach [e1, e2] env = [(false, eval e1 env), (false, eval e2 env)] := by rfl) (hline : (apos.endLine == pos.line) = true := by rfl)
    (hdb : (p == ("__debug__" : Str)) = false := by decide) :
    Gv prog w A h X (eval (.Call (.Attribute (.Name p np) (Str.ofString "sub") apos) [e1, e2] [] pos) env) (.str ⟨(dots true x.cps.toList).toArray⟩) := by
  have := ev_sub finds1 eo hx g hp P.1 P.2 h1 h2 hz (by decide) (by decide +kernel) hbase hs hline hdb
  rwa [sub_is_dots] at this
end
/-- the telling of a mail, from the number that was read last -/
noncomputable def tellGo : Nat → Int → List Int → Int → Int → List D → Option (List D)
  | 0, _, _, _, _, _ => none
  | f + 1, V, R, dots, name, acc =>
    if V = 0 then some acc else
    match vread R with
    | none => none
    | some (V', R') => if 256 ≤ V then tellGo f V' R' dots V acc else if V = 46 then tellGo f V' R' (dots + 1) name acc else tellGo f V' R' 0 name (acc ++ [.tup [.int dots, .int name]])
noncomputable def tell (l : List Nat) : Option (List D) := match vread (l.map (fun (c : Nat) => (c : Int)) ++ [0]) with
  | none => none
  | some (V, R) => tellGo (l.length + 2) V R 0 0 []
end Mine
end
section
open PySem PySem.W PyProof.Rows
namespace Mine
/-- the names by a list -/
noncomputable def sgl (l : List (Str × Sl)) : Sg := fun y => l.lookup y
noncomputable def AllIn (σ : Sg) : List (Str × Sl) → Prop
  | [] => True
  | p :: r => σ p.1 = some p.2 ∧ AllIn σ r
noncomputable def OwnIn (O : List Addr) : List (Str × Sl) → Prop
  | [] => True
  | (_, .own a _) :: r => a ∈ O ∧ OwnIn O r
  | _ :: r => OwnIn O r
noncomputable def noIter : List (Str × Sl) → Bool
  | [] => true
  | (_, .iter ..) :: _ => false
  | _ :: r => noIter r
theorem sgl_mem : ∀ {l : List (Str × Sl)} {y : Str} {sl : Sl}, sgl l y = some sl → (y, sl) ∈ l
  | [], y, sl, e => by cases e
  | (n, s) :: r, y, sl, e => by
    unfold sgl at e
    rw [List.lookup_cons] at e
    by_cases h : y == n
    · rw [h] at e; cases e; rw [eq_of_beq h]; exact List.mem_cons_self
    · rw [Bool.eq_false_iff.mpr h] at e; exact List.mem_cons_of_mem _ (sgl_mem e)
theorem allIn_mem {σ : Sg} : ∀ {l : List (Str × Sl)} {y : Str} {sl : Sl}, AllIn σ l → (y, sl) ∈ l → σ y = some sl
  | [], y, sl, _, e => by cases e
  | (n, s) :: r, y, sl, h, e => by
    rcases List.mem_cons.mp e with e | e
    · cases e; exact h.1
    · exact allIn_mem h.2 e
theorem ownIn_mem {O : List Addr} {y : Str} {a : Addr} {ds : List D} {l : List (Str × Sl)} (h : OwnIn O l) (e : (y, .own a ds) ∈ l) : a ∈ O := by
  induction l with
  | nil => cases e
  | cons p r ih =>
    obtain ⟨n, s⟩ := p
    rcases List.mem_cons.mp e with e' | e'
    · cases e'; exact h.1
    · cases s <;> first | exact ih h e' | exact ih h.2 e'
theorem noIter_mem {y : Str} {I k : Addr} {i : Nat} {ns : List Int} {l : List (Str × Sl)} (h : noIter l = true) : (y, .iter I k i ns) ∉ l := by
  induction l with
  | nil => intro e; cases e
  | cons p r ih =>
    obtain ⟨n, s⟩ := p
    intro e
    rcases List.mem_cons.mp e with e' | e'
    · cases e'; cases h
    · cases s <;> first | exact ih h e' | cases h
noncomputable def isFree : NameKind → Bool
  | .free => true
  | _ => false
theorem fc {scope : Scope} {fv : List (Str × D)} (h : scope.names.all (fun y => !isFree y.2 || (!(y.1 == ("__classdict__" : Str)) && (fv.lookup y.1).isSome)) = true) :
    ∀ y ∈ scope.names, y.2 = .free → (y.1 == ("__classdict__" : Str)) = false ∧ ∃ d, fv.lookup y.1 = some d := fun y hy hf => by
  have := List.all_eq_true.mp h y hy
  rw [hf] at this
  simp only [isFree, Bool.not_true, Bool.false_or, Bool.and_eq_true, Bool.not_eq_true'] at this
  exact ⟨this.1, Option.isSome_iff_exists.mp this.2⟩
noncomputable def freeAt (scope : Scope) (n : Str) : Bool := match scope.names.lookup n with
  | some .free => true
  | _ => false
theorem ff {scope : Scope} {fv : List (Str × D)} (h : fv.all (fun p => freeAt scope p.1) = true) : ∀ n d, fv.lookup n = some d → scope.names.lookup n = some .free := fun n d e => by
  have hm : ∀ (l : List (Str × D)), l.lookup n = some d → (n, d) ∈ l := fun l => by
    induction l with
    | nil => intro e; cases e
    | cons p r ih =>
      obtain ⟨m, c⟩ := p
      intro e
      rw [List.lookup_cons] at e
      by_cases hb : n == m
      · rw [hb] at e; cases e; rw [eq_of_beq hb]; exact List.mem_cons_self
      · rw [Bool.eq_false_iff.mpr hb] at e; exact List.mem_cons_of_mem _ (ih e)
  have := List.all_eq_true.mp h _ (hm fv e)
  unfold freeAt at this
  split at this
  · assumption
  · cases this
theorem KN.gl {scope : Scope} {cenv : Env} (kn : KN scope cenv) {n : Str} (h : scope.names.lookup n = some .globalImplicit) : cenv.kindOf n = some .globalImplicit := by
  rcases kn n _ h with e | ⟨e, _⟩
  · exact e
  · cases e
section
variable {prog : Program} {w : World} {A : Around} {env : Env} {h hb : Heap} {X : List Addr} {mg mb : Str → Option Value} {σ : Sg} {s s0 : Shared}
theorem St.toL (q : St s0 hb env X σ s) (l : List (Str × Sl)) (h : AllIn σ l) : St s0 hb env X (sgl l) s := q.weak fun y sl e => allIn_mem h (sgl_mem e)
theorem sgl_own {O : List Addr} {l : List (Str × Sl)} (h : OwnIn O l) : ∀ x a ds, sgl l x = some (.own a ds) → a ∈ O := fun x a ds e => ownIn_mem h (sgl_mem e)
theorem sgl_ni {l : List (Str × Sl)} (h : noIter l = true) : ∀ x I k i ns, sgl l x ≠ some (.iter I k i ns) := fun x I k i ns e => noIter_mem h (sgl_mem e)
end
end Mine
end
section
open PySem PySem.W PyProof.Rows
namespace Mine
noncomputable def esOf (K : Frag) (a : Addr) : Array DictEntry := match K.lookup a with
  | some o => match o.data with
    | .dict es _ => es
    | _ => #[]
  | _ => #[]
noncomputable def nOf (K : Frag) (a : Addr) : Nat := match K.lookup a with
  | some o => match o.data with
    | .dict _ n => n
    | _ => 0
  | _ => 0
section
variable {prog : Program} {w : World} {A : Around} {env : Env} {h hb : Heap} {X : List Addr} {mg mb : Str → Option Value} {σ : Sg} {s s0 : Shared}

theorem map_up {a : Addr} {f : Str → Option Value} {h' : Heap} (hm : h.MapOf (strKind prog w) a f) (k : Kp h h') : h'.MapOf (strKind prog w) a f := let ⟨o, es, ep, h1, h2⟩ := hm; ⟨o, es, ep, k _ _ h1, h2⟩
theorem tr_in_dict {e : Expr} {p : Str} {np pos : Pos} {a : Addr} {x : Str} {f : Str → Option Value} {wh : Sem Value} (eo : EnvOk env) (hx : env.kindOf p = some .globalImplicit) (g : Gl mg mb h) (hp : mg p = some (.ref a)) (hm : h.MapOf (strKind prog w) a f) (ha : (a == sysModules) = false)
    (he : Gv prog w A h X (eval e env) (.str x)) (hk : behindInMarks .In (.Name p np) = false := by with_unfolding_all rfl) (hdb : (p == ("__debug__" : Str)) = false := by decide) :
    Gb prog w A h X (isTrue (.Compare e [.In] [.Name p np] pos) env wh) (f x).isSome := fun hX s Q E hk' hQ => by
  refine PySem.wpAny_isTrue_Compare1 (he hX s _ _ hk' fun v s1 k1 r1 => ?_) hk
  obtain ⟨t, rfl⟩ := r1
  have kk := hk'.trans k1.kp
  refine wp_glob eo hx (g.up kk) hp ?_ hdb
  refine wpAny_in_of (strKind_is prog w x t) ha (map_up hm kk) ?_
  exact wpAny_truthy_bool (hQ _ (k1.tr keeps_tok))
theorem ev_get_dict {e : Expr} {p : Str} {np pos : Pos} {a : Addr} {x : Str} {f : Str → Option Value} {v : Value} {d : D} (eo : EnvOk env) (hx : env.kindOf p = some .globalImplicit) (g : Gl mg mb h) (hp : mg p = some (.ref a)) (hm : h.MapOf (strKind prog w) a f)
    (he : Gv prog w A h X (eval e env) (.str x)) (hv : f x = some v) (hr : Rd X h v d)
    (hs : ∀ o i, subscripted e false o i = operate [o, i] (getItem o i) := by intro _ _; with_unfolding_all rfl) (hdb : (p == ("__debug__" : Str)) = false := by decide) :
    Gv prog w A h X (eval (.Subscript (.Name p np) e pos) env) d := fun hX s Q E hk' hQ => by
  refine Subscript_ (wp_glob eo hx (g.up hk') hp (he hX s _ _ hk' fun v2 s1 k1 r1 => ?_) hdb)
  obtain ⟨t, rfl⟩ := r1
  have hm1 := map_up hm (hk'.trans k1.kp)
  exact tail_any hm1.typeIs slot_dict_getitem.lookup (wpAny_getItem_of (strKind_is prog w x t) hm1 hv (hQ _ _ (k1.tr keeps_tok) (hr.up (hk'.trans k1.kp)))) (hs _ _)
end
end Mine
end
section
open PySem PySem.W PyProof.Rows
namespace Mine
/-- a row of a mail: its dots, its name, its end -/
structure Rw where
  k : Nat
  nm : List Nat
  e : List Nat
noncomputable def Rw.cps (r : Rw) : List Nat := List.replicate r.k 46 ++ (r.nm ++ r.e)
noncomputable def mailOf : List Rw → List Nat
  | [] => []
  | r :: rs => r.cps ++ mailOf rs
theorem mailOf_app : ∀ (a b : List Rw), mailOf (a ++ b) = mailOf a ++ mailOf b
  | [], _ => rfl
  | r :: a, b => by show r.cps ++ mailOf (a ++ b) = (r.cps ++ mailOf a) ++ mailOf b; rw [mailOf_app a b, List.append_assoc]
noncomputable def nmOk (l : List Nat) : Prop := ∀ c ∈ l, 64 ≤ c ∧ c < 128
structure Rw.ok (r : Rw) : Prop where
  k : 1 ≤ r.k
  nm : nmOk r.nm
  e : r.e = [10] ∨ r.e = [13] ∨ r.e = [13, 10]
  ne : r.nm ≠ []
noncomputable def Rw.up (r : Rw) : Rw := ⟨r.k + 1, r.nm, [13, 10]⟩
theorem Rw.ok.up {r : Rw} (o : r.ok) : r.up.ok := ⟨Nat.le_add_left _ _, o.nm, .inr (.inr rfl), o.ne⟩
theorem crlf_cons {c : Nat} {r : List Nat} (h1 : c ≠ 13) (h2 : c ≠ 10) : crlf (c :: r) = c :: crlf r := by
  rw [crlf]
  · intro a b; exact fun _ => h1 b
  · exact h1
  · exact h2
theorem crlf_dots : ∀ (k : Nat) (r : List Nat), crlf (List.replicate k 46 ++ r) = List.replicate k 46 ++ crlf r
  | 0, r => rfl
  | k + 1, r => by
    rw [List.replicate_succ, List.cons_append, List.cons_append, crlf_cons (by decide) (by decide), crlf_dots k r]
theorem crlf_nm : ∀ {l : List Nat} (r : List Nat), nmOk l → crlf (l ++ r) = l ++ crlf r
  | [], r, _ => rfl
  | c :: l, r, h => by
    have := h c List.mem_cons_self
    rw [List.cons_append, List.cons_append, crlf_cons (by omega) (by omega), crlf_nm r fun d hd => h d (List.mem_cons_of_mem _ hd)]
theorem crlf_end {e r : List Nat} (h : e = [10] ∨ e = [13] ∨ e = [13, 10]) (hr : ∀ t, r ≠ 10 :: t) : crlf (e ++ r) = [13, 10] ++ crlf r := by
  rcases h with rfl | rfl | rfl
  · rfl
  · cases r with
    | nil => rfl
    | cons c t =>
      show crlf (13 :: c :: t) = 13 :: 10 :: crlf (c :: t)
      rw [crlf]
      intro u hu
      exact hr u hu
  · rfl
theorem dots_cons {b : Bool} {c : Nat} {r : List Nat} (h : c ≠ 46) : dots b (c :: r) = c :: dots (c == 10) r := by
  rw [dots]
  have : (b && c == 46) = false := by simp [h]
  rw [this]; rfl
theorem dots_dots : ∀ (k : Nat) (r : List Nat), dots false (List.replicate k 46 ++ r) = List.replicate k 46 ++ dots (if k = 0 then false else false) r
  | 0, r => rfl
  | k + 1, r => by
    rw [List.replicate_succ, List.cons_append, List.cons_append]
    show (if false && (46 : Nat) == 46 then [46, 46] else [46]) ++ dots (46 == 10) _ = _
    rw [show ((46 : Nat) == 10) = false from rfl, dots_dots k r]
    simp
theorem dots_nm : ∀ {l : List Nat} (r : List Nat), nmOk l → dots false (l ++ r) = l ++ dots false r
  | [], r, _ => rfl
  | c :: l, r, h => by
    have := h c List.mem_cons_self
    rw [List.cons_append, List.cons_append, dots_cons (by omega), show (c == 10) = false by simp; omega, dots_nm r fun d hd => h d (List.mem_cons_of_mem _ hd)]
theorem quoted_row {r : Rw} (o : r.ok) (t : List Nat) : dots true (List.replicate r.k 46 ++ (r.nm ++ ([13, 10] ++ t))) = r.up.cps ++ dots true t := by
  obtain ⟨k', hk⟩ : ∃ k', r.k = k' + 1 := ⟨r.k - 1, by have := o.k; omega⟩
  have e1 : r.up.cps = 46 :: 46 :: (List.replicate k' 46 ++ (r.nm ++ [13, 10])) := by
    show List.replicate (r.k + 1) 46 ++ (r.nm ++ [13, 10]) = _
    rw [hk, List.replicate_succ, List.replicate_succ]; rfl
  rw [e1, hk, List.replicate_succ, List.cons_append]
  show (if true && (46 : Nat) == 46 then [46, 46] else [46]) ++ dots (46 == 10) _ = _
  rw [show ((46 : Nat) == 10) = false from rfl, dots_dots]
  simp only [ite_self]
  rw [dots_nm _ o.nm]
  simp [dots]
theorem mail_no10 : ∀ {rs : List Rw}, (∀ r ∈ rs, r.ok) → ∀ t, mailOf rs ≠ 10 :: t
  | [], _, t, e => by cases e
  | r :: rs, h, t, e => by
    have o := h r List.mem_cons_self
    obtain ⟨k', hk⟩ : ∃ k', r.k = k' + 1 := ⟨r.k - 1, by have := o.k; omega⟩
    rw [mailOf, Rw.cps, hk, List.replicate_succ] at e
    cases e
theorem quoted_mail : ∀ {rs : List Rw}, (∀ r ∈ rs, r.ok) → quoted (mailOf rs) = mailOf (rs.map Rw.up)
  | [], _ => rfl
  | r :: rs, h => by
    have o := h r List.mem_cons_self
    have hr : ∀ r ∈ rs, r.ok := fun a ha => h a (List.mem_cons_of_mem _ ha)
    have ih := quoted_mail hr
    unfold quoted at ih ⊢
    show dots true (crlf (r.cps ++ mailOf rs)) = r.up.cps ++ mailOf (rs.map Rw.up)
    rw [Rw.cps, List.append_assoc, List.append_assoc, crlf_dots, crlf_nm _ o.nm, crlf_end o.e (mail_no10 hr), quoted_row o, ih]

-- the telling
theorem and64 {c : Nat} (h1 : 64 ≤ c) (h2 : c < 128) : (Builtin.bitAnd (c : Int) 64 != 0) = true ∧ Builtin.bitAnd (c : Int) 63 = (c : Int) - 64 := by
  have : ∀ c : Fin 128, 64 ≤ c.val → (Builtin.bitAnd ((c.val : Nat) : Int) 64 != 0) = true ∧ Builtin.bitAnd ((c.val : Nat) : Int) 63 = ((c.val : Nat) : Int) - 64 := by decide +kernel
  exact this ⟨c, h2⟩ h1
theorem or64 {x : Int} {c : Int} (h0 : 0 ≤ x) (h1 : 0 ≤ c) (h2 : c < 64) : Builtin.bitOr (x * 2 ^ (6 : Int).toNat) c = x * 64 + c := by
  obtain ⟨a, rfl⟩ := Int.eq_ofNat_of_zero_le h0
  obtain ⟨b, rfl⟩ := Int.eq_ofNat_of_zero_le h1
  rw [bitOr_and, bitAnd_pp (Int.mul_nonneg (Int.natCast_nonneg _) (by decide)) (by omega)]
  have e : ((a : Int) * 2 ^ (6 : Int).toNat).toNat = a <<< 6 := by
    rw [Nat.shiftLeft_eq]
    show ((a : Int) * ((64 : Nat) : Int)).toNat = a * 64
    rw [← Int.natCast_mul]; rfl
  rw [e]
  have hb : b < 2 ^ 6 := by have : (b : Int) < 64 := h2; omega
  have h := Nat.shiftLeft_add_eq_or_of_lt hb a
  have z : (a <<< 6) &&& b = 0 := by
    apply Nat.eq_of_testBit_eq
    intro i
    rw [Nat.testBit_and, Nat.testBit_shiftLeft, Nat.zero_testBit]
    by_cases hi : 6 ≤ i
    · have : b.testBit i = false := Nat.testBit_lt_two_pow (Nat.lt_of_lt_of_le hb (Nat.pow_le_pow_right (by decide) hi))
      rw [this, Bool.and_false]
    · simp [hi]
  rw [show (↑b : Int).toNat = b from rfl, z]
  show (a : Int) * ((64 : Nat) : Int) + b - ((0 : Nat) : Int) = _
  omega
/-- the number that a name and a return are read as -/
noncomputable def nv : Int → List Nat → Int
  | v, [] => v * 64 + 13
  | v, c :: r => nv (v * 64 + ((c : Int) - 64)) r
noncomputable def zs (l : List Nat) : List Int := l.map fun (c : Nat) => (c : Int)
theorem zs_app (a b : List Nat) : zs (a ++ b) = zs a ++ zs b := List.map_append
theorem p64 {j : Nat} (h : j ≤ 8) : (64 : Int) ^ j ≤ 64 ^ 8 := by
  have : ∀ j : Fin 9, (64 : Int) ^ j.val ≤ 64 ^ 8 := by decide +kernel
  exact this ⟨j, by omega⟩
theorem vloop_nm : ∀ (l : List Nat) (b : Nat) (val : Int) (j : Nat) (R : List Int), nmOk l → 64 ≤ b → b < 128 → 0 ≤ val → val < 64 ^ j → l.length + j ≤ 8 → vloop (zs l ++ 13 :: 10 :: R) b val = some (nv val l, 10 :: R)
  | [], b, val, j, R, _, h1, h2, h3, h4, h5 => by
    have hb := and64 h1 h2
    have hv : val < 64 ^ 8 := Int.lt_of_lt_of_le h4 (p64 (by simpa using h5))
    show vloop (13 :: 10 :: R) b val = _
    rw [vloop, if_pos hb.1, if_pos (by omega), or64 h3 (by decide) (by decide)]
    show vloop (10 :: R) 13 (val * 64 + 13) = _
    rw [vloop, if_neg (by decide)]; rfl
  | c :: l, b, val, j, R, hl, h1, h2, h3, h4, h5 => by
    have hb := and64 h1 h2
    have hc := hl c List.mem_cons_self
    have hcb := and64 hc.1 hc.2
    have h5' : j ≤ 8 := by simp at h5; omega
    have hv : val < 64 ^ 8 := Int.lt_of_lt_of_le h4 (p64 h5')
    show vloop ((c : Int) :: (zs l ++ 13 :: 10 :: R)) b val = _
    rw [vloop, if_pos hb.1, if_pos (by omega), hcb.2, or64 h3 (by omega) (by omega)]
    have hp : (64 : Int) ^ (j + 1) = 64 ^ j * 64 := Int.pow_succ ..
    exact vloop_nm l c _ (j + 1) R (fun d hd => hl d (List.mem_cons_of_mem _ hd)) hc.1 hc.2 (by omega) (by omega) (by simp at h5 ⊢; omega)
theorem vread_nm {c : Nat} {l : List Nat} {R : List Int} (hl : nmOk (c :: l)) (h5 : l.length ≤ 7) : vread (zs (c :: l) ++ 13 :: 10 :: R) = some (nv 0 (c :: l), 10 :: R) := by
  have hc := hl c List.mem_cons_self
  have hcb := and64 hc.1 hc.2
  show vloop (zs l ++ 13 :: 10 :: R) c (Builtin.bitAnd (c : Int) 63) = _
  rw [hcb.2, vloop_nm l c _ 1 R (fun d hd => hl d (List.mem_cons_of_mem _ hd)) hc.1 hc.2 (by omega) (by omega) (by omega)]
  show _ = some (nv (0 * 64 + ((c : Int) - 64)) l, _)
  rw [Int.zero_mul, Int.zero_add]
theorem vread_small {c : Int} {R : List Int} (h : (Builtin.bitAnd c 64 != 0) = false) (h2 : Builtin.bitAnd c 63 = c) : vread (c :: R) = some (c, R) := by
  show vloop R c (Builtin.bitAnd c 63) = _
  rw [h2]
  cases R with
  | nil => rw [vloop, if_neg (by rw [h]; exact Bool.false_ne_true)]
  | cons d R => rw [vloop, if_neg (by rw [h]; exact Bool.false_ne_true)]
/-- a row that is told: return and feed at its end -/
structure Rw.told (r : Rw) : Prop where
  k : 1 ≤ r.k
  nm : nmOk r.nm
  e : r.e = [13, 10]
  ne : r.nm ≠ []
  len : r.nm.length ≤ 7
  big : 256 ≤ nv 0 r.nm
theorem Rw.ok.told {r : Rw} (o : r.ok) (h1 : r.nm.length ≤ 7) (h2 : 256 ≤ nv 0 r.nm) : r.up.told := ⟨Nat.le_add_left _ _, o.nm, rfl, o.ne, h1, h2⟩
noncomputable def rowD (r : Rw) : D := .tup [.int r.k, .int (nv 0 r.nm)]
noncomputable def TellTo (l : List Int) (n : Nat) (dots name : Int) (acc ds : List D) : Prop := ∀ f, n ≤ f → ∃ V R, vread l = some (V, R) ∧ tellGo f V R dots name acc = some ds
theorem tell_dot {l : List Int} {n : Nat} {dots name : Int} {acc ds : List D} (h : TellTo l n (dots + 1) name acc ds) : TellTo (46 :: l) (n + 1) dots name acc ds := fun f hf => by
  obtain ⟨f, rfl⟩ : ∃ f', f = f' + 1 := ⟨f - 1, by omega⟩
  obtain ⟨V, R, h1, h2⟩ := h f (by omega)
  refine ⟨46, l, vread_small (by decide) (by decide), ?_⟩
  rw [tellGo, if_neg (by decide), h1]
  dsimp only
  rw [if_neg (by decide), if_pos rfl]
  exact h2
theorem tell_dots : ∀ (k : Nat) {l : List Int} {n : Nat} {dots name : Int} {acc ds : List D}, TellTo l n (dots + k) name acc ds → TellTo (zs (List.replicate k 46) ++ l) (n + k) dots name acc ds
  | 0, l, n, dots, name, acc, ds, h => by simpa [zs] using h
  | k + 1, l, n, dots, name, acc, ds, h => by
    rw [List.replicate_succ]
    show TellTo (46 :: (zs (List.replicate k 46) ++ l)) (n + k + 1) dots name acc ds
    refine tell_dot (tell_dots k ?_)
    rw [show dots + 1 + (k : Int) = dots + ((k + 1 : Nat) : Int) by omega]
    exact h
theorem tell_mail_go : ∀ (rs : List Rw) (name : Int) (acc : List D), (∀ r ∈ rs, r.told) → TellTo (zs (mailOf rs) ++ [0]) ((mailOf rs).length + 1) 0 name acc (acc ++ rs.map rowD)
  | [], name, acc, _ => fun f hf => ⟨0, [], vread_small (by decide) (by decide), by
    obtain ⟨f, rfl⟩ : ∃ f', f = f' + 1 := ⟨f - 1, by omega⟩
    rw [tellGo, if_pos rfl]; simp⟩
  | r :: rs, name, acc, h => by
    have o := h r List.mem_cons_self
    have hr : ∀ r ∈ rs, r.told := fun a ha => h a (List.mem_cons_of_mem _ ha)
    obtain ⟨c, l, hnm⟩ : ∃ c l, r.nm = c :: l := by
      cases e : r.nm with
      | nil => exact absurd e o.ne
      | cons c l => exact ⟨c, l, rfl⟩
    have hok := o.nm
    have hbig := o.big
    have hlen := o.len
    rw [hnm] at hok hbig hlen
    have e : zs (mailOf (r :: rs)) ++ [0] = zs (List.replicate r.k 46) ++ (zs (c :: l) ++ 13 :: 10 :: (zs (mailOf rs) ++ [0])) := by
      rw [mailOf, Rw.cps, o.e, hnm]
      simp [zs]
    rw [e]
    have hL : (mailOf (r :: rs)).length = r.k + (l.length + 1) + 2 + (mailOf rs).length := by
      rw [mailOf, Rw.cps, o.e, hnm]
      simp; omega
    have ih := tell_mail_go rs (nv 0 (c :: l)) (acc ++ [rowD r]) hr
    have step : TellTo (zs (c :: l) ++ 13 :: 10 :: (zs (mailOf rs) ++ [0])) ((mailOf rs).length + 3) (0 + (r.k : Int)) name acc (acc ++ (r :: rs).map rowD) := fun f hf => by
      obtain ⟨f, rfl⟩ : ∃ f', f = f' + 2 := ⟨f - 2, by omega⟩
      obtain ⟨V, R, h1, h2⟩ := ih f (by omega)
      refine ⟨_, _, vread_nm hok (by simp at hlen; omega), ?_⟩
      rw [tellGo, if_neg (by omega), vread_small (c := 10) (by decide) (by decide)]
      dsimp only
      rw [if_pos hbig, tellGo, if_neg (by decide), h1]
      dsimp only
      rw [if_neg (by decide), if_neg (by decide), Int.zero_add]
      rw [List.append_assoc] at h2
      have : rowD r = .tup [.int r.k, .int (nv 0 (c :: l))] := by rw [rowD, hnm]
      rw [← this]
      exact h2
    have := tell_dots r.k step
    intro f hf
    exact this f (by omega)
theorem tell_mail {rs : List Rw} (h : ∀ r ∈ rs, r.told) : tell (mailOf rs) = some (rs.map rowD) := by
  obtain ⟨V, R, h1, h2⟩ := tell_mail_go rs 0 [] h ((mailOf rs).length + 2) (by omega)
  unfold tell
  rw [show (mailOf rs).map (fun (c : Nat) => (c : Int)) ++ [0] = zs (mailOf rs) ++ [0] from rfl, h1]
  exact h2
end Mine
end
section
open PySem PySem.W PyProof.Rows PySem.SeqAt
namespace Mine
theorem sizeLine_val : sizeLine = 16777216 := by decide
theorem cut_take (ds : List D) (k : Nat) : cut ds none (some (k : Int)) = ds.take k := by
  unfold cut kms_lo kms_hi
  dsimp only
  rw [if_neg (by omega), Nat.sub_zero, List.drop_zero, Int.toNat_natCast]
  rcases Nat.le_total k ds.length with h | h
  · rw [Nat.min_eq_left h]
  · rw [Nat.min_eq_right h, List.take_of_length_le (Nat.le_refl _), List.take_of_length_le h]
theorem cut_drop (ds : List D) (k : Nat) : cut ds (some (k : Int)) none = ds.drop k := by
  unfold cut kms_lo kms_hi
  dsimp only
  rw [if_neg (by omega), Int.toNat_natCast]
  rcases Nat.le_total k ds.length with h | h
  · rw [Nat.min_eq_left h, List.take_of_length_le (by rw [List.length_drop]; omega)]
  · rw [Nat.min_eq_right h, List.drop_of_length_le (Nat.le_refl _), List.drop_of_length_le h, List.take_nil]
theorem cut_mid (ds : List D) (j k : Nat) : cut ds (some (j : Int)) (some (k : Int)) = (ds.take k).drop j := by
  unfold cut kms_lo kms_hi
  dsimp only
  rw [if_neg (by omega), if_neg (by omega), Int.toNat_natCast, Int.toNat_natCast, List.drop_take]
  apply List.ext_getElem?
  intro i
  rw [List.getElem?_take, List.getElem?_take, List.getElem?_drop, List.getElem?_drop]
  by_cases h : i < k - j
  · rw [if_pos h]
    by_cases h2 : j + i < ds.length
    · rw [if_pos (by omega), Nat.min_eq_left (by omega)]
    · split
      · rw [List.getElem?_eq_none (by omega), List.getElem?_eq_none (by omega)]
      · rw [List.getElem?_eq_none (by omega)]
  · rw [if_neg h, if_neg (by omega)]
section
variable {prog : Program} {w : World} {A : Around} {env : Env} {h hb : Heap} {X : List Addr} {mg mb : Str → Option Value} {σ : Sg} {s s0 : Shared}
/-- a or b, as a value -/
theorem ev_or2 {e1 e2 : Expr} {pos : Pos} {a b : Bool} (h1 : Gv prog w A h X (eval e1 env) (.bool a)) (h2 : a = false → Gv prog w A h X (eval e2 env) (.bool b)) : Gv prog w A h X (eval (.BoolOp .Or [e1, e2] pos) env) (.bool (a || b)) := fun hX s Q E hk hQ =>
  BoolOp_or (h1 hX s _ _ hk fun v s1 k1 r1 => by
    rw [show v = .bool a from r1]
    refine wpAny_truthy_bool ?_
    cases a with
    | true => exact hQ _ s1 k1 rfl
    | false => exact BoolOp_one (h2 rfl hX s1 _ _ (hk.trans k1.kp) fun v s2 k2 r2 => hQ v s2 (k1.tr k2) r2))
/-- x in a list -/
theorem in_l {x : D} {ds : List D} (hx : (toP x).canLay0 = true) (hs : PyData.canLayAll0 (toPs ds) = true) (hu : A.units + 1 + min (PyData.depthAll (toPs ds)) (toP x).depth < cLine) : CmpD prog w A X .In x (.lst ds) ((toPs ds).any fun y => PyData.eqv y (toP x)) := by
  intro h v1 v2 r1 r2 hX s Q E hk hQ
  obtain ⟨as, q1⟩ := Rd.reads x (r1.up hk)
  obtain ⟨bs, q2⟩ := Rd.reads (.lst ds) (r2.up hk)
  exact in_list_reads q2 q1 hs hx hu (hQ _ _ keeps_refl rfl)
end
theorem fv_one {env : Env} {h : Heap} {X : List Addr} {y : Str} {d0 : D} (v : Var env h X y d0) (hk : env.kindOf y ≠ some .local) : ∀ n d, [(y, d0)].lookup n = some d → Var env h X n d ∧ env.kindOf n ≠ some .local := fun n d e => by
  rw [List.lookup_cons] at e
  split at e
  · rename_i hb
    cases e
    rw [eq_of_beq hb]; exact ⟨v, hk⟩
  · cases e
theorem kc {env : Env} {y : Str} (e : env.kindOf y = some .cell) : env.kindOf y ≠ some .local := by rw [e]; intro h; cases h
theorem sz1 {d : D} : [d].length ≤ sizeLine := by show 1 ≤ sizeLine; decide
theorem sz2 {d e : D} : [d, e].length ≤ sizeLine := by show 2 ≤ sizeLine; decide
/-- two names, told by a pair -/
noncomputable def tau2 (σ : Sg) (x y : Str) : D → Sg
  | .tup [a, b] => upd (upd σ x (.d a)) y (.d b)
  | _ => σ
/-- room for n calls more -/
structure AOk (A : Around) (n : Nat) : Prop where
  hd : A.depth + n < recursionLimit
  hA : A.handled = none
  hu : A.units + 3 * n ≤ 9000
theorem AOk.deeper {A : Around} {n : Nat} {env : Env} (a : AOk A (n + 1)) : AOk (A.deeper env) n := ⟨by have := a.hd; show A.depth + 1 + n < _; omega, a.hA, by have := a.hu; show A.units + 3 + 3 * n ≤ _; omega⟩
theorem AOk.d {A : Around} {n : Nat} (a : AOk A n) : A.depth < recursionLimit := by have := a.hd; omega
theorem AOk.less {A : Around} {n m : Nat} (a : AOk A n) (h : m ≤ n) : AOk A m := ⟨by have := a.hd; omega, a.hA, by have := a.hu; omega⟩
theorem AOk.c {A : Around} {n k : Nat} (a : AOk A n) (h : k ≤ 100) : A.units + k < cLine := by have := a.hu; unfold cLine; omega
theorem toPs_map : ∀ ds : List D, toPs ds = ds.map toP
  | [] => rfl
  | d :: ds => by rw [toPs, toPs_map ds]; rfl
theorem lay_none : Lay .none 0 := ⟨rfl, Nat.le_refl _⟩
theorem lay_bool {b : Bool} : Lay (.bool b) 0 := ⟨rfl, Nat.le_refl _⟩
theorem lay_int {i : Int} : Lay (.int i) 0 := ⟨rfl, Nat.le_refl _⟩
theorem lay_str {x : Str} (h : ∀ c ∈ x.cps.toList, c < 1114112) : Lay (.str x) 0 := ⟨by
  show PyData.strOk x = true
  unfold PyData.strOk
  rw [Array.all_eq_true']
  intro c hc
  exact decide_eq_true (h c (Array.mem_toList_iff.mpr hc)), Nat.le_refl _⟩
theorem layAll {k : Nat} : ∀ {ds : List D}, (∀ d ∈ ds, Lay d k) → PyData.canLayAll0 (toPs ds) = true ∧ PyData.depthAll (toPs ds) ≤ k
  | [], _ => ⟨rfl, Nat.zero_le _⟩
  | d :: ds, h => by
    obtain ⟨h1, h2⟩ := h d List.mem_cons_self
    obtain ⟨h3, h4⟩ := layAll fun x hx => h x (List.mem_cons_of_mem _ hx)
    rw [toPs]
    exact ⟨by rw [PyData.canLayAll0, h1, h3]; rfl, by rw [PyData.depthAll]; omega⟩
theorem lay_lst {ds : List D} {k : Nat} (h : ∀ d ∈ ds, Lay d k) : Lay (.lst ds) (k + 1) := by
  obtain ⟨h1, h2⟩ := layAll h
  exact ⟨by rw [toP, PyData.canLay0]; exact h1, by rw [toP, PyData.depth]; omega⟩
theorem lay_tup {ds : List D} {k : Nat} (h : ∀ d ∈ ds, Lay d k) : Lay (.tup ds) (k + 1) := by
  obtain ⟨h1, h2⟩ := layAll h
  exact ⟨by rw [toP, PyData.canLay0]; exact h1, by rw [toP, PyData.depth]; omega⟩
theorem Lay.up {d : D} {j k : Nat} (h : Lay d j) (hk : j ≤ k) : Lay d k := ⟨h.1, Nat.le_trans h.2 hk⟩
theorem lay_ints {ns : List Int} : Lay (.lst (ns.map .int)) 1 := lay_lst fun d hd => by
  obtain ⟨i, _, rfl⟩ := List.mem_map.mp hd
  exact lay_int
theorem any_bools {α : Type} (f : α → Bool) : ∀ l : List α, ((toPs (l.map fun i => D.bool (f i))).any fun y => PyData.eqv y (toP (.bool true))) = l.any f
  | [] => rfl
  | i :: l => by
    rw [List.map_cons, toPs, List.any_cons, List.any_cons, any_bools f l]
    show (f i == true || _) = _
    rw [beq_true]
theorem mul_small {a b : Int} (h1 : -(2 ^ 60) ≤ a) (h2 : a ≤ 2 ^ 60) : IntMulOk a b := IntMulOk.of_left (intBits_le_64 (by omega) (by omega))
end Mine
end
section
open PySem PySem.W PyProof.Rows
namespace Mine
/-- a way to join -/
inductive T where
  | leaf (i : Nat)
  | node (l r : T)
/-- the leaves with their depths -/
noncomputable def T.dl : Nat → T → List (Nat × Nat)
  | d, .leaf i => [(d, i)]
  | d, .node l r => l.dl (d + 1) ++ r.dl (d + 1)
noncomputable def T.wr : T → List Nat
  | .leaf i => [97 + i]
  | .node l r => [40, 45] ++ l.wr ++ [45] ++ r.wr ++ [41]
noncomputable def eolOf (i : Nat) : List Nat := match i % 3 with
  | 0 => [10]
  | 1 => [13]
  | _ => [13, 10]
noncomputable def nmOf (n : Nat) : List Nat := [64 + n / 64, 64 + n % 64]
noncomputable def mkRow (W : Nat → Nat) (p : Nat × Nat) : Rw := ⟨p.1, nmOf (W p.2), if p.1 = 1 then eolOf p.2 else [13, 10]⟩
noncomputable def T.rows (W : Nat → Nat) (t : T) : List Rw := (t.dl 1).map (mkRow W)
noncomputable def bump (p : Nat × Nat) : Nat × Nat := (p.1 + 1, p.2)
theorem dl_succ : ∀ (t : T) (d : Nat), t.dl (d + 1) = (t.dl d).map bump
  | .leaf i, d => rfl
  | .node l r, d => by
    show l.dl (d + 1 + 1) ++ r.dl (d + 1 + 1) = (l.dl (d + 1) ++ r.dl (d + 1)).map bump
    rw [dl_succ l (d + 1), dl_succ r (d + 1), List.map_append]
theorem dl_ge : ∀ (t : T) (d : Nat), ∀ p ∈ t.dl d, d ≤ p.1
  | .leaf i, d, p, h => by
    rw [T.dl, List.mem_singleton] at h
    rw [h]; exact Nat.le_refl _
  | .node l r, d, p, h => by
    rcases List.mem_append.mp h with h | h
    · exact Nat.le_of_succ_le (dl_ge l _ p h)
    · exact Nat.le_of_succ_le (dl_ge r _ p h)
theorem dl_pos : ∀ (t : T) (d : Nat), 0 < (t.dl d).length
  | .leaf i, d => Nat.zero_lt_one
  | .node l r, d => by rw [T.dl, List.length_append]; have := dl_pos l (d + 1); omega
theorem dl_lt : ∀ (t : T) (d : Nat), ∀ p ∈ t.dl d, p.1 < d + (t.dl d).length
  | .leaf i, d, p, h => by
    rw [T.dl, List.mem_singleton] at h
    rw [h, T.dl]; simp
  | .node l r, d, p, h => by
    have h1 := dl_pos l (d + 1)
    have h2 := dl_pos r (d + 1)
    rw [T.dl, List.length_append]
    rcases List.mem_append.mp h with h | h
    · have := dl_lt l _ p h; omega
    · have := dl_lt r _ p h; omega
theorem mkRow_bump {W : Nat → Nat} {p : Nat × Nat} (h : 1 ≤ p.1) : (mkRow W p).up = mkRow W (bump p) := by
  show Rw.mk (p.1 + 1) (nmOf (W p.2)) [13, 10] = Rw.mk (p.1 + 1) (nmOf (W p.2)) (if p.1 + 1 = 1 then eolOf p.2 else [13, 10])
  rw [if_neg (by omega)]
theorem rows_node (W : Nat → Nat) (l r : T) : (T.node l r).rows W = (l.rows W ++ r.rows W).map Rw.up := by
  have : ∀ t : T, (t.dl 2).map (mkRow W) = (t.rows W).map Rw.up := fun t => by
    rw [dl_succ t 1, T.rows, List.map_map, List.map_map]
    exact List.map_congr_left fun p hp => (mkRow_bump (dl_ge t 1 p hp)).symm
  show ((l.dl 2 ++ r.dl 2).map (mkRow W)) = _
  rw [List.map_append, this, this, List.map_append]
theorem eolOf_ok (i : Nat) : eolOf i = [10] ∨ eolOf i = [13] ∨ eolOf i = [13, 10] := by
  unfold eolOf
  split <;> simp
theorem nmOf_ok {n : Nat} (h : n < 4096) : nmOk (nmOf n) := by
  intro c hc
  simp [nmOf] at hc
  rcases hc with rfl | rfl <;> omega
theorem mkRow_e (W : Nat → Nat) (p : Nat × Nat) : (mkRow W p).e = [10] ∨ (mkRow W p).e = [13] ∨ (mkRow W p).e = [13, 10] := by
  unfold mkRow
  dsimp only
  split
  · exact eolOf_ok _
  · exact .inr (.inr rfl)
theorem mkRow_ok {W : Nat → Nat} {p : Nat × Nat} (hW : ∀ i, W i < 4096) (h : 1 ≤ p.1) : (mkRow W p).ok := ⟨h, nmOf_ok (hW _), mkRow_e W p, by simp [mkRow, nmOf]⟩
theorem rows_ok {W : Nat → Nat} (hW : ∀ i, W i < 4096) (t : T) : ∀ r ∈ t.rows W, r.ok := fun r hr => by
  obtain ⟨p, hp, rfl⟩ := List.mem_map.mp hr
  exact mkRow_ok hW (dl_ge t 1 p hp)
noncomputable def T.mail (W : Nat → Nat) (t : T) : List Nat := mailOf (t.rows W)
theorem quoted_node {W : Nat → Nat} (hW : ∀ i, W i < 4096) (l r : T) : quoted (l.mail W ++ r.mail W) = (T.node l r).mail W := by
  unfold T.mail
  rw [← mailOf_app, quoted_mail, rows_node]
  intro a ha
  rcases List.mem_append.mp ha with h | h
  · exact rows_ok hW l a h
  · exact rows_ok hW r a h
theorem nv_nm {n : Nat} (h : n < 4096) : nv 0 (nmOf n) = 64 * (n : Int) + 13 := by
  show ((0 * 64 + (((64 + n / 64 : Nat) : Int) - 64)) * 64 + (((64 + n % 64 : Nat) : Int) - 64)) * 64 + 13 = _
  omega
/-- a row, told -/
noncomputable def rowP (p : Int × Int) : D := .tup [.int p.1, .int p.2]
noncomputable def rowI (W : Nat → Nat) (p : Nat × Nat) : Int × Int := (p.1, 64 * (W p.2 : Int) + 13)
theorem tell_node {W : Nat → Nat} (hW : ∀ i, W i < 4096) (h4 : ∀ i, 4 ≤ W i) (l r : T) : tell ((T.node l r).mail W) = some ((((T.node l r).dl 1).map (rowI W)).map rowP) := by
  unfold T.mail
  rw [tell_mail, T.rows, List.map_map, List.map_map]
  · congr 1
    refine List.map_congr_left fun p hp => ?_
    show D.tup [.int p.1, .int (nv 0 (nmOf (W p.2)))] = D.tup [.int p.1, .int (64 * (W p.2 : Int) + 13)]
    rw [nv_nm (hW _)]
  · rw [rows_node]
    intro a ha
    obtain ⟨b, hb, rfl⟩ := List.mem_map.mp ha
    have : ∃ p, b = mkRow W p ∧ 1 ≤ p.1 := by
      rcases List.mem_append.mp hb with h | h
      · obtain ⟨p, hp, rfl⟩ := List.mem_map.mp h; exact ⟨p, rfl, dl_ge l 1 p hp⟩
      · obtain ⟨p, hp, rfl⟩ := List.mem_map.mp h; exact ⟨p, rfl, dl_ge r 1 p hp⟩
    obtain ⟨p, rfl, hp⟩ := this
    refine (mkRow_ok hW hp).told (by simp [mkRow, nmOf]) ?_
    show 256 ≤ nv 0 (nmOf (W p.2))
    have := h4 p.2
    rw [nv_nm (hW _)]; omega
-- sizes
theorem mailOf_len : ∀ {rs : List Rw} {m : Nat}, (∀ r ∈ rs, r.cps.length ≤ m) → (mailOf rs).length ≤ rs.length * m
  | [], m, _ => Nat.zero_le _
  | r :: rs, m, h => by
    have h1 := h r List.mem_cons_self
    have h2 := mailOf_len (m := m) fun a ha => h a (List.mem_cons_of_mem _ ha)
    rw [mailOf, List.length_append, List.length_cons, Nat.succ_mul]; omega
theorem mail_len {W : Nat → Nat} {t : T} {n : Nat} (h : (t.dl 1).length ≤ n) : (t.mail W).length ≤ n * (n + 5) := by
  have := mailOf_len (rs := t.rows W) (m := n + 5) fun r hr => by
    obtain ⟨p, hp, rfl⟩ := List.mem_map.mp hr
    have hd := dl_lt t 1 p hp
    have he : (if p.1 = 1 then eolOf p.2 else [13, 10]).length ≤ 2 := by
      split
      · rcases eolOf_ok p.2 with e | e | e <;> rw [e] <;> simp
      · simp
    show (List.replicate p.1 46 ++ (nmOf (W p.2) ++ (if p.1 = 1 then eolOf p.2 else [13, 10]))).length ≤ _
    rw [List.length_append, List.length_append, List.length_replicate]
    have : (nmOf (W p.2)).length = 2 := rfl
    omega
  rw [T.rows, List.length_map] at this
  exact Nat.le_trans this (Nat.mul_le_mul_right _ h)
theorem wr_len : ∀ (t : T) (d : Nat), t.wr.length + 4 = 5 * (t.dl d).length
  | .leaf i, d => rfl
  | .node l r, d => by
    have h1 := wr_len l (d + 1)
    have h2 := wr_len r (d + 1)
    rw [T.wr, T.dl]
    simp only [List.length_append, List.length_cons, List.length_nil]; omega

-- the dots tell the writing
noncomputable def join2 (y x : List Nat) : List Nat := [40, 45] ++ y ++ [45] ++ x ++ [41]
noncomputable def push (a : Int) (x : List Nat) : List (Int × List Nat) → List (Int × List Nat)
  | [] => [(a, x)]
  | (b, y) :: r => if a = b then push (a - 1) (join2 y x) r else (a, x) :: (b, y) :: r
noncomputable def procW : List (Int × List Nat) → List (Int × List Nat) → List (Int × List Nat)
  | [], pile => pile
  | (d, x) :: r, pile => procW r (push d x pile)
theorem procW_app : ∀ (a b pile : List (Int × List Nat)), procW (a ++ b) pile = procW b (procW a pile)
  | [], _, _ => rfl
  | (d, x) :: a, b, pile => procW_app a b _
noncomputable def ltrI (p : Nat × Nat) : Int × List Nat := (p.1, [97 + p.2])
theorem procW_tree : ∀ (t : T) (d : Nat) (pile : List (Int × List Nat)), (∀ p ∈ pile, p.1 ≤ (d : Int)) → procW ((t.dl d).map ltrI) pile = push d t.wr pile
  | .leaf i, d, pile, h => rfl
  | .node l r, d, pile, h => by
    rw [T.dl, List.map_append, procW_app, procW_tree l (d + 1) pile fun p hp => by have := h p hp; omega]
    have e : push ((d + 1 : Nat) : Int) l.wr pile = (((d + 1 : Nat) : Int), l.wr) :: pile := by
      cases pile with
      | nil => rfl
      | cons p r' =>
        obtain ⟨b, y⟩ := p
        have := h (b, y) List.mem_cons_self
        dsimp only at this
        rw [push, if_neg (by omega)]
    rw [e, procW_tree r (d + 1) _ fun p hp => by
      rcases List.mem_cons.mp hp with rfl | hp
      · exact Int.le_refl _
      · have := h p hp; omega]
    rw [push, if_pos rfl, show ((d + 1 : Nat) : Int) - 1 = d by omega]
    rfl
theorem procW_whole (t : T) : procW ((t.dl 1).map ltrI) [] = [(1, t.wr)] := procW_tree t 1 [] fun _ h => nomatch h

-- the writing's value
noncomputable def sgn : Nat → Int
  | 0 => 1
  | d + 1 => -sgn d
theorem sgn_pm : ∀ d, sgn d = 1 ∨ sgn d = -1
  | 0 => .inl rfl
  | d + 1 => by rcases sgn_pm d with h | h <;> simp [sgn, h]
noncomputable def T.val (a : Nat → Int) (t : T) : Int := ((t.dl 0).map fun p => sgn p.1 * a p.2).sum
theorem sum_neg (a : Nat → Int) : ∀ l : List (Nat × Nat), ((l.map bump).map fun p => sgn p.1 * a p.2).sum = -(l.map fun p => sgn p.1 * a p.2).sum
  | [] => rfl
  | p :: l => by
    have ih := sum_neg a l
    simp only [List.map_cons, List.sum_cons] at ih ⊢
    rw [ih]
    show -sgn p.1 * a p.2 + _ = _
    rw [Int.neg_mul, Int.neg_add]
theorem val_node (a : Nat → Int) (l r : T) : (T.node l r).val a = -l.val a - r.val a := by
  unfold T.val
  rw [T.dl, dl_succ l 0, dl_succ r 0, ← List.map_append, sum_neg, List.map_append, List.sum_append]
  omega
/-- what _law_value computes: total, turn, pile (top first) -/
noncomputable def valGo (a : List Int) : List Nat → Int → Int → List Int → Option Int
  | [], total, _, _ => some total
  | 40 :: r, total, turn, pile => valGo a r total turn (turn :: pile)
  | 41 :: r, total, turn, _ :: pile => valGo a r total turn pile
  | 45 :: r, total, turn, p :: pile => valGo a r total (-p) (p :: pile)
  | c :: r, total, turn, pile => if 97 ≤ c ∧ c < 103 then match a[c - 97]? with
    | some v => if 256 ≤ v ∧ v < 2 ^ 20 then valGo a r (total + turn * v) turn pile else none
    | none => none
    else none
theorem valGo_letter {a : List Int} {i : Nat} {r : List Nat} {total turn : Int} {pile : List Int} {v : Int} (hi : i < 6) (hv : a[i]? = some v) (h1 : 256 ≤ v) (h2 : v < 2 ^ 20) : valGo a ((97 + i) :: r) total turn pile = valGo a r (total + turn * v) turn pile := by
  rw [valGo]
  · rw [if_pos (by omega), show 97 + i - 97 = i by omega, hv]
    dsimp only
    rw [if_pos ⟨h1, h2⟩]
  · omega
  · intro h; omega
  · intro _ _ h; omega
theorem valGo_tree (a : List Int) (f : Nat → Int) : ∀ (t : T) (d : Nat) (r : List Nat) (total turn : Int) (pile : List Int), (∀ p ∈ t.dl d, p.2 < 6 ∧ a[p.2]? = some (f p.2) ∧ 256 ≤ f p.2 ∧ f p.2 < 2 ^ 20) →
    ∃ turn', valGo a (t.wr ++ r) total turn pile = valGo a r (total + turn * t.val f) turn' pile
  | .leaf i, d, r, total, turn, pile, h => by
    obtain ⟨h1, h2, h3, h4⟩ := h (d, i) List.mem_cons_self
    refine ⟨turn, ?_⟩
    have : (T.leaf i).val f = f i := by simp [T.val, T.dl, sgn]
    rw [this]
    exact valGo_letter h1 h2 h3 h4
  | .node l r', d, r, total, turn, pile, h => by
    have hl : ∀ p ∈ l.dl (d + 1), _ := fun p hp => h p (List.mem_append_left _ hp)
    have hr : ∀ p ∈ r'.dl (d + 1), _ := fun p hp => h p (List.mem_append_right _ hp)
    have e : (T.node l r').wr ++ r = 40 :: 45 :: (l.wr ++ (45 :: (r'.wr ++ (41 :: r)))) := by simp [T.wr]
    rw [e, valGo, valGo]
    obtain ⟨t1, e1⟩ := valGo_tree a f l (d + 1) (45 :: (r'.wr ++ (41 :: r))) total (-turn) (turn :: pile) hl
    rw [e1, valGo]
    obtain ⟨t2, e2⟩ := valGo_tree a f r' (d + 1) (41 :: r) (total + -turn * l.val f) (-turn) (turn :: pile) hr
    rw [e2, valGo]
    refine ⟨t2, ?_⟩
    congr 1
    rw [val_node, Int.mul_sub, Int.mul_neg, Int.neg_mul, Int.neg_mul]
    omega
theorem valGo_whole {a : List Int} {f : Nat → Int} {t : T} {d : Nat} (h : ∀ p ∈ t.dl d, p.2 < 6 ∧ a[p.2]? = some (f p.2) ∧ 256 ≤ f p.2 ∧ f p.2 < 2 ^ 20) : valGo a t.wr 0 1 [] = some (t.val f) := by
  obtain ⟨t', e⟩ := valGo_tree a f t d [] 0 1 [] h
  rw [List.append_nil] at e
  rw [e, valGo, Int.zero_add, Int.one_mul]
end Mine
end
section
open PySem PySem.W PyProof.Rows
namespace Mine
-- the value tells the signs
noncomputable def sgnGo : List Int → Int → List Int → List Int × Int
  | [], rest, s => (s, rest)
  | a :: r, rest, s => sgnGo r (rest - (if rest > 0 then 1 else -1) * a) ((if rest > 0 then 1 else -1) :: s)
noncomputable def sgnF (p : Int × List Int) (a : Int) : Int × List Int := (p.1 - (if p.1 > 0 then 1 else -1) * a, (if p.1 > 0 then 1 else -1) :: p.2)
noncomputable def sgnAt (l : List Int) (v : Int) (i : Nat) : Int × List Int := (l.take i).foldl sgnF (v, [])
theorem sgnAt_succ {l : List Int} {v : Int} {i : Nat} {a : Int} (h : l[i]? = some a) : sgnAt l v (i + 1) = sgnF (sgnAt l v i) a := by
  unfold sgnAt
  rw [List.take_add_one, h, List.foldl_append]; rfl
theorem sgnGo_fold : ∀ (l : List Int) (p : Int × List Int), sgnGo l p.1 p.2 = ((l.foldl sgnF p).2, (l.foldl sgnF p).1)
  | [], p => rfl
  | a :: l, p => by
    rw [sgnGo, List.foldl_cons, ← sgnGo_fold l]; rfl
theorem sgnAt_len (l : List Int) (v : Int) : ∀ i, i ≤ l.length → (sgnAt l v i).2.length = i
  | 0, _ => rfl
  | i + 1, h => by
    rw [sgnAt_succ (List.getElem?_eq_getElem (show i < l.length by omega))]
    show (sgnAt l v i).2.length + 1 = _
    rw [sgnAt_len l v i (by omega)]
noncomputable def SI : List (Int × Int) → Prop
  | [] => True
  | p :: r => (p.1 = 1 ∨ p.1 = -1) ∧ (r.map Prod.snd).sum < p.2 ∧ SI r
noncomputable def dot (l : List (Int × Int)) : Int := (l.map fun p => p.1 * p.2).sum
theorem si_bound : ∀ {l : List (Int × Int)}, SI l → 0 ≤ (l.map Prod.snd).sum ∧ dot l ≤ (l.map Prod.snd).sum ∧ -(l.map Prod.snd).sum ≤ dot l
  | [], _ => by simp [dot]
  | p :: r, h => by
    obtain ⟨h1, h2, h3⟩ := h
    have ih := si_bound h3
    unfold dot at ih ⊢
    simp only [List.map_cons, List.sum_cons]
    rcases h1 with e | e <;> rw [e] <;> omega
theorem sgnGo_si : ∀ {l : List (Int × Int)}, SI l → ∀ acc, sgnGo (l.map Prod.snd) (dot l) acc = ((l.map Prod.fst).reverse ++ acc, 0)
  | [], _, acc => rfl
  | p :: r, h, acc => by
    obtain ⟨h1, h2, h3⟩ := h
    have b := si_bound h3
    have e : dot (p :: r) = p.1 * p.2 + dot r := by simp [dot]
    have hs : (if dot (p :: r) > 0 then (1 : Int) else -1) = p.1 := by
      rw [e]
      rcases h1 with q | q <;> rw [q]
      · rw [if_pos (by omega)]
      · rw [if_neg (by omega)]
    rw [List.map_cons, sgnGo, hs, e, show p.1 * p.2 + dot r - p.1 * p.2 = dot r by omega, sgnGo_si h3]
    simp
theorem pow3 (i : Nat) : 1 ≤ 3 ^ i := Nat.pow_pos (by decide)
/-- worths: 4 * 3 ^ i, and 0 to 3 more -/
noncomputable def Wok (W : Nat → Nat) : Prop := ∀ i, i < 6 → 4 * 3 ^ i ≤ W i ∧ W i ≤ 4 * 3 ^ i + 3
theorem si_worths {W : Nat → Nat} (hW : Wok W) : ∀ (n : Nat) (ss : List Int), n ≤ 6 → ss.length = n → (∀ s ∈ ss, s = 1 ∨ s = -1) → SI (ss.zip ((List.range n).map fun i => 64 * (W i : Int) + 13)).reverse ∧ (((ss.zip ((List.range n).map fun i => 64 * (W i : Int) + 13)).reverse).map Prod.snd).sum ≤ 64 * (2 * 3 ^ n - 2 + 3 * (n : Int)) + 13 * (n : Int)
  | 0, ss, _, hl, _ => by
    rw [List.length_eq_zero_iff.mp hl]; exact ⟨trivial, by simp⟩
  | n + 1, ss, hn, hl, hs => by
    obtain ⟨s, t, rfl⟩ : ∃ t s, ss = t ++ [s] := by
      have hne : ss ≠ [] := by intro e; rw [e] at hl; cases hl
      exact ⟨_, _, (List.dropLast_concat_getLast hne).symm⟩
    have hl' : s.length = n := by rw [List.length_append, List.length_singleton] at hl; omega
    obtain ⟨ih1, ih2⟩ := si_worths hW n s (by omega) hl' fun x hx => hs x (List.mem_append_left _ hx)
    have e : ((s ++ [t]).zip ((List.range (n + 1)).map fun i => 64 * (W i : Int) + 13)).reverse = (t, 64 * (W n : Int) + 13) :: (s.zip ((List.range n).map fun i => 64 * (W i : Int) + 13)).reverse := by
      rw [List.range_succ, List.map_append, List.zip_append (by rw [hl', List.length_map, List.length_range]), List.reverse_append]; rfl
    rw [e]
    obtain ⟨w1, w2⟩ := hW n (by omega)
    have h3 : ((3 ^ n : Nat) : Int) = 3 ^ n := by rw [Int.natCast_pow]; rfl
    have h3p : (3 : Int) ^ (n + 1) = 3 ^ n * 3 := Int.pow_succ ..
    have hp : (1 : Int) ≤ 3 ^ n := by rw [← h3]; have := pow3 n; omega
    have hb : (3 : Int) * n ≤ 2 * 3 ^ n := by
      have : ∀ n : Fin 7, 3 * n.val ≤ 2 * 3 ^ n.val := by decide
      have := this ⟨n, by omega⟩
      dsimp only at this
      rw [← h3]; omega
    have w1' : 4 * (3 : Int) ^ n ≤ W n := by rw [← h3]; omega
    have w2' : (W n : Int) ≤ 4 * 3 ^ n + 3 := by rw [← h3]; omega
    refine ⟨⟨hs t (List.mem_append_right _ List.mem_cons_self), ?_, ih1⟩, ?_⟩
    · dsimp only
      omega
    · rw [List.map_cons, List.sum_cons]
      dsimp only
      rw [h3p]
      omega

-- merging
noncomputable def mergedL (ss : List Int) (k : Nat) : List Int := ss.take k ++ [-(ss.getD k 0)] ++ ss.drop (k + 2)
noncomputable def adj (ss : List Int) : Bool := (List.range (ss.length - 1)).any fun j => ss.getD j 0 == ss.getD (j + 1) 0
noncomputable def fitsB (ss : List Int) (k : Nat) : Bool := if ss.getD k 0 ≠ ss.getD (k + 1) 0 then false else (mergedL ss k).length == 1 || adj (mergedL ss k)
noncomputable def fitsL (ss : List Int) : List Nat := (List.range (ss.length - 1)).filter (fitsB ss)
noncomputable def goodB (ss : List Int) : Bool := ss.all (fun s => s == 1 || s == -1) && decide (ss.sum % 3 = 1) && (ss.length == 1 || adj ss)
noncomputable def allS : Nat → List (List Int)
  | 0 => [[]]
  | n + 1 => (allS n).flatMap fun l => [1 :: l, -1 :: l]
theorem allS_mem : ∀ {ss : List Int}, (∀ s ∈ ss, s = 1 ∨ s = -1) → ss ∈ allS ss.length
  | [], _ => List.mem_cons_self
  | s :: ss, h => by
    refine List.mem_flatMap.mpr ⟨ss, allS_mem fun x hx => h x (List.mem_cons_of_mem _ hx), ?_⟩
    rcases h s List.mem_cons_self with rfl | rfl <;> simp
noncomputable def stepOk2 (ss : List Int) : Bool := !goodB ss || (ss.length == 1 || (!(fitsL ss).isEmpty && (fitsL ss).all fun k => goodB (mergedL ss k) && decide (k + 1 < ss.length) && (ss.getD k 0 == ss.getD (k + 1) 0) && (mergedL ss k).length + 1 == ss.length))
theorem steps_ok : ((List.range 7).all fun n => n == 0 || (allS n).all stepOk2) = true := by decide +kernel
theorem goodB_pm {ss : List Int} (h : goodB ss = true) : ∀ s ∈ ss, s = 1 ∨ s = -1 := fun s hs => by
  simp only [goodB, Bool.and_eq_true, List.all_eq_true, Bool.or_eq_true, beq_iff_eq] at h
  exact h.1.1 s hs
theorem good_step {ss : List Int} (h : goodB ss = true) (h1 : 1 < ss.length) (h2 : ss.length ≤ 6) : fitsL ss ≠ [] ∧ ∀ k ∈ fitsL ss, goodB (mergedL ss k) = true ∧ k + 1 < ss.length ∧ ss.getD k 0 = ss.getD (k + 1) 0 ∧ (mergedL ss k).length + 1 = ss.length := by
  have a := List.all_eq_true.mp steps_ok ss.length (List.mem_range.mpr (by omega))
  rw [show (ss.length == 0) = false from beq_eq_false_iff_ne.mpr (by omega), Bool.false_or] at a
  have b := List.all_eq_true.mp a ss (allS_mem (goodB_pm h))
  unfold stepOk2 at b
  rw [h, show (ss.length == 1) = false from beq_eq_false_iff_ne.mpr (by omega)] at b
  simp only [Bool.not_true, Bool.false_or, Bool.and_eq_true, Bool.not_eq_true', List.isEmpty_eq_false_iff, List.all_eq_true, decide_eq_true_eq, beq_iff_eq] at b
  exact ⟨b.1, fun k hk => let ⟨⟨⟨x, y⟩, z⟩, u⟩ := b.2 k hk; ⟨x, y, z, u⟩⟩
theorem good_one {ss : List Int} (h : goodB ss = true) (h1 : ss.length = 1) : ss = [1] := by
  match ss, h1 with
  | [s], _ =>
    rcases goodB_pm h s List.mem_cons_self with rfl | rfl
    · rfl
    · revert h; decide
-- the forests
noncomputable def mergeAt (ts : List T) (k : Nat) : List T := ts.take k ++ [.node (ts.getD k (.leaf 0)) (ts.getD (k + 1) (.leaf 0))] ++ ts.drop (k + 2)
theorem mergeAt_zero (a b : T) (r : List T) : mergeAt (a :: b :: r) 0 = .node a b :: r := by simp [mergeAt]
theorem mergeAt_succ (a : T) (r : List T) (k : Nat) : mergeAt (a :: r) (k + 1) = a :: mergeAt r k := by simp [mergeAt]
theorem mergedL_zero (a b : Int) (r : List Int) : mergedL (a :: b :: r) 0 = -a :: r := by simp [mergedL]
theorem mergedL_succ (a : Int) (r : List Int) (k : Nat) : mergedL (a :: r) (k + 1) = a :: mergedL r k := by simp [mergedL]
theorem mergeAt_len : ∀ (ts : List T) (k : Nat), k + 1 < ts.length → (mergeAt ts k).length + 1 = ts.length
  | a :: b :: r, 0, _ => by rw [mergeAt_zero]; rfl
  | a :: r, k + 1, h => by rw [mergeAt_succ, List.length_cons, List.length_cons, mergeAt_len r k (by simpa using h)]
  | [_], 0, h => by simp at h
  | [], _, h => by simp at h
noncomputable def lvs (ts : List T) : List Nat := ts.flatMap fun t => (t.dl 0).map Prod.snd
theorem lv_d (t : T) : ∀ d, (t.dl d).map Prod.snd = (t.dl 0).map Prod.snd
  | 0 => rfl
  | d + 1 => by rw [dl_succ, List.map_map, ← lv_d t d]; rfl
theorem lvs_merge : ∀ (ts : List T) (k : Nat), k + 1 < ts.length → lvs (mergeAt ts k) = lvs ts
  | a :: b :: r, 0, _ => by
    rw [mergeAt_zero]
    show ((a.dl 1 ++ b.dl 1).map Prod.snd) ++ lvs r = (a.dl 0).map Prod.snd ++ ((b.dl 0).map Prod.snd ++ lvs r)
    rw [List.map_append, lv_d a 1, lv_d b 1, List.append_assoc]
  | a :: r, k + 1, h => by
    rw [mergeAt_succ]
    show _ ++ lvs (mergeAt r k) = _ ++ lvs r
    rw [lvs_merge r k (by simpa using h)]
  | [_], 0, h => by simp at h
  | [], _, h => by simp at h
/-- the leaves' signs, each tree's root bearing a sign -/
noncomputable def lsg : List T → List Int → List Int
  | t :: ts, s :: ss => ((t.dl 0).map fun p => s * sgn p.1) ++ lsg ts ss
  | _, _ => []
theorem lsg_merge : ∀ (ts : List T) (ss : List Int) (k : Nat), ts.length = ss.length → k + 1 < ss.length → ss.getD k 0 = ss.getD (k + 1) 0 → lsg (mergeAt ts k) (mergedL ss k) = lsg ts ss
  | a :: b :: r, x :: y :: q, 0, _, _, e => by
    have e : x = y := by simpa using e
    subst e
    rw [mergeAt_zero, mergedL_zero]
    show ((a.dl 1 ++ b.dl 1).map fun p => -x * sgn p.1) ++ lsg r q = ((a.dl 0).map fun p => x * sgn p.1) ++ (((b.dl 0).map fun p => x * sgn p.1) ++ lsg r q)
    have h : ∀ t : T, ((t.dl 1).map fun p => -x * sgn p.1) = (t.dl 0).map fun p => x * sgn p.1 := fun t => by
      rw [dl_succ, List.map_map]
      refine List.map_congr_left fun p _ => ?_
      show -x * -sgn p.1 = _
      rw [Int.neg_mul_neg]
    rw [List.map_append, h, h, List.append_assoc]
  | a :: r, x :: q, k + 1, hl, h, e => by
    rw [mergeAt_succ, mergedL_succ]
    show _ ++ lsg (mergeAt r k) (mergedL q k) = _ ++ lsg r q
    rw [lsg_merge r q k (by simpa using hl) (by simpa using h) (by simpa using e)]
  | [], [], _, _, h, _ => by simp at h
  | [_], [_], 0, _, h, _ => by simp at h
  | [], _ :: _, _, h, _, _ => by simp at h
  | _ :: _, [], _, h, _, _ => by simp at h
  | [_], _ :: _ :: _, 0, h, _, _ => by simp at h
  | _ :: _ :: _, [_], 0, h, _, _ => by simp at h
noncomputable def joinT : List T → List Int → List T
  | ts, [] => ts
  | ts, p :: ps => joinT (mergeAt ts (p.fmod ((ts.length : Int) - 1)).toNat) ps
theorem pick_lt {p : Int} {n : Nat} (h : 1 < n) : 0 ≤ p.fmod ((n : Int) - 1) ∧ (p.fmod ((n : Int) - 1)).toNat + 1 < n := by
  have h1 := Int.fmod_nonneg_of_pos p (b := (n : Int) - 1) (by omega)
  have h2 := Int.fmod_lt_of_pos p (b := (n : Int) - 1) (by omega)
  omega
theorem joinT_len : ∀ (ps : List Int) (ts : List T), ps.length < ts.length → (joinT ts ps).length + ps.length = ts.length
  | [], ts, _ => rfl
  | p :: ps, ts, h => by
    have hl : 1 < ts.length := by simp at h; omega
    have h1 := mergeAt_len ts _ (pick_lt (p := p) hl).2
    have := joinT_len ps (mergeAt ts (p.fmod ((ts.length : Int) - 1)).toNat) (by simp at h; omega)
    rw [joinT, List.length_cons]; omega
theorem lvs_join : ∀ (ps : List Int) (ts : List T), ps.length < ts.length → lvs (joinT ts ps) = lvs ts
  | [], ts, _ => rfl
  | p :: ps, ts, h => by
    have hl : 1 < ts.length := by simp at h; omega
    have h1 := mergeAt_len ts _ (pick_lt (p := p) hl).2
    rw [joinT, lvs_join ps _ (by simp at h; omega), lvs_merge ts _ (pick_lt (p := p) hl).2]
theorem joinT_app : ∀ (a b : List Int) (ts : List T), joinT ts (a ++ b) = joinT (joinT ts a) b
  | [], _, _ => rfl
  | p :: a, b, ts => joinT_app a b _
theorem pick_id {k n : Nat} (h : k + 1 < n) : (((k : Int)).fmod ((n : Int) - 1)).toNat = k := by
  rw [Int.fmod_eq_emod_of_nonneg _ (by omega), Int.emod_eq_of_lt (by omega) (by omega)]; rfl
noncomputable def leavesOf (n : Nat) : List T := (List.range n).map .leaf
theorem leavesOf_len (n : Nat) : (leavesOf n).length = n := by simp [leavesOf]
theorem lvs_leaves (n : Nat) : lvs (leavesOf n) = List.range n := by
  unfold lvs leavesOf
  rw [List.flatMap_map]
  have : (fun i => ((T.leaf i).dl 0).map Prod.snd) = fun i => [i] := rfl
  rw [this]
  simp
theorem joined_one {n : Nat} {ps : List Int} (h : ps.length + 1 = n) (hn : 1 < n) : ∃ l r, joinT (leavesOf n) ps = [.node l r] ∧ ∀ d, (((T.node l r).dl d).map Prod.snd) = List.range n := by
  have h1 := joinT_len ps (leavesOf n) (by rw [leavesOf_len]; omega)
  have h2 := lvs_join ps (leavesOf n) (by rw [leavesOf_len]; omega)
  rw [leavesOf_len] at h1
  rw [lvs_leaves] at h2
  match e : joinT (leavesOf n) ps, h1 with
  | [.leaf i], _ =>
    rw [e] at h2
    have := congrArg List.length h2
    simp [lvs, T.dl] at this
    omega
  | [.node l r], _ =>
    rw [e] at h2
    refine ⟨l, r, rfl, fun d => ?_⟩
    rw [lv_d _ d]
    simpa [lvs] using h2
  | [], h1 => simp at h1; omega
  | _ :: _ :: _, h1 => simp at h1; omega
-- a tree's signs
theorem adj_spec {ss : List Int} : adj ss = true ↔ ∃ a b x, ss = a ++ x :: x :: b := by
  unfold adj
  rw [List.any_eq_true]
  constructor
  · rintro ⟨j, hj, e⟩
    have hj := List.mem_range.mp hj
    have e := eq_of_beq e
    refine ⟨ss.take j, ss.drop (j + 2), ss.getD j 0, ?_⟩
    rw [List.getD_eq_getElem?_getD, List.getD_eq_getElem?_getD, List.getElem?_eq_getElem (by omega), List.getElem?_eq_getElem (by omega)] at e
    rw [List.getD_eq_getElem?_getD, List.getElem?_eq_getElem (by omega)]
    simp only [Option.getD_some] at e ⊢
    have h1 : ss.drop j = ss[j] :: ss.drop (j + 1) := List.drop_eq_getElem_cons (by omega)
    have h2 : ss.drop (j + 1) = ss[j + 1] :: ss.drop (j + 2) := List.drop_eq_getElem_cons (by omega)
    conv => lhs; rw [← List.take_append_drop j ss, h1, h2, ← e]
  · rintro ⟨a, b, x, rfl⟩
    refine ⟨a.length, List.mem_range.mpr (by simp only [List.length_append, List.length_cons]; omega), ?_⟩
    simp
noncomputable def tsg (t : T) : List Int := (t.dl 0).map fun p => sgn p.1
theorem adj_tree : ∀ (t : T) (d : Nat), (∃ i, t = .leaf i) ∨ ∃ a b x, (t.dl d).map (fun p => sgn p.1) = a ++ x :: x :: b
  | .leaf i, _ => .inl ⟨i, rfl⟩
  | .node l r, d => by
    right
    rw [T.dl, List.map_append]
    rcases adj_tree l (d + 1) with ⟨i, rfl⟩ | ⟨a, b, x, e⟩
    · rcases adj_tree r (d + 1) with ⟨j, rfl⟩ | ⟨a, b, x, e⟩
      · exact ⟨[], [], sgn (d + 1), rfl⟩
      · exact ⟨((T.leaf i).dl (d + 1)).map (fun p => sgn p.1) ++ a, b, x, by rw [e, List.append_assoc]⟩
    · exact ⟨a, b ++ (r.dl (d + 1)).map (fun p => sgn p.1), x, by rw [e]; simp⟩
theorem tsg_val (t : T) : (tsg t).sum = t.val fun _ => 1 := by
  unfold tsg T.val
  simp
theorem tsg_sum : ∀ t : T, (t.val fun _ => 1) % 3 = 1
  | .leaf i => rfl
  | .node l r => by
    have h1 := tsg_sum l
    have h2 := tsg_sum r
    rw [val_node]; omega
theorem good_tree (l r : T) : goodB (tsg (.node l r)) = true := by
  unfold goodB
  simp only [Bool.and_eq_true, List.all_eq_true, Bool.or_eq_true, beq_iff_eq, decide_eq_true_eq]
  refine ⟨⟨fun s hs => ?_, ?_⟩, .inr ?_⟩
  · obtain ⟨p, _, rfl⟩ := List.mem_map.mp hs; exact sgn_pm _
  · rw [tsg_val]; exact tsg_sum _
  · rcases adj_tree (.node l r) 0 with ⟨i, e⟩ | h
    · cases e
    · exact adj_spec.mpr h
theorem lsg_leaves : ∀ (ss : List Int) (l : List Nat), l.length = ss.length → lsg (l.map .leaf) ss = ss
  | [], [], _ => rfl
  | s :: ss, i :: l, h => by
    show [s * sgn 0] ++ lsg (l.map .leaf) ss = s :: ss
    rw [lsg_leaves ss l (by simpa using h)]
    show [s * 1] ++ ss = _
    rw [Int.mul_one]; rfl
  | [], _ :: _, h => by simp at h
  | _ :: _, [], h => by simp at h
theorem sgn_odd (d : Nat) : (if ((d + 1 : Nat) : Int) % 2 = 1 then (1 : Int) else -1) = sgn d := by
  induction d with
  | zero => rfl
  | succ d ih =>
    rw [sgn, ← ih]
    by_cases h : ((d + 1 : Nat) : Int) % 2 = 1
    · rw [if_pos h, if_neg (by omega)]
    · rw [if_neg h, if_pos (by omega)]; rfl
theorem sgn_mod {a b : Nat} (h : sgn a = sgn b) : ((a + 1 : Nat) : Int) % 2 = ((b + 1 : Nat) : Int) % 2 := by
  have h1 := sgn_odd a
  have h2 := sgn_odd b
  rw [← h1, ← h2] at h
  by_cases q1 : ((a + 1 : Nat) : Int) % 2 = 1 <;> by_cases q2 : ((b + 1 : Nat) : Int) % 2 = 1
  · omega
  · rw [if_pos q1, if_neg q2] at h; cases h
  · rw [if_neg q1, if_pos q2] at h; cases h
  · omega
end Mine
end
section
open PySem PySem.W PyProof.Rows
namespace Mine
/-- one sign of a writing: total, turn, pile (top first) -/
noncomputable def stV (a : List Int) (s : Int × Int × List Int) (c : Nat) : Int × Int × List Int :=
  if c = 40 then (s.1, s.2.1, s.2.1 :: s.2.2) else if c = 41 then (s.1, s.2.1, s.2.2.tail) else if c = 45 then (s.1, -(s.2.2.headD 0), s.2.2) else (s.1 + s.2.1 * a.getD (c - 97) 0, s.2.1, s.2.2)
noncomputable def okV (a : List Int) (s : Int × Int × List Int) (c : Nat) : Prop := c = 40 ∨ (c = 41 ∧ ∃ p P, s.2.2 = p :: P) ∨ (c = 45 ∧ ∃ p P, s.2.2 = p :: P) ∨ ∃ j v, j < 6 ∧ c = 97 + j ∧ a[j]? = some v ∧ 256 ≤ v ∧ v < 2 ^ 20
theorem valGo_step {a : List Int} {c : Nat} {r : List Nat} {s : Int × Int × List Int} {v : Int} (h : valGo a (c :: r) s.1 s.2.1 s.2.2 = some v) : okV a s c ∧ valGo a r (stV a s c).1 (stV a s c).2.1 (stV a s c).2.2 = some v := by
  obtain ⟨tot, turn, P⟩ := s
  dsimp only at h
  by_cases h40 : c = 40
  · subst h40
    rw [valGo] at h
    exact ⟨.inl rfl, h⟩
  by_cases h41 : c = 41
  · subst h41
    cases P with
    | nil => rw [valGo, if_neg (by decide)] at h; cases h; all_goals (intros; simp_all)
    | cons p P => rw [valGo] at h; exact ⟨.inr (.inl ⟨rfl, p, P, rfl⟩), h⟩
  by_cases h45 : c = 45
  · subst h45
    cases P with
    | nil => rw [valGo, if_neg (by decide)] at h; cases h; all_goals (intros; simp_all)
    | cons p P => rw [valGo] at h; exact ⟨.inr (.inr (.inl ⟨rfl, p, P, rfl⟩)), h⟩
  rw [valGo] at h
  · split at h
    · rename_i hc
      split at h
      · rename_i u hu
        split at h
        · rename_i hv
          refine ⟨.inr (.inr (.inr ⟨c - 97, u, by omega, by omega, hu, hv.1, hv.2⟩)), ?_⟩
          unfold stV
          rw [if_neg h40, if_neg h41, if_neg h45, List.getD_eq_getElem?_getD, hu]
          exact h
        · cases h
      · cases h
    · cases h
  · exact h40
  · intros; contradiction
  · intros; contradiction
noncomputable def atV (a : List Int) (l : List Nat) (i : Nat) : Int × Int × List Int := (l.take i).foldl (stV a) (0, 1, [])
theorem atV_succ {a : List Int} {l : List Nat} {i c : Nat} (h : l[i]? = some c) : atV a l (i + 1) = stV a (atV a l i) c := by
  unfold atV
  rw [List.take_add_one, h, List.foldl_append]; rfl
theorem atV_inv {a : List Int} {l : List Nat} {v : Int} (h : valGo a l 0 1 [] = some v) : ∀ i, i ≤ l.length → valGo a (l.drop i) (atV a l i).1 (atV a l i).2.1 (atV a l i).2.2 = some v
  | 0, _ => h
  | i + 1, hi => by
    have ih := atV_inv h i (by omega)
    rw [List.drop_eq_getElem_cons (show i < l.length by omega)] at ih
    have := (valGo_step ih).2
    rw [atV_succ (List.getElem?_eq_getElem (show i < l.length by omega))]
    exact this
theorem atV_ok {a : List Int} {l : List Nat} {v : Int} (h : valGo a l 0 1 [] = some v) {i c : Nat} (hc : l[i]? = some c) : okV a (atV a l i) c := by
  obtain ⟨hi, rfl⟩ := List.getElem?_eq_some_iff.mp hc
  have ih := atV_inv h i (by omega)
  rw [List.drop_eq_getElem_cons hi] at ih
  exact (valGo_step ih).1
theorem atV_end {a : List Int} {l : List Nat} {v : Int} (h : valGo a l 0 1 [] = some v) : (atV a l l.length).1 = v := by
  have := atV_inv h l.length (Nat.le_refl _)
  rw [List.drop_of_length_le (Nat.le_refl _), valGo] at this
  exact Option.some.inj this
theorem stV_len (a : List Int) (s : Int × Int × List Int) (c : Nat) : (stV a s c).2.2.length ≤ s.2.2.length + 1 := by
  unfold stV
  split
  · simp
  · split
    · simp; omega
    · split
      · simp
      · simp
theorem atV_len (a : List Int) (l : List Nat) : ∀ i, i ≤ l.length → (atV a l i).2.2.length ≤ i
  | 0, _ => Nat.le_refl _
  | i + 1, h => by
    rw [atV_succ (List.getElem?_eq_getElem (show i < l.length by omega))]
    have := atV_len a l i (by omega)
    have := stV_len a (atV a l i) l[i]
    omega
noncomputable def symV (a : List Int) (c : Nat) : Int := if c = 40 then 7 else if c = 41 then 8 else if c = 45 then 15 else a.getD (c - 97) 0
-- the pile of the writing
noncomputable def psz : List (Int × List Nat) → Nat
  | [] => 0
  | p :: r => p.2.length + 4 + psz r
theorem psz_push : ∀ (r : List (Int × List Nat)) (a : Int) (x : List Nat), psz (push a x r) = x.length + 4 + psz r
  | [], a, x => rfl
  | (b, y) :: r, a, x => by
    rw [push]
    split
    · rw [psz_push r]
      simp only [join2, psz, List.length_append, List.length_cons, List.length_nil]; omega
    · rfl
theorem psz_len : ∀ (r : List (Int × List Nat)), 4 * r.length ≤ psz r
  | [] => Nat.le_refl _
  | p :: r => by have := psz_len r; simp only [psz, List.length_cons]; omega
noncomputable def wrRows (rows : List (Int × Int)) : List (Int × List Nat) := (List.range rows.length).map fun i => ((rows.getD i (0, 0)).1, [97 + i])
noncomputable def pileAt (rows : List (Int × Int)) (i : Nat) : List (Int × List Nat) := procW ((wrRows rows).take i) []
theorem pileAt_succ {rows : List (Int × Int)} {i : Nat} (h : i < rows.length) : pileAt rows (i + 1) = push (rows.getD i (0, 0)).1 [97 + i] (pileAt rows i) := by
  unfold pileAt
  have : (wrRows rows)[i]? = some ((rows.getD i (0, 0)).1, [97 + i]) := by
    unfold wrRows
    rw [List.getElem?_map, List.getElem?_range h]; rfl
  rw [List.take_add_one, this, procW_app]; rfl
theorem pileAt_psz {rows : List (Int × Int)} : ∀ {i : Nat}, i ≤ rows.length → psz (pileAt rows i) = 5 * i
  | 0, _ => rfl
  | i + 1, h => by
    rw [pileAt_succ (by omega), psz_push, pileAt_psz (by omega)]
    simp only [List.length_cons, List.length_nil]; omega
theorem pileAt_end (rows : List (Int × Int)) : pileAt rows rows.length = procW (wrRows rows) [] := by
  unfold pileAt
  rw [List.take_of_length_le (by simp [wrRows])]
end Mine
end
section
open PySem PySem.W PyProof.Rows
namespace Mine
noncomputable def numsOf (script : List Int) : List Int := (script.take 6).map (fun x => x.fmod 1000000) ++ [7, 8, 15, 11, 10, 20].drop (script.take 6).length
theorem numsOf_len (script : List Int) : (numsOf script).length = 6 := by
  unfold numsOf
  simp only [List.length_append, List.length_map, List.length_drop, List.length_take, List.length_cons, List.length_nil]
  omega
theorem numsOf_ok (script : List Int) : ∀ x ∈ numsOf script, 0 ≤ x ∧ x < 1000000 := fun x hx => by
  rcases List.mem_append.mp hx with h | h
  · obtain ⟨y, _, rfl⟩ := List.mem_map.mp h
    exact ⟨Int.fmod_nonneg_of_pos _ (by decide), Int.fmod_lt_of_pos _ (by decide)⟩
  · have := List.mem_of_mem_drop h
    simp at this
    omega
noncomputable def cntOf (nums : List Int) : Nat := 4 + ((nums.getD 0 0).fmod 3).toNat
noncomputable def wOf (nums : List Int) (i : Nat) : Nat := if i < 6 then 4 * 3 ^ i + (((nums.getD i 0).fdiv 6).fmod 4).toNat else 4
theorem cntOf_le (nums : List Int) : 4 ≤ cntOf nums ∧ cntOf nums ≤ 6 := by
  have h1 := Int.fmod_nonneg_of_pos (nums.getD 0 0) (b := 3) (by decide)
  have h2 := Int.fmod_lt_of_pos (nums.getD 0 0) (b := 3) (by decide)
  unfold cntOf; omega
theorem wOf_ok (nums : List Int) : Wok (wOf nums) := fun i hi => by
  unfold wOf
  rw [if_pos hi]
  have h1 := Int.fmod_nonneg_of_pos ((nums.getD i 0).fdiv 6) (b := 4) (by decide)
  have h2 := Int.fmod_lt_of_pos ((nums.getD i 0).fdiv 6) (b := 4) (by decide)
  omega
theorem wOf_int (nums : List Int) {i : Nat} (hi : i < 6) : (4 : Int) * 3 ^ i + ((nums.getD i 0).fdiv 6).fmod 4 = (wOf nums i : Int) := by
  unfold wOf
  rw [if_pos hi]
  have h1 := Int.fmod_nonneg_of_pos ((nums.getD i 0).fdiv 6) (b := 4) (by decide)
  have h3 : ((3 ^ i : Nat) : Int) = 3 ^ i := by rw [Int.natCast_pow]; rfl
  rw [Int.natCast_add, Int.natCast_mul, h3, Int.toNat_of_nonneg h1]; rfl
theorem wOf_lt (nums : List Int) (i : Nat) : 4 ≤ wOf nums i ∧ wOf nums i < 4096 := by
  by_cases hi : i < 6
  · have := wOf_ok nums i hi
    have h3 : ∀ i : Fin 6, 4 ≤ 4 * 3 ^ i.val ∧ 4 * 3 ^ i.val + 3 < 4096 := by decide
    have := h3 ⟨i, hi⟩
    dsimp only at this
    omega
  · unfold wOf
    rw [if_neg hi]; omega
noncomputable def fOf (W : Nat → Nat) (i : Nat) : Int := 64 * (W i : Int) + 13
noncomputable def namesL (W : Nat → Nat) (n : Nat) : List Int := (List.range n).map fun i => 64 * (W i : Int) + 13
/-- a tree over the first n leaves, in order -/
noncomputable def Over (t : T) (n : Nat) : Prop := ∀ d, (t.dl d).map Prod.snd = List.range n
section
variable {W : Nat → Nat} {t t2 : T} {n : Nat}
theorem Over.len (o : Over t n) (d : Nat) : (t.dl d).length = n := by
  have := congrArg List.length (o d)
  rwa [List.length_map, List.length_range] at this
theorem Over.lt (o : Over t n) {d : Nat} {p : Nat × Nat} (h : p ∈ t.dl d) : p.2 < n := by
  have : p.2 ∈ (t.dl d).map Prod.snd := List.mem_map.mpr ⟨p, h, rfl⟩
  rw [o d] at this
  exact List.mem_range.mp this
theorem Over.at (o : Over t n) {d i : Nat} {p : Nat × Nat} (h : (t.dl d)[i]? = some p) : p.2 = i := by
  have h2 : ((t.dl d).map Prod.snd)[i]? = some p.2 := by rw [List.getElem?_map, h]; rfl
  rw [o d] at h2
  have hi : i < n := by
    rcases Nat.lt_or_ge i n with q | q
    · exact q
    · rw [List.getElem?_eq_none (by simpa using q)] at h2; cases h2
  rw [List.getElem?_range hi] at h2
  exact (Option.some.inj h2).symm
theorem Over.names (o : Over t n) (d : Nat) : (t.dl d).map (fun p => 64 * (W p.2 : Int) + 13) = namesL W n := by
  unfold namesL
  rw [← o d, List.map_map]; rfl
noncomputable def rowsT (W : Nat → Nat) (t : T) : List (Int × Int) := (t.dl 1).map (rowI W)
theorem rowsT_snd (o : Over t n) : (rowsT W t).map Prod.snd = namesL W n := by
  rw [← o.names 1, rowsT, List.map_map]; rfl
theorem rowsT_len (o : Over t n) : (rowsT W t).length = n := by rw [rowsT, List.length_map, o.len]
theorem wrRows_tree (o : Over t n) : wrRows (rowsT W t) = (t.dl 1).map ltrI := by
  unfold wrRows
  rw [rowsT_len o]
  apply List.ext_getElem?
  intro i
  rw [List.getElem?_map, List.getElem?_map]
  rcases Nat.lt_or_ge i n with q | q
  · rw [List.getElem?_range q]
    have hl := o.len 1
    obtain ⟨p, hp⟩ : ∃ p, (t.dl 1)[i]? = some p := ⟨_, List.getElem?_eq_getElem (by omega)⟩
    have := o.at hp
    rw [hp]
    show some (((rowsT W t).getD i (0, 0)).1, [97 + i]) = some ((p.1 : Int), [97 + p.2])
    rw [this, List.getD_eq_getElem?_getD, rowsT, List.getElem?_map, hp]; rfl
  · rw [List.getElem?_eq_none (by simpa using q), List.getElem?_eq_none (by rw [o.len]; exact q)]; rfl
theorem write_tree (o : Over t n) : procW (wrRows (rowsT W t)) [] = [(1, t.wr)] := by rw [wrRows_tree o, procW_whole]
theorem val_tree (hW : ∀ i, 4 ≤ W i ∧ W i < 4096) (hn : n ≤ 6) (o : Over t n) : valGo ((rowsT W t).map Prod.snd) t.wr 0 1 [] = some (t.val (fOf W)) := by
  refine valGo_whole (d := 0) fun p hp => ?_
  have h := o.lt hp
  have hw := hW p.2
  refine ⟨by omega, ?_, by unfold fOf; omega, by unfold fOf; omega⟩
  rw [rowsT_snd o, namesL, List.getElem?_map, List.getElem?_range h]; rfl
theorem dl1 (t : T) : t.dl 1 = (t.dl 0).map bump := dl_succ t 0
theorem signs_tree (t : T) : (rowsT W t).map (fun p => if p.1.fmod 2 = 1 then (1 : Int) else -1) = tsg t := by
  rw [rowsT, dl1, List.map_map, List.map_map, tsg]
  refine List.map_congr_left fun p _ => ?_
  show (if (((p.1 + 1 : Nat) : Int)).fmod 2 = 1 then (1 : Int) else -1) = sgn p.1
  rw [Int.fmod_eq_emod_of_nonneg _ (by decide), sgn_odd]
theorem zip_maps {α β γ : Type} (f : α → β) (g : α → γ) : ∀ l : List α, (l.map f).zip (l.map g) = l.map fun a => (f a, g a)
  | [] => rfl
  | a :: l => by rw [List.map_cons, List.map_cons, List.zip_cons_cons, zip_maps f g l]; rfl
theorem tsg_zip (o : Over t n) : (tsg t).zip (namesL W n) = (t.dl 0).map fun p => (sgn p.1, fOf W p.2) := by
  rw [← o.names (W := W) 0, tsg, zip_maps]; rfl
theorem dot_val (o : Over t n) : dot ((tsg t).zip (namesL W n)) = t.val (fOf W) := by
  rw [tsg_zip o, dot, List.map_map]; rfl
theorem sum_append_int : ∀ a b : List Int, (a ++ b).sum = a.sum + b.sum
  | [], b => by simp
  | x :: a, b => by rw [List.cons_append, List.sum_cons, List.sum_cons, sum_append_int a b]; omega
theorem sum_reverse_int : ∀ a : List Int, a.reverse.sum = a.sum
  | [] => rfl
  | x :: a => by rw [List.reverse_cons, sum_append_int, sum_reverse_int a]; simp; omega
theorem dot_rev (l : List (Int × Int)) : dot l.reverse = dot l := by
  unfold dot
  rw [List.map_reverse, sum_reverse_int]
theorem tsg_len (o : Over t n) : (tsg t).length = n := by rw [tsg, List.length_map, o.len]
theorem tsg_pm (t : T) : ∀ s ∈ tsg t, s = 1 ∨ s = -1 := fun s hs => by
  obtain ⟨p, _, rfl⟩ := List.mem_map.mp hs; exact sgn_pm _
theorem namesL_len (n : Nat) : (namesL W n).length = n := by simp [namesL]
theorem sig_tree (hW : Wok W) (hn : n ≤ 6) (o : Over t n) : sgnGo ((rowsT W t).reverse.map Prod.snd) (t.val (fOf W)) [] = (tsg t, 0) := by
  have hsi := (si_worths hW n (tsg t) hn (tsg_len o) (tsg_pm t)).1
  have e := sgnGo_si hsi []
  have h1 : (((tsg t).zip ((List.range n).map fun i => 64 * (W i : Int) + 13)).reverse).map Prod.snd = (rowsT W t).reverse.map Prod.snd := by
    rw [List.map_reverse, List.map_reverse, rowsT_snd o, List.map_snd_zip]
    · rfl
    · rw [tsg_len o]; simp
  have h2 : ((((tsg t).zip ((List.range n).map fun i => 64 * (W i : Int) + 13)).reverse).map Prod.fst).reverse = tsg t := by
    rw [List.map_reverse, List.reverse_reverse, List.map_fst_zip]
    rw [tsg_len o]; simp
  have h3 : dot (((tsg t).zip ((List.range n).map fun i => 64 * (W i : Int) + 13)).reverse) = t.val (fOf W) := by
    rw [dot_rev]; exact dot_val o
  rw [h1, h2, h3, List.append_nil] at e
  exact e
theorem val_same (o : Over t n) (o2 : Over t2 n) (h : tsg t2 = tsg t) : t2.val (fOf W) = t.val (fOf W) := by
  rw [← dot_val o, ← dot_val o2, h]
theorem par_same (o : Over t n) (o2 : Over t2 n) (h : tsg t2 = tsg t) : (rowsT W t2).map (fun p => (p.1.fmod 2, p.2)) = (rowsT W t).map (fun p => (p.1.fmod 2, p.2)) := by
  have key : ∀ {t : T}, Over t n → (rowsT W t).map (fun p => (p.1.fmod 2, p.2)) = ((tsg t).zip (namesL W n)).map fun q => ((if q.1 = 1 then 1 else 0 : Int), q.2) := fun {t} o => by
    rw [tsg_zip o, rowsT, dl1, List.map_map, List.map_map, List.map_map]
    refine List.map_congr_left fun p _ => ?_
    show (((p.1 + 1 : Nat) : Int).fmod 2, 64 * (W p.2 : Int) + 13) = ((if sgn p.1 = 1 then 1 else 0 : Int), fOf W p.2)
    rw [Int.fmod_eq_emod_of_nonneg _ (by decide), ← sgn_odd]
    by_cases q : ((p.1 + 1 : Nat) : Int) % 2 = 1
    · rw [if_pos q, if_pos rfl, q]; rfl
    · rw [if_neg q, if_neg (by decide)]
      have : ((p.1 + 1 : Nat) : Int) % 2 = 0 := by omega
      rw [this]; rfl
  rw [key o, key o2, h]
theorem lsg_one (t : T) : lsg [t] [1] = tsg t := by
  show ((t.dl 0).map fun p => 1 * sgn p.1) ++ [] = _
  rw [List.append_nil, tsg]
  exact List.map_congr_left fun p _ => Int.one_mul _
end
theorem wr_chars : ∀ (t : T), (∀ d, ∀ p ∈ t.dl d, p.2 < 6) → ∀ c ∈ t.wr, c < 1114112
  | .leaf i, h, c, hc => by
    rw [T.wr, List.mem_singleton] at hc
    have := h 0 (0, i) List.mem_cons_self
    dsimp only at this
    omega
  | .node l r, h, c, hc => by
    have hl : ∀ d, ∀ p ∈ l.dl d, p.2 < 6 := fun d p hp => by
      have : p.2 ∈ (l.dl d).map Prod.snd := List.mem_map.mpr ⟨p, hp, rfl⟩
      rw [lv_d l d, ← lv_d l 1] at this
      obtain ⟨q, hq, e⟩ := List.mem_map.mp this
      rw [← e]
      exact h 0 q (List.mem_append_left _ hq)
    have hr : ∀ d, ∀ p ∈ r.dl d, p.2 < 6 := fun d p hp => by
      have : p.2 ∈ (r.dl d).map Prod.snd := List.mem_map.mpr ⟨p, hp, rfl⟩
      rw [lv_d r d, ← lv_d r 1] at this
      obtain ⟨q, hq, e⟩ := List.mem_map.mp this
      rw [← e]
      exact h 0 q (List.mem_append_right _ hq)
    have h1 := wr_chars l hl
    have h2 := wr_chars r hr
    rw [T.wr] at hc
    simp only [List.mem_append, List.mem_cons, List.not_mem_nil, or_false] at hc
    rcases hc with (((hc | hc) | hc) | hc) | hc
    · rcases hc with rfl | rfl <;> omega
    · exact h1 c hc
    · omega
    · exact h2 c hc
    · omega
end Mine
end
section
open PySem PySem.W PyProof.Rows PySem.SeqAt
namespace Mine
section
variable {prog : Program} {w : World} {A : Around} {env : Env} {h hb : Heap} {X : List Addr} {mg mb : Str → Option Value} {σ : Sg} {s s0 : Shared}
theorem get_last {ds : List D} {d : D} (hz : ds.length ≤ 1000000) : GetD prog w A X (.lst (ds ++ [d])) (.int (-1)) d :=
  get_li_neg (by decide) (by rw [List.length_append, List.length_singleton]; omega) (by decide) (by
    rw [List.length_append, List.length_singleton, show (-1 + ((ds.length + 1 : Nat) : Int)).toNat = ds.length by omega, List.getElem?_append_right (Nat.le_refl _), Nat.sub_self]; rfl)
theorem get_last2 {ds : List D} {d e : D} (hz : ds.length ≤ 1000000) : GetD prog w A X (.lst (ds ++ [d] ++ [e])) (.int (-2)) d :=
  get_li_neg (by decide) (by simp only [List.length_append, List.length_singleton]; omega) (by decide) (by
    simp only [List.length_append, List.length_singleton]
    rw [show (-2 + ((ds.length + 1 + 1 : Nat) : Int)).toNat = ds.length by omega, List.append_assoc, List.getElem?_append_right (Nat.le_refl _), Nat.sub_self]; rfl)
theorem mul_small_r {a b : Int} (h1 : -(2 ^ 60) ≤ b) (h2 : b ≤ 2 ^ 60) : IntMulOk a b := IntMulOk.of_right (intBits_le_64 (by omega) (by omega))
end
noncomputable abbrev abc : Str := Str.ofString "abcdef"
theorem abc_index {j : Nat} (h : j < 6) : Builtin.Str.occurrences abc ⟨#[97 + j]⟩ 0 abc.length 1 = [j] := by
  match j, h with
  | 0, _ => kernel_rfl
  | 1, _ => kernel_rfl
  | 2, _ => kernel_rfl
  | 3, _ => kernel_rfl
  | 4, _ => kernel_rfl
  | 5, _ => kernel_rfl
noncomputable abbrev so (l : List Nat) : Str := ⟨l.toArray⟩
theorem so_app (a b : List Nat) : so a ++ so b = so (a ++ b) := by
  show Str.mk (a.toArray ++ b.toArray) = _
  rw [List.append_toArray]
theorem so_len (a : List Nat) : (so a).length = a.length := List.size_toArray
theorem abc_get {i : Nat} (h : i < 6) : abc.cps[i]? = some (97 + i) := by
  match i, h with
  | 0, _ => kernel_rfl
  | 1, _ => kernel_rfl
  | 2, _ => kernel_rfl
  | 3, _ => kernel_rfl
  | 4, _ => kernel_rfl
  | 5, _ => kernel_rfl
noncomputable def pairD (p : Int × List Nat) : D := .tup [.int p.1, .str (so p.2)]
section
variable {prog : Program} {w : World} {A : Around} {env : Env} {h hb : Heap} {X : List Addr} {mg mb : Str → Option Value} {σ : Sg} {s s0 : Shared}
theorem ev_so {x : Str} {l : List Nat} {k : Nat} {pos : Pos} (e : x = so l) : Gv prog w A h X (eval (.Constant (.str x) k pos) env) (.str (so l)) := e ▸ ev_str
theorem add_so {a b : List Nat} (hz : a.length + b.length ≤ sizeLine) : BinD prog w A X .Add (.str (so a)) (.str (so b)) (.str (so (a ++ b))) := by
  have := add_ss (prog := prog) (w := w) (A := A) (X := X) (a := so a) (b := so b) (by rw [so_len, so_len]; exact hz)
  rwa [so_app] at this

theorem sw_true {y : Str} {elt : Expr} {gens : List Comprehension} {scope : Scope} {pos py : Pos} {ln : Nat} (eo : EnvOk env) (hy : env.kindOf y = some .local) (hl : (py.line == pos.line) = true)
    (hn : (scope.names.any fun p => p.1 == y && (p.2 == .local || p.2 == .cell)) = false) : swapsWith (.ListComp elt gens scope pos) (some (.Name y py)) ln env = pure true := by
  unfold swapsWith
  have e1 : env.blockKind = .function := by unfold Env.blockKind; rw [eo.kind]; rfl
  have e2 : (Expr.ListComp elt gens scope pos).pos = pos := rfl
  dsimp only
  rw [e1, hy, e2, hl]
  have e3 : (scope.names.any fun (p : Str × NameKind) => match p with | (n, k) => n == y && (k == NameKind.local || k == NameKind.cell)) = false := hn
  rw [e3]; rfl
theorem sw_cell {y : Str} {elt : Expr} {gens : List Comprehension} {scope : Scope} {pos py : Pos} {ln : Nat} (hy : env.kindOf y = some .cell) : swapsWith (.ListComp elt gens scope pos) (some (.Name y py)) ln env = pure false := by
  unfold swapsWith
  dsimp only
  rw [hy]
  have e : (env.blockKind == ScopeKind.function && some NameKind.cell == some NameKind.local) = false := by
    rw [show (some NameKind.cell == some NameKind.local) = false from rfl, Bool.and_false]
  rw [e]; rfl
/-- y = [elt for x in iter if ..] -/
theorem st_comp1 {x y : Str} {px py : Pos} {elt iter : Expr} {ifs : List Expr} {scope : Scope} {pos spos : Pos} {rest : List Stmt} {items : List D} {Q : Flow → Shared → Prop} {E : Value → Shared → Prop} (p : D → Bool) (fe : D → D) (fv : List (Str × D)) (hA : A.handled = none) (f : Fm hb env) (q : St s0 hb env X σ s)
    (hv : ∀ n d, fv.lookup n = some d → Var env s.heap X n d ∧ env.kindOf n ≠ some .local) (hi : Gi prog w A s.heap X env iter items) (hz : items.length ≤ sizeLine)
    (hx : scope.names.lookup x = some .local ∨ scope.names.lookup x = some .cell) (hxf : fv.lookup x = none)
    (htest : ∀ (cenv : Env) (h' : Heap) (X' : List Addr) (d : D), d ∈ items → EnvOk cenv → KN scope cenv → Kp s.heap h' → Var cenv h' X' x d → (∀ n d', fv.lookup n = some d' → Var cenv h' X' n d') → Gt prog w A h' X' cenv ifs (p d))
    (helt : ∀ (cenv : Env) (h' : Heap) (X' : List Addr) (d : D), d ∈ items → p d = true → EnvOk cenv → KN scope cenv → Kp s.heap h' → Var cenv h' X' x d → (∀ n d', fv.lookup n = some d' → Var cenv h' X' n d') → Gv prog w A h' X' (eval elt cenv) (fe d))
    (hy : env.kindOf y = some .local) (hl : (py.line == pos.line) = true) (hny : (scope.names.any fun p => p.1 == y && (p.2 == .local || p.2 == .cell)) = false)
    (hc : ∀ y ∈ scope.names, y.2 = .free → (y.1 == ("__classdict__" : Str)) = false ∧ ∃ d, fv.lookup y.1 = some d)
    (hfv : ∀ n d, fv.lookup n = some d → scope.names.lookup n = some .free)
    (hn : ∀ s', St s0 hb env X (upd σ y (.d (.lst ((items.filter p).map fe)))) s' → wpAny (model prog w) A (execs rest env) Q E s')
    (hkind : scope.kind = .function := by rfl) (hdist : ∀ y ∈ scope.names, scope.names.lookup y.1 = some y.2 := by decide +kernel)
    (hs : ∀ x, foldedSetIterable iter env x = pure x := by intro _; rfl) :
    wpAny (model prog w) A (execs (.Assign [.Name y py] (.ListComp elt [⟨.Name x px, iter, ifs, 0⟩] scope pos) spos :: rest) env) Q E s :=
  st_comp (σ1 := fun d => upd (sg0 fv) x (.d d)) hA f q hv hi hz (fun cenv hb' X' s' s0 d v I E' hd fm sto q r hI => asg_name fm (sto x hx) q r) (fun d => up_sg0 hxf)
    (fun cenv h' X' d hd eo' kn kp hvar => htest cenv h' X' d hd eo' kn kp (hvar _ _ upd_self_eq) fun n d' e => hvar n d' (up_sg0 hxf _ _ (fv_sg0 e)))
    (fun cenv h' X' d hd hp eo' kn kp hvar => helt cenv h' X' d hd hp eo' kn kp (hvar _ _ upd_self_eq) fun n d' e => hvar n d' (up_sg0 hxf _ _ (fv_sg0 e))) hy hn (sw_true f.eo hy hl hny) hc hfv hkind hdist hs
theorem st_compn {x y : Str} {px py : Pos} {elt iter : Expr} {scope : Scope} {pos spos : Pos} {rest : List Stmt} {items : List D} {Q : Flow → Shared → Prop} {E : Value → Shared → Prop} (fe : D → D) (fv : List (Str × D)) (hA : A.handled = none) (f : Fm hb env) (q : St s0 hb env X σ s)
    (hv : ∀ n d, fv.lookup n = some d → Var env s.heap X n d ∧ env.kindOf n ≠ some .local) (hi : Gi prog w A s.heap X env iter items) (hz : items.length ≤ sizeLine)
    (hx : scope.names.lookup x = some .local ∨ scope.names.lookup x = some .cell) (hxf : fv.lookup x = none)
    (helt : ∀ (cenv : Env) (h' : Heap) (X' : List Addr) (d : D), d ∈ items → EnvOk cenv → KN scope cenv → Kp s.heap h' → Var cenv h' X' x d → (∀ n d', fv.lookup n = some d' → Var cenv h' X' n d') → Gv prog w A h' X' (eval elt cenv) (fe d))
    (hy : env.kindOf y = some .local) (hl : (py.line == pos.line) = true) (hny : (scope.names.any fun p => p.1 == y && (p.2 == .local || p.2 == .cell)) = false)
    (hc : ∀ y ∈ scope.names, y.2 = .free → (y.1 == ("__classdict__" : Str)) = false ∧ ∃ d, fv.lookup y.1 = some d)
    (hfv : ∀ n d, fv.lookup n = some d → scope.names.lookup n = some .free)
    (hn : ∀ s', St s0 hb env X (upd σ y (.d (.lst (items.map fe)))) s' → wpAny (model prog w) A (execs rest env) Q E s')
    (hkind : scope.kind = .function := by rfl) (hdist : ∀ y ∈ scope.names, scope.names.lookup y.1 = some y.2 := by decide +kernel)
    (hs : ∀ x, foldedSetIterable iter env x = pure x := by intro _; rfl) :
    wpAny (model prog w) A (execs (.Assign [.Name y py] (.ListComp elt [⟨.Name x px, iter, [], 0⟩] scope pos) spos :: rest) env) Q E s :=
  st_comp1 (fun _ => true) fe fv hA f q hv hi hz hx hxf (fun _ _ _ _ _ _ _ _ _ _ => gt_nil) (fun cenv h' X' d hd _ => helt cenv h' X' d hd) hy hl hny hc hfv (fun s' q' => by rw [filter_true] at q'; exact hn s' q') hkind hdist hs
noncomputable def iOf : D → Int
  | .int i => i
  | _ => 0
/-- [elt for x, y in rows] -/
theorem ev_rows {x y : Str} {p1 p2 tp : Pos} {tk : Nat} {elt iter : Expr} {scope : Scope} {pos : Pos} {R : List (Int × Int)} {rp : Int × Int → D} (hrp : ∀ p, rp p = .tup [.int p.1, .int p.2]) (fe : Int × Int → D) (hA : A.handled = none) (eo : EnvOk env)
    (hi : Gv prog w A h X (eval iter env) (.lst (R.map rp))) (hz : R.length ≤ 1000)
    (hx : scope.names.lookup x = some .local) (hy : scope.names.lookup y = some .local) (hxy : x ≠ y)
    (helt : ∀ (cenv : Env) (h' : Heap) (X' : List Addr) (p : Int × Int), EnvOk cenv → KN scope cenv → Kp h h' → Var cenv h' X' x (.int p.1) → Var cenv h' X' y (.int p.2) → Gv prog w A h' X' (eval elt cenv) (fe p))
    (hc : ∀ y ∈ scope.names, y.2 ≠ .free)
    (hkind : scope.kind = .function := by rfl) (hdist : ∀ y ∈ scope.names, scope.names.lookup y.1 = some y.2 := by decide +kernel)
    (hs : ∀ x, foldedSetIterable iter env x = pure x := by intro _; rfl) :
    Gv prog w A h X (eval (.ListComp elt [⟨.Tuple [.Name x p1, .Name y p2] tk tp, iter, [], 0⟩] scope pos) env) (.lst (R.map fe)) := by
  have hsl := sizeLine_val
  have hi' : Gi prog w A h X env iter ((R.map fun p => (D.int p.1, D.int p.2)).map fun p => D.tup [p.1, p.2]) := by
    rw [List.map_map, show ((fun p : D × D => D.tup [p.1, p.2]) ∘ fun p : Int × Int => (D.int p.1, D.int p.2)) = rp from funext fun p => (hrp p).symm]
    exact gi_list hi
  refine Gv.cast (ev_comp2 (fun d => fe (iOf d.1, iOf d.2)) hA eo hi' (by rw [List.length_map]; omega) hx hy hxy (fun cenv h' X' d hd eo' kn kp h1 h2 => ?_) hc hkind hdist hs) ?_
  · obtain ⟨p, _, rfl⟩ := List.mem_map.mp hd
    exact helt cenv h' X' p eo' kn kp h1 h2
  · rw [List.map_map]; rfl
end
end Mine
end
section
open PySem PySem.W PyProof.Rows
namespace Mine
noncomputable def toTGo : List Obj → BT → Nat → Option (BT × Nat)
  | [], t, n => some (t, n)
  | o :: r, t, n => match ((t.ins n o).get n).isSome with
    | true => toTGo r (t.ins n o) (n + 1)
    | false => none
noncomputable def toT (s : Shared) : Option SharedT := match toTGo s.heap.objs.toList .nil 0 with
  | some (t, n) => some ⟨t, n, s.heap.life, s.gens, s.drawn, s.toks, s.os⟩
  | none => none
theorem toTGo_abs (life : Life) : ∀ {l : List Obj} {t t' : BT} {n n' : Nat}, toTGo l t n = some (t', n') → (absHeap t' n' life).objs.toList = (absHeap t n life).objs.toList ++ l
  | [], t, t', n, n', h => by cases h; simp
  | o :: r, t, t', n, n', h => by
    unfold toTGo at h
    cases e : ((t.ins n o).get n).isSome with
    | false => rw [e] at h; cases h
    | true =>
      rw [e] at h
      rw [toTGo_abs life h, absHeap_ins (life := life) e]
      show ((absHeap t n life).objs.push o).toList ++ r = _
      rw [Array.toList_push, List.append_assoc]; rfl
theorem toT_abs {s : Shared} {t : SharedT} (h : toT s = some t) : t.abs = s := by
  unfold toT at h
  split at h
  · cases h
    obtain ⟨⟨objs, life⟩, gens, drawn, toks, os⟩ := s
    have := toTGo_abs life (by assumption)
    show Shared.mk (absHeap _ _ life) _ _ _ _ = _
    have e : ∀ (h : Heap), h.life = life → h.objs.toList = objs.toList → h = ⟨objs, life⟩ := by
      rintro ⟨a, b⟩ h1 h2
      have h1 : b = life := h1
      subst h1
      have h2 : a.toList = objs.toList := h2
      rw [Array.toList_inj.mp h2]
    rw [e (absHeap _ _ life) rfl (by rw [this]; rfl)]
  · cases h
section
variable (tb : String → Option Builtin) (p : Program) (w : World)
noncomputable def impT (stp : SharedT → Thread → Option (SharedT × Thread)) : Nat → SharedT → Thread → Option SharedT
  | 0, _, _ => none
  | n + 1, s, t => match t.atExitBegin with
    | some [] => some s
    | some (_ :: _) => none
    | none => match stp s t with
      | some (s', t') => impT stp n s' t'
      | none => none
noncomputable def topT (stp : SharedT → Thread → Option (SharedT × Thread)) (ok : Thread → Bool) : Nat → SharedT → Thread → Option SharedT
  | 0, _, _ => none
  | n + 1, s, t => match through t with
    | true => some s
    | false => match ok t with
      | false => none
      | true => match stp s t with
        | some (s', t') => topT stp ok n s' t'
        | none => none
variable {tb p w}
theorem impT_of : ∀ {n : Nat} {s s' : SharedT} {t : Thread}, impT (stepT (denote tb) p w) n s t = some s' → importEnds tb p w n s.abs t = some s'.abs
  | 0, _, _, _, h => by cases h
  | n + 1, s, s', t, h => by
    unfold impT at h
    unfold importEnds
    cases he : t.atExitBegin with
    | some l => rw [he] at h; cases l <;> cases h; rfl
    | none =>
      rw [he] at h
      cases hs : stepT (denote tb) p w s t with
      | none => rw [hs] at h; cases h
      | some r => obtain ⟨s₂, t₂⟩ := r; rw [hs] at h; dsimp only; rw [stepT_spec hs]; exact impT_of h
theorem topT_of {n₀ : Nat} {ann : Option Value} : ∀ {n : Nat} {s s' : SharedT} {t : Thread}, topT (stepT (denote tb) p w) (stepOk n₀ ann) n s t = some s' → topRun tb p w n₀ ann n s.abs t = some s'.abs
  | 0, _, _, _, h => by cases h
  | n + 1, s, s', t, h => by
    unfold topT at h
    unfold topRun
    cases he : through t with
    | true => rw [he] at h; cases h; rfl
    | false =>
      rw [he] at h
      cases hk : stepOk n₀ ann t with
      | false => rw [hk] at h; cases h
      | true =>
        rw [hk] at h
        cases hs : stepT (denote tb) p w s t with
        | none => rw [hs] at h; cases h
        | some r => obtain ⟨s₂, t₂⟩ := r; rw [hs] at h; rw [stepT_spec hs]; exact topT_of h
end
end Mine
end
section
open PySem PySem.W PyProof.Rows
namespace Mine
noncomputable def hdAll (p q : Program) (loose : List Str) (Xt : Shared → Bool) (as : List Addr) (w : World) (N : Nat) :=
  match toT (start (opening p)).1 with
  | none => none
  | some T0 => match impT (stepT (denote treeTable) (opening p) w) N T0 (start (opening p)).2 with
    | none => none
    | some T1 => match fenceModules? p T1.abs with
      | none => none
      | some s0 => match toT s0 with
        | none => none
        | some T2 => match s0.heap.isNs mainGlobals && s0.gens.size == 0 with
          | false => none
          | true => match topT (stepT (denote treeTable) p w) (stepOk T2.n (s0.heap.nsMap mainGlobals "__annotations__")) N T2 (topStub p) with
            | none => none
            | some T3 => match staticsOk (importedModules p.main.body) s0.heap T3.abs.heap && namesBound p T3.abs.heap && gensDone T3.abs && laidKept s0.heap T3.abs.heap with
              | false => none
              | true => some (openSeen q loose (importedModules p.main.body) Xt true T3.abs, as.map fun a => T3.abs.heap.get? a)
noncomputable def hdAllF (p q : Program) (loose : List Str) (Xt : Shared → Bool) (as : List Addr) (w : World) (N : Nat) :=
  match toT (PySem.W.Fast.tw1435165496053646825 (opening p)).1 with
  | none => none
  | some T0 => match impT (PySem.W.Fast.tw10156331382660048174 (PySem.W.Fast.tw11892475500146522536 PySem.W.Fast.tw14364793385576792824) (opening p) w) N T0 (PySem.W.Fast.tw1435165496053646825 (opening p)).2 with
    | none => none
    | some T1 => match PySem.W.Fast.tw14289696077712309145 p T1.abs with
      | none => none
      | some s0 => match toT s0 with
        | none => none
        | some T2 => match s0.heap.isNs mainGlobals && s0.gens.size == 0 with
          | false => none
          | true => match topT (PySem.W.Fast.tw10156331382660048174 (PySem.W.Fast.tw11892475500146522536 PySem.W.Fast.tw14364793385576792824) p w) (PySem.W.Fast.tw6613529449190102663 T2.n (s0.heap.nsMap mainGlobals "__annotations__")) N T2 (topStub p) with
            | none => none
            | some T3 => match staticsOk (PySem.W.Fast.tw5923862056798008813 p.main.body) s0.heap T3.abs.heap && namesBound p T3.abs.heap && gensDone T3.abs && laidKept s0.heap T3.abs.heap with
              | false => none
              | true => some (PySem.W.Fast.tw4187177175401517315 q loose (PySem.W.Fast.tw5923862056798008813 p.main.body) Xt true T3.abs, as.map fun a => T3.abs.heap.get? a)

theorem hdAll_eq : @hdAll = @hdAllF := by
  unfold hdAll hdAllF
  rw [← PySem.W.Fast.te10156331382660048174, ← PySem.W.Fast.te11892475500146522536, ← PySem.W.Fast.te14364793385576792824, ← PySem.W.Fast.te1435165496053646825, ← PySem.W.Fast.te14289696077712309145, ← PySem.W.Fast.te6613529449190102663, ← PySem.W.Fast.te5923862056798008813, ← PySem.W.Fast.te4187177175401517315]
theorem LeftO.of_hd {p q : Program} {loose : List Str} {Xt : Shared → Bool} {as : List Addr} {Ya : World → List (Option Obj)} {N : Nat}
    (h : ∀ w : World, hdAll p q loose Xt as w N = some (openGood q loose, Ya w)) : LeftO p q loose Xt (fun s => as.map fun a => s.heap.get? a) Ya N true := fun w => by
  have h := h w
  unfold hdAll at h
  split at h
  · cases h
  · rename_i T0 e0
    split at h
    · cases h
    · rename_i T1 e1
      split at h
      · cases h
      · rename_i s0 e2
        split at h
        · cases h
        · rename_i T2 e3
          split at h
          · cases h
          · rename_i e4
            split at h
            · cases h
            · rename_i T3 e5
              split at h
              · cases h
              · rename_i e6
                have f : fencedOpening treeTable p w N = some s0 := by
                  unfold fencedOpening
                  have := impT_of e1
                  rw [toT_abs e0] at this
                  rw [this]
                  exact e2
                have hn : T2.n = s0.heap.objs.size := by
                  have := congrArg (fun s => s.heap.objs.size) (toT_abs e3)
                  rw [← this]
                  show _ = (absHeap T2.tree T2.n T2.life).objs.size
                  rw [absHeap_size]
                have t : topFrom treeTable p w N s0 = some T3.abs := by
                  unfold topFrom
                  rw [e4]
                  have := topT_of e5
                  rw [toT_abs e3, hn] at this
                  dsimp only
                  rw [this]
                  show (match staticsOk (importedModules p.main.body) s0.heap T3.abs.heap && namesBound p T3.abs.heap && gensDone T3.abs && laidKept s0.heap T3.abs.heap with | true => some T3.abs | false => none) = _
                  rw [e6]
                unfold openEnds
                rw [f]
                show (topFrom treeTable p w N s0).map _ = _
                rw [t]
                exact h
theorem Frag.in_of {K : Params → Frag} {w : World} {h : Heap} (e : ((K w.params).map (·.1)).map (fun a => h.get? a) = (K w.params).map (fun p => some p.2)) : (K w.params).In h := by
  generalize K w.params = L at e
  induction L with
  | nil => intro a o h; cases h
  | cons p r ih =>
    obtain ⟨b, ob⟩ := p
    simp only [List.map_cons, List.cons.injEq] at e
    intro a o hl
    rw [List.lookup_cons] at hl
    split at hl
    · rename_i hb
      cases hl
      rw [eq_of_beq hb]; exact e.1
    · exact ih e.2 a o hl
end Mine
end
section
open PySem PySem.W PyProof.Rows
namespace Mine
noncomputable abbrev pw : Program := PySem.Challenge.pw_rs0074_02
noncomputable def keepS : Stmt → Bool
  | .FunctionDef .. => true
  | .Import .. => true
  | _ => false
noncomputable def VP : Program := { pw with main := { pw.main with body := pw.main.body.filter keepS } }
noncomputable def loose : List Str := pw.boundNames
noncomputable def gtab : List (Str × Option Value) := [
  (Str.ofString "CRLF", some (.str ⟨#[13, 10]⟩ 342)),
  (Str.ofString "ENDMARKER", some (.int 0 364)),
  (Str.ofString "NT_OFFSET", some (.int 256 462)),
  (Str.ofString "_twin_re_1", some (.ref 36)),
  (Str.ofString "_twin_re_2", some (.ref 41)),
  (Str.ofString "EXACT_TOKEN_TYPES", some (.ref 56)),
  (Str.ofString "next", none),
  (Str.ofString "iter", none),
  (Str.ofString "ord", none),
  (Str.ofString "chr", none),
  (Str.ofString "len", none),
  (Str.ofString "range", none),
  (Str.ofString "sum", none),
  (Str.ofString "sorted", none),
  (Str.ofString "max", none),
  (Str.ofString "min", none)]
noncomputable def ent (P : Params) (e : List Nat × Nat × Int × Nat) : DictEntry := { hash := PyData.keyHash P ⟨e.1.toArray⟩, key := .str ⟨e.1.toArray⟩ e.2.1, val := .int e.2.2.1 e.2.2.2 }
noncomputable def KP (P : Params) : Frag := [
  (35, ⟨.type "tuple", none, .seq #[.int 14 0, .int 4 0, .int 0 0, .int 1 0, .int 1 0, .int 6 0, .int 1 0, .int 16 0, .int 46 0, .int 1 0] 0, #[]⟩),
  (36, ⟨.type "re.Pattern", none, .fields #[.str ⟨#[40, 63, 109, 41, 94, 92, 46]⟩ 285, .int 40 298, .int 0 0, .none, .none, .ref 35, .int 0 0], #[]⟩),
  (40, ⟨.type "tuple", none, .seq #[.int 14 0, .int 9 0, .int 4 0, .int 1 0, .int 2 0, .int 16 0, .int 10 0, .int 16 0, .int 13 0, .int 0 0, .int 7 0, .int 7 0, .int 16 0, .int 13 0, .int 16 0, .int 10 0, .int 15 0, .int 18 0, .int 5 0, .int 16 0, .int 10 0, .int 15 0, .int 13 0, .int 11 0, .int 16 0, .int 13 0, .int 5 0, .int 5 0, .int 0 0, .int 16 0, .int 10 0, .int 1 0, .int 15 0, .int 2 0, .int 0 0, .int 1 0] 0, #[]⟩),
  (41, ⟨.type "re.Pattern", none, .fields #[.str ⟨#[40, 63, 58, 92, 114, 92, 110, 124, 92, 110, 124, 92, 114, 40, 63, 33, 92, 110, 41, 41]⟩ 301, .int 32 340, .int 0 0, .none, .none, .ref 40, .int 0 0], #[]⟩),
  (56, ⟨.type "dict", none, .dict (([([33], 464, 54, 460), ([33, 61], 466, 28, 408), ([37], 468, 24, 400), ([37, 61], 470, 40, 432), ([38], 472, 19, 390), ([38, 61], 474, 41, 434), ([40], 476, 7, 366), ([41], 478, 8, 368), ([42], 480, 16, 384), ([42, 42], 482, 35, 422), ([42, 42, 61], 484, 46, 444), ([42, 61], 486, 38, 428), ([43], 488, 14, 380), ([43, 61], 490, 36, 424), ([44], 492, 12, 376), ([45], 494, 15, 382), ([45, 61], 496, 37, 426), ([45, 62], 498, 51, 454), ([46], 500, 23, 398), ([46, 46, 46], 502, 52, 456), ([47], 504, 17, 386), ([47, 47], 506, 47, 446), ([47, 47, 61], 508, 48, 448), ([47, 61], 510, 39, 430), ([58], 512, 11, 374), ([58, 61], 514, 53, 458), ([59], 516, 13, 378), ([60], 518, 20, 392), ([60, 60], 520, 33, 418), ([60, 60, 61], 522, 44, 440), ([60, 61], 524, 29, 410), ([61], 526, 22, 396), ([61, 61], 528, 27, 406), ([62], 530, 21, 394), ([62, 61], 532, 30, 412), ([62, 62], 533, 34, 420), ([62, 62, 61], 534, 45, 442), ([64], 535, 49, 450), ([64, 61], 536, 50, 452), ([91], 537, 9, 370), ([93], 538, 10, 372), ([94], 539, 32, 416), ([94, 61], 540, 43, 438), ([123], 541, 25, 402), ([124], 542, 18, 388), ([124, 61], 543, 42, 436), ([125], 544, 26, 404), ([126], 545, 31, 414)] : List (List Nat × Nat × Int × Nat)).map (ent P)).toArray 48, #[]⟩)]
noncomputable def KA : List Addr := [35, 36, 40, 41, 56]
noncomputable def Xt (s : Shared) : Bool := gtab.all fun p => decide (s.heap.nsMap mainGlobals p.1 = p.2)
theorem hd_row0 : ∀ w : World, hdAllF pw VP loose Xt KA (w.withFollow "special-get-raises" false) 2000 = some (openGood VP loose, (KP (w.withFollow "special-get-raises" false).params).map fun p => some p.2) := by
  intro w; kernel_rfl
theorem hd_row1 : ∀ w : World, hdAllF pw VP loose Xt KA (w.withFollow "special-get-raises" true) 2000 = some (openGood VP loose, (KP (w.withFollow "special-get-raises" true).params).map fun p => some p.2) := by
  intro w; kernel_rfl
theorem hd_left : LeftO pw VP loose Xt (fun s => KA.map fun a => s.heap.get? a) (fun w => (KP w.params).map fun p => some p.2) 2000 true := by
  refine LeftO.of_hd ?_
  rw [hdAll_eq]
  exact byRow2 "special-get-raises" (P := fun w => hdAllF pw VP loose Xt KA w 2000 = some (openGood VP loose, (KP w.params).map fun p => some p.2)) hd_row0 hd_row1
end Mine
end
section
open PySem PySem.W PyProof.Rows
namespace Mine
noncomputable def dDef : DefRec := ⟨Str.empty, ⟨[], [], none, [], [], none, []⟩, [], { kind := .function, names := [], isGenerator := false, isCoroutine := false, more := [] }, ⟨0, 0, 0, 0⟩⟩
noncomputable def dOf (p : Program) (n : Str) : DefRec := ((recsOf p).find? fun d => d.name == n).getD dDef
theorem dOf_mem {p : Program} {n : Str} (h : ((recsOf p).find? fun d => d.name == n).isSome = true) : dOf p n ∈ recsOf p := by
  unfold dOf
  cases e : (recsOf p).find? fun d => d.name == n with
  | none => rw [e] at h; cases h
  | some d => exact List.mem_of_find?_eq_some e
/-- the program's ground -/
structure Pg (w : World) (mg mb : Str → Option Value) (h : Heap) : Prop where
  T : ∃ lo mean, Top VP lo mean mg mb h
  K : (KP w.params).In h
  G : ∀ p ∈ gtab, mg p.1 = p.2
theorem mem_lookup : ∀ {l : List (Str × Option Value)} {x : Str} {v : Option Value}, l.lookup x = some v → (x, v) ∈ l
  | (y, u) :: r, x, v, e => by
    rw [List.lookup_cons] at e
    split at e
    · rename_i hb
      cases e
      rw [eq_of_beq hb]; exact List.mem_cons_self
    · exact List.mem_cons_of_mem _ (mem_lookup e)
section
variable {w : World} {mg mb : Str → Option Value} {h : Heap} (pg : Pg w mg mb h)
include pg
theorem Pg.up {h' : Heap} (k : Kp h h') : Pg w mg mb h' := ⟨let ⟨lo, mean, T⟩ := pg.T; ⟨lo, mean, T.keeps k⟩, fun a o e => k _ _ (pg.K a o e), pg.G⟩
theorem Pg.gl : Gl mg mb h := let ⟨lo, mean, T⟩ := pg.T; ⟨T.g, T.b, T.nolimit⟩
theorem Pg.fn {d : DefRec} (hd : d ∈ recsOf VP) : ∃ fa, FnAt h mg d.name d.params d.body d.scope fa :=
  let ⟨lo, mean, T⟩ := pg.T; let ⟨a, o, pm, cd, doc, h1, h2, h3, h4⟩ := T.fn d hd; ⟨a, h1, o, pm, cd, doc, h2, h3, h4⟩
theorem Pg.bl {x : Str} {v : Value} (e : bootBuiltins x = some v) (hx : x ≠ "__name__" := by decide) : mb x = some v := by
  obtain ⟨lo, mean, T⟩ := pg.T
  rw [T.builtins x hx]; exact e
theorem Pg.glob {x : Str} {v : Value} (e : gtab.lookup x = some (some v)) : mg x = some v := pg.G _ (mem_lookup e)
theorem Pg.free {x : Str} (e : gtab.lookup x = some none) : mg x = none := pg.G _ (mem_lookup e)
end
noncomputable abbrev dVar : DefRec := dOf VP "_parse_varint"
theorem mVar : dVar ∈ recsOf VP := dOf_mem (by decide +kernel)
theorem bindVar (v pm cd doc : Value) : bindArgs (Calls.docDef dVar.name dVar.params dVar.body dVar.scope pm cd doc) ⟨[v], []⟩ = pure [(Str.ofString "iterator", v)] := by kernel_rfl
theorem kVar {x : Str} {k : NameKind} (h : dVar.scope.names.lookup x = some k) {s0 : Shared} {env : Env} (fr : Fr1 s0 env dVar.scope) : env.kindOf x = some k := fr.kind x k h

theorem ns_mask {h : Heap} {I a : Addr} {m : Str → Option Value} (hI : ∃ o vs, h.get? I = some o ∧ o.data = .fields vs) (n : h.Ns a m) : (mask h [I]).Ns a m := n.at' fun o e => by
  rw [mask_out _ _ _ (fun hm => ?_)]
  · exact e
  · rcases List.mem_cons.mp hm with rfl | hm
    · obtain ⟨o1, vs, h1, h2⟩ := hI
      obtain ⟨o2, es, ep, h3, h4, _⟩ := n
      rw [h1] at h3; cases h3; rw [h2] at h4; cases h4
    · cases hm
theorem gl_mask {h : Heap} {I : Addr} {mg mb : Str → Option Value} (hI : ∃ o vs, h.get? I = some o ∧ o.data = .fields vs) (g : Gl mg mb h) : Gl mg mb (mask h [I]) :=
  ⟨ns_mask hI g.g, ns_mask hI g.b, let ⟨mc, h1, h2⟩ := g.nolimit; ⟨mc, ns_mask hI h1, h2⟩⟩
theorem mask_kp (h : Heap) (M : List Addr) : Kp (mask h M) h := fun b o e => by
  by_cases hm : b ∈ M
  · rw [mask_in _ _ _ hm] at e; cases e
  · rw [mask_out _ _ _ hm] at e; exact e

section
variable {prog : Program} {w : World} {A : Around} {X : List Addr} {mg mb : Str → Option Value} {s : Shared}

theorem varint1 {I l fa : Addr} {i : Nat} {ns : List Int} {V : Int} {R : List Int} {vs : List Value} {n : Nat} {Q : Value → Shared → Prop} {E : Value → Shared → Prop} (hd : A.depth < recursionLimit) (pg : Pg w mg mb s.heap)
    (F : FnAt s.heap mg dVar.name dVar.params dVar.body dVar.scope fa) (hX : XOk X s.heap) (hi : s.heap.IsListIter I l i) (hl : l ∉ X) (hg : s.heap.get? l = some (LO vs n)) (hr : Rds X s.heap vs (ns.map .int)) (hv : vread (ns.drop i) = some (V, R))
    (hQ : ∀ t s' j, SR s s' → (∀ b o, b ≠ I → s.heap.get? b = some o → s'.heap.get? b = some o) → s'.heap.IsListIter I l j → ns.drop j = R → Q (.int V t) s') :
    wpAny (model prog w) A (call (.ref fa) [.ref I]) Q E s := by
  refine enter_raw (σ := fun y => if y = Str.ofString "iterator" then some (.val (.ref I)) else none) hd hX pg.gl F (bindVar (.ref I)) (fun x hx => ?_) (fun x sl e => ?_) (fun env s1 E' fr st => ?_) (by kernel_rfl) (by kernel_rfl) (by kernel_rfl)
  · simp at hx; subst hx; exact .inl (by kernel_rfl)
  · by_cases hy : x = Str.ofString "iterator"
    · rw [if_pos hy] at e; cases e; subst hy
      refine ⟨(fun _ _ e => nomatch e), (fun _ _ _ _ e => nomatch e), .inl ⟨by kernel_rfl, .ref I, rfl, fun kf hkf => ?_⟩⟩
      have : kf (Str.ofString "iterator") = some .local := (hkf _ List.mem_cons_self).trans (by kernel_rfl)
      simp [bindL, this]
    · rw [if_neg hy] at e; cases e
  · obtain ⟨b0, rest0, hdr⟩ : ∃ b r, ns.drop i = b :: r := by
      cases e : ns.drop i with
      | nil => rw [e] at hv; cases hv
      | cons b r => exact ⟨b, r, rfl⟩
    have hns : ns[i]? = some b0 := by
      have := List.getElem?_drop (xs := ns) (i := i) (j := 0)
      rw [hdr] at this
      simpa using this.symm
    have hrest : ns.drop (i + 1) = rest0 := by
      rw [← List.drop_drop, hdr]; rfl
    have hI : ∃ o vs, s.heap.get? I = some o ∧ o.data = .fields vs := let ⟨o, h1, _, h2⟩ := hi; ⟨o, _, h1, h2⟩
    have kp := mask_kp s.heap [I]
    have hbI : (mask s.heap [I]).get? I = none := mask_in _ _ _ List.mem_cons_self
    have fm : Fm (mask s.heap [I]) env := ⟨fr.fm.eo, by
      cases e : (mask s.heap [I]).get? env.locals with
      | none => rfl
      | some o => rw [← kp _ _ e, fr.fm.nol]⟩
    have g : Gl mg mb (mask s.heap [I]) := gl_mask hI pg.gl
    have st3 := (st.base kp).to_iter (x := Str.ofString "iterator") (ns := ns) rfl (hi.at fun o e => st.kp _ o e) hl (st.kp _ _ hg) (hr.up st.kp) hbI (fun y I l i ns e => by
      by_cases hy : y = Str.ofString "iterator"
      · rw [if_pos hy] at e; cases e
      · rw [if_neg hy] at e; cases e)
    refine st_next fm g st3 rfl (by decide) hns (kVar (by kernel_rfl) fr) (pg.free (by kernel_rfl)) (pg.bl boot_next) (.inl (kVar (by kernel_rfl) fr)) fun s2 q2 => ?_
    refine st_assign fm q2 (.inl (kVar (by kernel_rfl) fr)) (ev_bin (ev_name fm.eo (q2.vd rfl)) ev_int and_ii) fun s3 q3 => ?_
    refine st_while (ι := { x : Nat × Int × Int // vloop (ns.drop x.1) x.2.1 x.2.2 = some (V, R) })
      (fun x y => if y = Str.ofString "iterator" then some (.iter I l x.1.1 ns) else if y = Str.ofString "b" then some (.d (.int x.1.2.1)) else if y = Str.ofString "val" then some (.d (.int x.1.2.2)) else none)
      (fun x => Builtin.bitAnd x.1.2.1 64 != 0) (fun x => (ns.drop x.1.1).length) (i0 := ⟨(i + 1, b0, Builtin.bitAnd b0 63), by rw [hrest]; rw [hdr] at hv; exact hv⟩) (Y := fun _ => X) (q3.weak fun x sl e => ?_) (fun x s4 q4 => ⟨q4.xok, ?_⟩) (fun x s4 E4 hc q4 => ?_) (fun x s4 hc q4 => ?_)
    · split at e
      · subst_vars; cases e; rfl
      · split at e
        · subst_vars; cases e; rfl
        · split at e
          · subst_vars; cases e; rfl
          · cases e
    · exact tr_plain (ev_bin (ev_name fm.eo (q4.vd rfl)) ev_int and_ii) tru_i
    · obtain ⟨⟨k, b, val⟩, hx⟩ := x
      dsimp only at hx hc q4 ⊢
      obtain ⟨c, r, hdr2, hval, hvl⟩ : ∃ c r, ns.drop k = c :: r ∧ val.natAbs < 2 ^ 64 ∧ vloop r c (Builtin.bitOr (val * 2 ^ (6 : Int).toNat) (Builtin.bitAnd c 63)) = some (V, R) := by
        cases e : ns.drop k with
        | nil => rw [e] at hx; unfold vloop at hx; rw [if_pos hc] at hx; cases hx
        | cons c r =>
          rw [e] at hx; unfold vloop at hx; rw [if_pos hc] at hx
          by_cases hv : val.natAbs < 2 ^ 64
          · rw [if_pos hv] at hx; exact ⟨c, r, rfl, hv, hx⟩
          · rw [if_neg hv] at hx; cases hx
      have hns2 : ns[k]? = some c := by
        have := List.getElem?_drop (xs := ns) (i := k) (j := 0)
        rw [hdr2] at this
        simpa using this.symm
      have hrest2 : ns.drop (k + 1) = r := by
        rw [← List.drop_drop, hdr2]; rfl
      refine st_aug fm q4 (.inl (kVar (by kernel_rfl) fr)) rfl ev_int (ishl_ii (by decide) (by decide) hval) fun s5 q5 => ?_
      refine st_next fm g q5 rfl (by decide) hns2 (kVar (by kernel_rfl) fr) (pg.free (by kernel_rfl)) (pg.bl boot_next) (.inl (kVar (by kernel_rfl) fr)) fun s6 q6 => ?_
      refine st_aug fm q6 (.inl (kVar (by kernel_rfl) fr)) rfl (ev_bin (ev_name fm.eo (q6.vd rfl)) ev_int and_ii) ior_ii fun s7 q7 => st_end ?_
      refine ⟨⟨(k + 1, c, Builtin.bitOr (val * 2 ^ (6 : Int).toNat) (Builtin.bitAnd c 63)), by rw [hrest2]; exact hvl⟩, ?_, q7.weak fun x sl e => ?_⟩
      · show (ns.drop (k + 1)).length < (ns.drop k).length
        rw [hrest2, hdr2]; exact Nat.lt_succ_self _
      · split at e
        · subst_vars; cases e; rfl
        · split at e
          · subst_vars; cases e; rfl
          · split at e
            · subst_vars; cases e; rfl
            · cases e
    · obtain ⟨⟨k, b, val⟩, hx⟩ := x
      dsimp only at hx hc q4 ⊢
      have he : val = V ∧ ns.drop k = R := by
        cases e : ns.drop k with
        | nil => rw [e] at hx; unfold vloop at hx; rw [if_neg (by rw [hc]; exact Bool.false_ne_true)] at hx; cases hx; exact ⟨rfl, rfl⟩
        | cons c r => rw [e] at hx; unfold vloop at hx; rw [if_neg (by rw [hc]; exact Bool.false_ne_true)] at hx; cases hx; exact ⟨rfl, rfl⟩
      refine st_ret q4 (ev_name fm.eo (q4.vd rfl)) fun v s5 k5 r5 => ?_
      obtain ⟨t, rfl⟩ := r5
      have q5 := q4.up k5
      obtain ⟨v, _, _, hit, _⟩ := q5.var (Str.ofString "iterator") _ rfl
      refine ⟨_, rfl, ?_⟩
      rw [he.1]
      refine hQ t s5 k q5.rest (fun b o hb e => q5.kp b o ?_) hit he.2
      rw [mask_out _ _ _ (by simpa using hb)]
      exact e

end
noncomputable abbrev dQuo : DefRec := dOf VP "quotedata"
theorem mQuo : dQuo ∈ recsOf VP := dOf_mem (by decide +kernel)
theorem bindQuo (v pm cd doc : Value) : bindArgs (Calls.docDef dQuo.name dQuo.params dQuo.body dQuo.scope pm cd doc) ⟨[v], []⟩ = pure [(Str.ofString "data", v)] := by kernel_rfl
noncomputable abbrev dEof : DefRec := dOf VP "ISEOF"
theorem mEof : dEof ∈ recsOf VP := dOf_mem (by decide +kernel)
theorem bindEof (v pm cd doc : Value) : bindArgs (Calls.docDef dEof.name dEof.params dEof.body dEof.scope pm cd doc) ⟨[v], []⟩ = pure [(Str.ofString "x", v)] := by kernel_rfl
noncomputable abbrev dNon : DefRec := dOf VP "ISNONTERMINAL"
theorem mNon : dNon ∈ recsOf VP := dOf_mem (by decide +kernel)
theorem bindNon (v pm cd doc : Value) : bindArgs (Calls.docDef dNon.name dNon.params dNon.body dNon.scope pm cd doc) ⟨[v], []⟩ = pure [(Str.ofString "x", v)] := by kernel_rfl
theorem crlf_str : gtab.lookup (Str.ofString "CRLF") = some (some (.str ⟨#[13, 10]⟩ 342)) := by kernel_rfl
section
variable {prog : Program} {w : World} {A : Around} {X : List Addr} {mg mb : Str → Option Value} {s : Shared} {h : Heap} {vs : List Value} {fa : Addr}

theorem quo {x : Str} (hd : A.depth < recursionLimit) (pg : Pg w mg mb h) (F : FnAt h mg dQuo.name dQuo.params dQuo.body dQuo.scope fa) (hz : x.cps.size ≤ 10000) (r : Rds X h vs [.str x]) :
    Gv prog w A h X (call (.ref fa) vs) (.str ⟨(quoted x.cps.toList).toArray⟩) := by
  refine enter1 hd pg.gl F r bindQuo (.inl (by kernel_rfl)) (fun env s0 s1 E' k fr q => ?_) (by kernel_rfl) (by kernel_rfl) (by kernel_rfl)
  have pg1 := (pg.up k).up q.kp
  have eo := fr.fm.eo
  have hl := crlf_len x.cps.toList
  have hxl : x.cps.toList.length = x.cps.size := Array.length_toList
  refine st_ret q (ev_dots eo (fr.kind _ _ (by kernel_rfl)) pg1.gl (pg1.glob (by kernel_rfl)) (pat_of (a := 36) pg1.K (by kernel_rfl)) ev_str (ev_crlf (x := x) eo (fr.kind _ _ (by kernel_rfl)) pg1.gl (pg1.glob (by kernel_rfl)) (pat_of (a := 41) pg1.K (by kernel_rfl)) (ev_glob eo (fr.kind _ _ (by kernel_rfl)) pg1.gl (pg1.glob crlf_str) ⟨_, rfl⟩) (ev_name eo (q.vd rfl)) (by omega)) (by show (crlf _).toArray.size ≤ _; rw [List.size_toArray]; omega)) fun v s2 k2 r2 => ⟨v, rfl, r2, (q.rest.kps q.kp).tr k2⟩
theorem eof {i : Int} (hd : A.depth < recursionLimit) (pg : Pg w mg mb h) (F : FnAt h mg dEof.name dEof.params dEof.body dEof.scope fa) (r : Rds X h vs [.int i]) :
    Gv prog w A h X (call (.ref fa) vs) (.bool (decide (i = 0))) := by
  refine enter1 hd pg.gl F r bindEof (.inl (by kernel_rfl)) (fun env s0 s1 E' k fr q => ?_) (by kernel_rfl) (by kernel_rfl) (by kernel_rfl)
  have pg1 := (pg.up k).up q.kp
  have eo := fr.fm.eo
  exact st_ret q (ev_cmp (ev_name eo (q.vd rfl)) (ev_glob (d := .int 0) eo (fr.kind _ _ (by kernel_rfl)) pg1.gl (pg1.glob (v := .int 0 364) (by kernel_rfl)) ⟨_, rfl⟩) eq_ii) fun v s2 k2 r2 => ⟨v, rfl, r2, (q.rest.kps q.kp).tr k2⟩
theorem non {i : Int} (hd : A.depth < recursionLimit) (pg : Pg w mg mb h) (F : FnAt h mg dNon.name dNon.params dNon.body dNon.scope fa) (r : Rds X h vs [.int i]) :
    Gv prog w A h X (call (.ref fa) vs) (.bool (decide (i ≥ 256))) := by
  refine enter1 hd pg.gl F r bindNon (.inl (by kernel_rfl)) (fun env s0 s1 E' k fr q => ?_) (by kernel_rfl) (by kernel_rfl) (by kernel_rfl)
  have pg1 := (pg.up k).up q.kp
  have eo := fr.fm.eo
  exact st_ret q (ev_cmp (ev_name eo (q.vd rfl)) (ev_glob (d := .int 256) eo (fr.kind _ _ (by kernel_rfl)) pg1.gl (pg1.glob (v := .int 256 462) (by kernel_rfl)) ⟨_, rfl⟩) ge_ii) fun v s2 k2 r2 => ⟨v, rfl, r2, (q.rest.kps q.kp).tr k2⟩
end
noncomputable abbrev dTol : DefRec := dOf VP "_law_told"
theorem mTol : dTol ∈ recsOf VP := dOf_mem (by decide +kernel)
theorem bindTol (v pm cd doc : Value) : bindArgs (Calls.docDef dTol.name dTol.params dTol.body dTol.scope pm cd doc) ⟨[v], []⟩ = pure [(Str.ofString "mail", v)] := by kernel_rfl
section
variable {prog : Program} {w : World} {A : Around} {X : List Addr} {mg mb : Str → Option Value} {s : Shared} {h : Heap} {vs : List Value} {fa : Addr}
noncomputable def dPos : Pos := ⟨0, 0, 0, 0⟩
noncomputable def toldN (x : Str) : List Int := x.cps.toList.map (fun (c : Nat) => (c : Int)) ++ [0]
noncomputable def toldTail (b : List Stmt) : List Stmt := match b.getD 5 (.Pass dPos) with
  | .While _ body _ _ => body.drop 1
  | _ => []
noncomputable def toldL (I l a : Addr) (ns : List Int) (x : Nat × Nat × Int × List Int × Int × Int × List D) : List (Str × Sl) :=
  [(Str.ofString "tape", .iter I l x.2.1 ns), (Str.ofString "rows", .own a x.2.2.2.2.2.2), (Str.ofString "dots", .d (.int x.2.2.2.2.1)), (Str.ofString "name", .d (.int x.2.2.2.2.2.1)), (Str.ofString "number", .d (.int x.2.2.1))]
theorem told {x : Str} {ds : List D} (hd : A.depth + 2 < recursionLimit) (hA : A.handled = none) (pg : Pg w mg mb h) (F : FnAt h mg dTol.name dTol.params dTol.body dTol.scope fa) (hz : x.cps.size ≤ 10000) (ht : tell x.cps.toList = some ds) (r : Rds X h vs [.str x]) :
    Gv prog w A h X (call (.ref fa) vs) (.lst ds) := by
  obtain ⟨x0, hx0⟩ : ∃ x0, x0 = x := ⟨x, rfl⟩
  refine enter1 (by omega) pg.gl F r bindTol (.inl (by kernel_rfl)) (fun env s0 s1 E' k fr q => ?_) (by kernel_rfl) (by kernel_rfl) (by kernel_rfl)
  have pg1 := (pg.up k).up q.kp
  have fm := fr.fm
  have eo := fr.fm.eo
  have hsl : sizeLine = 16777216 := by decide
  have hdep : (A.deeper env).depth + 1 < recursionLimit := hd
  obtain ⟨V0, R0, hv0, ht0⟩ : ∃ V R, vread ((toldN x0).drop 0) = some (V, R) ∧ tellGo (x.cps.toList.length + 2) V R 0 0 [] = some ds := by
    subst hx0
    unfold tell at ht
    split at ht
    · cases ht
    · exact ⟨_, _, by assumption, ht⟩
  refine st_iter (ns := toldN x0) fm (pg.up k).gl q (fr.kind _ _ (by kernel_rfl)) (pg1.free (by kernel_rfl)) (pg1.bl boot_iter) (.inl (fr.kind _ _ (by kernel_rfl))) ?_ (fun y I l i ns e => ?_) fun s2 I l q2 => ?_
  · rw [hx0]
    refine ev_bin (d1 := .lst ((x.cps.toList.map fun (c : Nat) => D.str ⟨#[c]⟩).map fun d => match d with | .str y => .int ((y.cps.toList.headD 0 : Nat) : Int) | _ => .none)) (d2 := .lst [.int 0]) (ev_compn (fun d => match d with | .str y => .int ((y.cps.toList.headD 0 : Nat) : Int) | _ => .none) [] hA eo (fun n d e => nomatch e) (gi_str (ev_name eo (q.vd rfl))) (by rw [List.length_map]; have : x.cps.toList.length = x.cps.size := Array.length_toList; omega) (.inl (by kernel_rfl)) rfl (fun cenv h' X' d hd eo' kn kp hx _ => ?_) (fc (by rfl)) (ff (by rfl))) (ev_list (gs_cons ev_int gs_nil) (by decide)) ?_
    · obtain ⟨c, _, rfl⟩ := List.mem_map.mp hd
      exact ev_bf eo' (kn.gl rfl) (pg1.gl.up kp) (pg1.free (by kernel_rfl)) (pg1.bl boot_ord) (gs_cons (ev_name eo' hx) gs_nil) ord_c
    · have e2 : toldN x = (x.cps.toList.map (fun (c : Nat) => (c : Int))) ++ [0] := rfl
      rw [e2, List.map_append, List.map_map, List.map_map]
      refine add_ll ?_
      rw [List.length_map]
      have : x.cps.toList.length = x.cps.size := Array.length_toList
      show x.cps.toList.length + 1 ≤ _
      omega
  · unfold args1 at e; split at e <;> cases e
  · refine st_own fm q2 (.inl (fr.kind _ _ (by kernel_rfl))) fun a s3 ha hba q3 => ?_
    refine st_assign fm q3 (.inl (fr.kind _ _ (by kernel_rfl))) ev_int fun s4 q4 => ?_
    refine st_assign fm q4 (.inl (fr.kind _ _ (by kernel_rfl))) ev_int fun s5 q5 => ?_
    obtain ⟨fv, FV⟩ := (pg.up k).fn mVar
    obtain ⟨oV, pmV, cdV, docV, hoV, hdV, _⟩ := FV.obj
    refine st_read (R := R0) (V := V0) fm (pg.up k).gl q5 rfl (fr.kind _ _ (by kernel_rfl)) FV.glob hoV hdV (.inl (fr.kind _ _ (by kernel_rfl))) (fun s vs n Q E hk hX hit hl hg hr hQ => varint1 (by omega) ((pg.up k).up hk) (FV.up hk) hX hit hl hg hr hv0 hQ) fun s6 j6 hj6 q6 => ?_
    refine st_while (ι := { x : Nat × Nat × Int × List Int × Int × Int × List D // tellGo x.1 x.2.2.1 x.2.2.2.1 x.2.2.2.2.1 x.2.2.2.2.2.1 x.2.2.2.2.2.2 = some ds ∧ (toldN x0).drop x.2.1 = x.2.2.2.1 ∧ x.2.2.2.2.2.2.length + x.1 ≤ 20000 })
      (fun z => sgl (toldL I l a _ z.1)) (fun z => !decide (z.1.2.2.1 = 0)) (fun z => z.1.1) (i0 := ⟨(x.cps.toList.length + 2, j6, V0, R0, 0, 0, []), ht0, hj6, by have : x.cps.toList.length = x.cps.size := Array.length_toList; show 0 + (x.cps.toList.length + 2) ≤ _; omega⟩) (Y := fun _ => a :: X) (q6.toL _ ⟨rfl, rfl, rfl, rfl, rfl, trivial⟩) (fun z s7 q7 => ⟨q7.xok, ?_⟩) (fun z s7 E7 hc q7 => ?_) (fun z s7 hc q7 => ?_)
    · have pg7 := (pg.up k).up q7.kp
      obtain ⟨fe, FE⟩ := pg7.fn mEof
      obtain ⟨oE, pmE, cdE, docE, hoE, hdE, _⟩ := FE.obj
      exact tr_not (tr_plain (ev_fn eo (fr.kind _ _ (by kernel_rfl)) pg7.gl FE.glob hoE hdE (gs_cons (ev_name eo (q7.vd rfl)) gs_nil) (fun h' vs kp r => eof (by omega) (pg7.up kp) (FE.up kp) r)) tru_b)
    · obtain ⟨⟨f, j, V, R, dots, name, acc⟩, hgo, hj, hlen⟩ := z
      dsimp only at hgo hj hlen hc q7 ⊢
      have hV : V ≠ 0 := by simpa using hc
      obtain ⟨f', V', R', rfl, hv', hgo'⟩ : ∃ f' V' R', f = f' + 1 ∧ vread R = some (V', R') ∧ (if 256 ≤ V then tellGo f' V' R' dots V acc else if V = 46 then tellGo f' V' R' (dots + 1) name acc else tellGo f' V' R' 0 name (acc ++ [.tup [.int dots, .int name]])) = some ds := by
        cases f with
        | zero => cases hgo
        | succ f =>
          unfold tellGo at hgo
          rw [if_neg hV] at hgo
          cases hr : vread R with
          | none => rw [hr] at hgo; cases hgo
          | some p => obtain ⟨V', R'⟩ := p; rw [hr] at hgo; exact ⟨f, V', R', rfl, rfl, hgo⟩
      have pg7 := (pg.up k).up q7.kp
      obtain ⟨fn, FN⟩ := pg7.fn mNon
      obtain ⟨oN, pmN, cdN, docN, hoN, hdN, _⟩ := FN.obj
      have step : ∀ (dots name : Int) (acc : List D) (s8 : Shared), tellGo f' V' R' dots name acc = some ds → acc.length + f' ≤ 20000 → St s0 s0.heap env (a :: X) (sgl (toldL I l a (toldN x0) (f' + 1, j, V, R, dots, name, acc))) s8 → wpAny (model prog w) (A.deeper env) (execs (toldTail dTol.body) env)
          (fun fl s2 => match fl with | .next | .cont => ∃ z : { x : Nat × Nat × Int × List Int × Int × Int × List D // tellGo x.1 x.2.2.1 x.2.2.2.1 x.2.2.2.2.1 x.2.2.2.2.2.1 x.2.2.2.2.2.2 = some ds ∧ (toldN x0).drop x.2.1 = x.2.2.2.1 ∧ x.2.2.2.2.2.2.length + x.1 ≤ 20000 }, z.1.1 < f' + 1 ∧ St s0 s0.heap env (a :: X) (sgl (toldL I l a (toldN x0) z.1)) s2 | _ => False) E7 s8 := by
        intro dots name acc s8 hg8 hl8 q8
        refine st_read (R := R') (V := V') fm (pg.up k).gl q8 rfl (fr.kind _ _ (by kernel_rfl)) FV.glob hoV hdV (.inl (fr.kind _ _ (by kernel_rfl))) (fun s vs n Q E hk hX hit hl hg hr hQ => varint1 (by omega) ((pg.up k).up hk) (FV.up hk) hX hit hl hg hr (by rw [hj]; exact hv') hQ) fun s9 j9 hj9 q9 => ?_
        exact st_end ⟨⟨(f', j9, V', R', dots, name, acc), hg8, hj9, hl8⟩, Nat.lt_succ_self _, q9.toL _ ⟨rfl, rfl, rfl, rfl, rfl, trivial⟩⟩
      refine st_if q7 q7.xok (tr_plain (ev_fn eo (fr.kind _ _ (by kernel_rfl)) pg7.gl FN.glob hoN hdN (gs_cons (ev_name eo (q7.vd rfl)) gs_nil) (fun h' vs kp r => non (by omega) (pg7.up kp) (FN.up kp) r)) tru_b) (fun hb s8 q8 => ?_) (fun hb s8 q8 => ?_)
      · rw [if_pos (by simpa using hb)] at hgo'
        refine st_assign fm q8 (.inl (fr.kind _ _ (by kernel_rfl))) (ev_name eo (q8.vd rfl)) fun s9 q9 => st_end ?_
        exact step dots V acc s9 hgo' (by omega) (q9.toL _ ⟨rfl, rfl, rfl, rfl, rfl, trivial⟩)
      · rw [if_neg (by simpa using hb)] at hgo'
        refine st_if q8 q8.xok (tr_cmp (ev_name eo (q8.vd rfl)) ev_int eq_ii) (fun hb2 s9 q9 => ?_) (fun hb2 s9 q9 => ?_)
        · rw [if_pos (by simpa using hb2)] at hgo'
          refine st_aug fm q9 (.inl (fr.kind _ _ (by kernel_rfl))) rfl ev_int iadd_ii fun s10 q10 => st_end (st_end ?_)
          exact step (dots + 1) name acc s10 hgo' (by omega) (q10.toL _ ⟨rfl, rfl, rfl, rfl, rfl, trivial⟩)
        · rw [if_neg (by simpa using hb2)] at hgo'
          refine st_append fm q9 rfl (ev_tuple (gs_cons (ev_name eo (q9.vd rfl)) (gs_cons (ev_name eo (q9.vd rfl)) gs_nil)) (by rw [hsl]; exact Nat.le_of_ble_eq_true rfl)) (by show acc.length ≤ _; omega) fun s10 q10 => ?_
          refine st_assign fm q10 (.inl (fr.kind _ _ (by kernel_rfl))) ev_int fun s11 q11 => st_end (st_end ?_)
          exact step 0 name (acc ++ [.tup [.int dots, .int name]]) s11 hgo' (by rw [List.length_append, List.length_singleton]; omega) (q11.toL _ ⟨rfl, rfl, rfl, rfl, rfl, trivial⟩)
    · obtain ⟨⟨f, j, V, R, dots, name, acc⟩, hgo, hj, hlen⟩ := z
      dsimp only at hgo hj hlen hc q7 ⊢
      have hV : V = 0 := by simpa using hc
      have hacc : acc = ds := by
        cases f with
        | zero => cases hgo
        | succ f => unfold tellGo at hgo; rw [if_pos hV] at hgo; cases hgo; rfl
      have q8 := q7.disown (x := Str.ofString "rows") (X' := X) rfl (fun b hb => List.mem_cons_of_mem _ hb) ha (fun y b es hy e => by
        have := sgl_mem e
        simp [toldL] at this
        exact absurd this.1 hy)
      rw [hacc] at q8
      exact st_ret q8 (ev_name eo (q8.vd rfl)) fun v s9 k9 r9 => ⟨v, rfl, r9, (q8.rest.kps q8.kp).tr k9⟩
end
end Mine
end
section
open PySem PySem.W PyProof.Rows PySem.SeqAt
namespace Mine
section
variable {prog : Program} {w : World} {A : Around} {env : Env} {X : List Addr} {mg mb : Str → Option Value} {s : Shared} {h : Heap}
/-- a call of a def of the text -/
theorem ev_def {d : DefRec} {f : Str} {np pos : Pos} {e : Expr} {rest : List Expr} {ds : List D} {r : D} (pg : Pg w mg mb h) (hd : d ∈ recsOf VP) (hf : d.name = f) (eo : EnvOk env) (hx : env.kindOf f = some .globalImplicit)
    (ha : Gs prog w A h X (spliced (backTo pos (starEach (e :: rest) env))) ds)
    (hc : ∀ h' vs fa, Pg w mg mb h' → FnAt h' mg d.name d.params d.body d.scope fa → Rds X h' vs ds → Gv prog w A h' X (call (.ref fa) vs) r)
    (hs : starEach (e :: rest) env = (false, eval e env) :: starEach rest env := by rfl) (hdb : (f == ("__debug__" : Str)) = false := by decide) :
    Gv prog w A h X (eval (.Call (.Name f np) (e :: rest) [] pos) env) r := by
  obtain ⟨fa, F⟩ := pg.fn hd
  obtain ⟨o, pm, cd, doc, ho, hdt, _⟩ := F.obj
  exact ev_fn eo hx pg.gl (hf ▸ F.glob) ho hdt ha (fun h' vs kp r => hc h' vs fa (pg.up kp) (F.up kp) r) hs hdb
end
theorem ints_get {ns : List Int} {k : Nat} (h : k < ns.length) : (ns.map D.int)[k]? = some (.int (ns.getD k 0)) := by
  rw [List.getElem?_map, List.getD_eq_getElem?_getD, List.getElem?_eq_getElem h]; rfl

noncomputable abbrev dMer : DefRec := dOf VP "_law_merged"
theorem mMer : dMer ∈ recsOf VP := dOf_mem (by decide +kernel)
theorem bindMer (v u pm cd doc : Value) : bindArgs (Calls.docDef dMer.name dMer.params dMer.body dMer.scope pm cd doc) ⟨[v, u], []⟩ = pure [(Str.ofString "signs", v), (Str.ofString "k", u)] := by kernel_rfl
section
variable {prog : Program} {w : World} {A : Around} {X : List Addr} {mg mb : Str → Option Value} {s : Shared} {h : Heap} {vs : List Value} {fa : Addr}
theorem mer {ss : List Int} {k : Nat} (ao : AOk A 0) (pg : Pg w mg mb h) (F : FnAt h mg dMer.name dMer.params dMer.body dMer.scope fa) (hk : k + 1 < ss.length) (hz : ss.length ≤ 1000) (r : Rds X h vs [.lst (ss.map .int), .int k]) :
    Gv prog w A h X (call (.ref fa) vs) (.lst ((mergedL ss k).map .int)) := by
  refine enter2 ao.d pg.gl F r bindMer (by decide) (.inl (by kernel_rfl)) (.inl (by kernel_rfl)) (fun env s0 s1 E' kp fr q => ?_) (by kernel_rfl) (by kernel_rfl) (by kernel_rfl)
  have eo := fr.fm.eo
  have hsl := sizeLine_val
  have hl : (ss.map D.int).length = ss.length := List.length_map ..
  have c1 := cut_len (ss.map D.int) none (some (k : Int))
  have c2 := cut_len (ss.map D.int) (some ((k : Int) + 2)) none
  have e : cut (ss.map D.int) none (some (k : Int)) ++ [D.int (-(ss.getD k 0))] ++ cut (ss.map D.int) (some ((k : Int) + 2)) none = (mergedL ss k).map .int := by
    rw [show (k : Int) + 2 = ((k + 2 : Nat) : Int) by omega, cut_take, cut_drop, mergedL]
    simp
  refine st_ret (d := .lst ((mergedL ss k).map .int)) q (e ▸ ev_bin (ev_bin (ev_slice (ev_name eo (q.vd rfl)) gp_none (gp_some (ev_name eo (q.vd rfl))) (by omega)) (ev_list (gs_cons (ev_un (ev_item (ev_name eo (q.vd rfl)) (ev_name eo (q.vd rfl)) (get_li (by omega) (by omega) (ints_get (by simp; omega)))) neg_i) gs_nil) (by simp; omega)) (add_ll (by simp; omega))) (ev_slice (ev_name eo (q.vd rfl)) (gp_some (ev_bin (ev_name eo (q.vd rfl)) ev_int add_ii)) gp_none (by omega)) (add_ll (by simp; omega))) fun v s2 k2 r2 => ⟨v, rfl, r2, (q.rest.kps q.kp).tr k2⟩
end
noncomputable abbrev dFit : DefRec := dOf VP "_law_fits"
theorem mFit : dFit ∈ recsOf VP := dOf_mem (by decide +kernel)
theorem bindFit (v u pm cd doc : Value) : bindArgs (Calls.docDef dFit.name dFit.params dFit.body dFit.scope pm cd doc) ⟨[v, u], []⟩ = pure [(Str.ofString "signs", v), (Str.ofString "k", u)] := by kernel_rfl
theorem mergedL_len {ss : List Int} {k : Nat} (h : k + 1 < ss.length) : (mergedL ss k).length + 1 = ss.length := by
  unfold mergedL
  simp; omega
section
variable {prog : Program} {w : World} {A : Around} {X : List Addr} {mg mb : Str → Option Value} {s : Shared} {h : Heap} {vs : List Value} {fa : Addr}
noncomputable def jOf : D → Nat
  | .int j => j.toNat
  | _ => 0
theorem fit {ss : List Int} {k : Nat} (ao : AOk A 2) (pg : Pg w mg mb h) (F : FnAt h mg dFit.name dFit.params dFit.body dFit.scope fa) (hk : k + 1 < ss.length) (hz : ss.length ≤ 1000) (r : Rds X h vs [.lst (ss.map .int), .int k]) :
    Gv prog w A h X (call (.ref fa) vs) (.bool (fitsB ss k)) := by
  refine enter2 ao.d pg.gl F r bindFit (by decide) (.inl (by kernel_rfl)) (.inl (by kernel_rfl)) (fun env s0 s1 E' kp fr q => ?_) (by kernel_rfl) (by kernel_rfl) (by kernel_rfl)
  have eo := fr.fm.eo
  have hsl := sizeLine_val
  have ao1 : AOk (A.deeper env) 1 := ao.deeper
  have pg1 := (pg.up kp).up q.kp
  have hm := mergedL_len hk
  refine st_if q q.xok (tr_cmp (ev_item (ev_name eo (q.vd rfl)) (ev_name eo (q.vd rfl)) (get_li (by omega) (by omega) (ints_get (by simp; omega)))) (ev_item (ev_name eo (q.vd rfl)) (ev_bin (ev_name eo (q.vd rfl)) ev_int add_ii) (get_li (by omega) (by omega) (ints_get (k := ((k : Int) + 1).toNat) (by omega)))) ne_ii) (fun hb s3 q3 => ?_) (fun hb s3 q3 => ?_)
  · refine st_ret (d := .bool (fitsB ss k)) q3 ((ev_bool (b := false)).cast (congrArg D.bool ?_)) fun v s2 k2 r2 => ⟨v, rfl, r2, (q3.rest.kps q3.kp).tr k2⟩
    unfold fitsB
    rw [if_pos (by simpa using hb)]
  · refine st_end ?_
    refine st_assign fr.fm q3 (fr.sto _ (.inr (by kernel_rfl))) (ev_def ((pg.up kp).up q3.kp) mMer (by kernel_rfl) eo (fr.kind _ _ (by kernel_rfl)) (gs_cons (ev_name eo (q3.vd rfl)) (gs_cons (ev_name eo (q3.vd rfl)) gs_nil)) fun h' vs fa pg' F' r' => mer (ao1.less (by omega)) pg' F' hk hz r') fun s4 q4 => ?_
    have pg4 := (pg.up kp).up q4.kp
    have hlen : (((mergedL ss k).map D.int).length : Int) = ((mergedL ss k).length : Int) := by rw [List.length_map]
    refine st_ret (d := .bool (fitsB ss k)) q4 ((ev_or2 (ev_cmp (ev_bf eo (fr.kind _ _ (by kernel_rfl)) pg4.gl (pg4.free (by kernel_rfl)) (pg4.bl boot_len) (gs_cons (ev_name eo (q4.vd rfl)) gs_nil) (len_l (by simp; omega))) ev_int eq_ii) (fun _ => ev_cmp ev_bool (ev_compn (x := Str.ofString "j") (fun d => .bool ((mergedL ss k).getD (jOf d) 0 == (mergedL ss k).getD (jOf d + 1) 0)) [(Str.ofString "after", .lst ((mergedL ss k).map .int))] ao1.hA eo (fun n d e => ?_) (gi_range1 eo (fr.kind _ _ (by kernel_rfl)) pg4.gl (pg4.free (by kernel_rfl)) (pg4.bl boot_range) (ev_bin (ev_bf eo (fr.kind _ _ (by kernel_rfl)) pg4.gl (pg4.free (by kernel_rfl)) (pg4.bl boot_len) (gs_cons (ev_name eo (q4.vd rfl)) gs_nil) (len_l (by simp; omega))) ev_int sub_ii) (by simp; omega) (by simp; omega)) (by simp; omega) (.inl (by kernel_rfl)) rfl (fun cenv h' X' d hd eo' kn kp' hx hfv => ?_) (fc (by rfl)) (ff (by rfl))) (in_l rfl ?_ ?_))).cast (congrArg D.bool ?_)) fun v s2 k2 r2 => ⟨v, rfl, r2, (q4.rest.kps q4.kp).tr k2⟩
    · exact fv_one (q4.vd rfl) (kc (fr.kind _ _ (by kernel_rfl))) n d e
    · obtain ⟨i, hi, rfl⟩ := List.mem_map.mp hd
      have hi := List.mem_range.mp hi
      have hi' : i + 1 < (mergedL ss k).length := by simp at hi; omega
      exact ev_cmp (ev_item (ev_name eo' (hfv _ _ rfl)) (ev_name eo' hx) (get_li (by omega) (by omega) (ints_get (by simp; omega)))) (ev_item (ev_name eo' (hfv _ _ rfl)) (ev_bin (ev_name eo' hx) ev_int add_ii) (get_li (by omega) (by omega) (ints_get (k := ((i : Int) + 1).toNat) (by omega)))) eq_ii
    · exact (layAll (k := 0) fun d hd => by obtain ⟨i, _, rfl⟩ := List.mem_map.mp hd; exact lay_bool).1
    · have := (layAll (k := 0) (ds := ((List.range (((((mergedL ss k).map D.int).length : Int) - 1)).toNat).map fun i => D.int (i : Nat)).map fun d => .bool ((mergedL ss k).getD (jOf d) 0 == (mergedL ss k).getD (jOf d + 1) 0)) fun d hd => by obtain ⟨i, _, rfl⟩ := List.mem_map.mp hd; exact lay_bool).2
      have := ao1.hu
      unfold cLine
      omega
    · rw [List.map_map, Function.comp_def, any_bools]
      unfold fitsB adj
      rw [if_neg (by simpa using hb)]
      congr 1
      · rw [List.length_map]
        by_cases q : (mergedL ss k).length = 1
        · rw [q]; rfl
        · rw [beq_eq_false_iff_ne.mpr q, beq_eq_false_iff_ne.mpr (by omega)]
      · rw [List.length_map, show (((mergedL ss k).length : Int) - 1).toNat = (mergedL ss k).length - 1 by omega]
        rfl

end
theorem rowP_inj {a b : Int × Int} (h : rowP a = rowP b) : a = b := by
  obtain ⟨a1, a2⟩ := a
  obtain ⟨b1, b2⟩ := b
  simp only [rowP, D.tup.injEq, List.cons.injEq, D.int.injEq, and_true] at h
  rw [h.1, h.2]
noncomputable abbrev dSig : DefRec := dOf VP "_law_signs"
theorem mSig : dSig ∈ recsOf VP := dOf_mem (by decide +kernel)
theorem bindSig (v u pm cd doc : Value) : bindArgs (Calls.docDef dSig.name dSig.params dSig.body dSig.scope pm cd doc) ⟨[v, u], []⟩ = pure [(Str.ofString "value", v), (Str.ofString "rows", u)] := by kernel_rfl
section
variable {prog : Program} {w : World} {A : Around} {X : List Addr} {mg mb : Str → Option Value} {s : Shared} {h : Heap} {vs : List Value} {fa : Addr}
theorem sig {value : Int} {rows : List (Int × Int)} (ao : AOk A 0) (pg : Pg w mg mb h) (F : FnAt h mg dSig.name dSig.params dSig.body dSig.scope fa) (hz : rows.length ≤ 1000) (r : Rds X h vs [.int value, .lst (rows.map rowP)]) :
    Gv prog w A h X (call (.ref fa) vs) (.lst (((sgnGo (rows.reverse.map Prod.snd) value []).1 ++ [(sgnGo (rows.reverse.map Prod.snd) value []).2]).map .int)) := by
  refine enter2 ao.d pg.gl F r bindSig (by decide) (.inl (by kernel_rfl)) (.inl (by kernel_rfl)) (fun env s0 s1 E' kp fr q => ?_) (by kernel_rfl) (by kernel_rfl) (by kernel_rfl)
  have eo := fr.fm.eo
  have hsl := sizeLine_val
  have hl : (rows.map rowP).reverse.length = rows.length := by simp
  refine st_assign fr.fm q (.inl (fr.kind _ _ (by kernel_rfl))) (ev_name eo (q.vd rfl)) fun s2 q2 => ?_
  refine st_assign fr.fm q2 (.inl (fr.kind _ _ (by kernel_rfl))) (ev_list gs_nil (by decide)) fun s3 q3 => ?_
  refine st_for (items := (rows.map rowP).reverse) (τ := fun i => sgl [(Str.ofString "rest", .d (.int (sgnAt (rows.reverse.map Prod.snd) value i).1)), (Str.ofString "signs", .d (.lst ((sgnAt (rows.reverse.map Prod.snd) value i).2.map .int)))])
    (τ1 := fun i => tau2 (sgl [(Str.ofString "rest", .d (.int (sgnAt (rows.reverse.map Prod.snd) value i).1)), (Str.ofString "signs", .d (.lst ((sgnAt (rows.reverse.map Prod.snd) value i).2.map .int)))]) (Str.ofString "dots") (Str.ofString "name")) (O := []) (Rt := fun _ => False)
    ao.hA fr.fm (q3.toL _ ⟨rfl, rfl, trivial⟩) (fun i => sgl_own trivial) (fun _ h => nomatch h) (fun i => sgl_ni rfl) (gi_list (ev_rev (ev_name eo (q3.vd rfl)) (gp_some (ev_un ev_int neg_i)) (by simp; omega)))
    (fun hb' i d v s I E'' R hd q r hI => ?_) (fun hb' i d s E'' R hd q => ?_) (fun s4 q4 => ?_) (fun _ _ _ h => h.elim)
  · obtain ⟨p, hp, rfl⟩ := List.mem_map.mp (List.mem_reverse.mp (List.mem_of_getElem? hd))
    exact asg_pair ao.hA R.fm (R.sto _ (.inl (fr.kind _ _ (by kernel_rfl)))) (R.sto _ (.inl (fr.kind _ _ (by kernel_rfl)))) q r hI
  · have hi : i < rows.length := by
      have := (List.getElem?_eq_some_iff.mp hd).1
      omega
    obtain ⟨p, hp, rfl⟩ := List.mem_map.mp (List.mem_reverse.mp (List.mem_of_getElem? hd))
    have hp2 : (rows.reverse.map Prod.snd)[i]? = some p.2 := by
      rw [← List.map_reverse, List.getElem?_map] at hd
      rw [List.getElem?_map]
      cases e : rows.reverse[i]? with
      | none => rw [e] at hd; cases hd
      | some u => rw [e] at hd; exact congrArg (fun x => some (Prod.snd x)) (rowP_inj (Option.some.inj hd))
    have hln := sgnAt_len (rows.reverse.map Prod.snd) value i (by simp; omega)
    refine st_assign (d := .lst ((sgnAt (rows.reverse.map Prod.snd) value (i + 1)).2.map .int)) R.fm q (R.sto _ (.inl (fr.kind _ _ (by kernel_rfl)))) (Gv.cast (ev_bin (ev_list (gs_cons (d := .int (if (sgnAt (rows.reverse.map Prod.snd) value i).1 > 0 then 1 else -1)) (ev_if (tr_cmp (ev_name eo (q.vd rfl)) ev_int gt_ii) (fun hc => ev_int.cast (by rw [if_pos (of_decide_eq_true hc)])) (fun hc => (ev_un ev_int neg_i).cast (by rw [if_neg (of_decide_eq_false hc)]))) gs_nil) sz1) (ev_name eo (q.vd rfl)) (add_ll (by rw [List.length_map, hln, hsl]; show 1 + i ≤ _; omega))) (by rw [sgnAt_succ hp2]; rfl)) fun s5 q5 => ?_
    refine st_aug (d := .int (sgnAt (rows.reverse.map Prod.snd) value (i + 1)).1) R.fm q5 (R.sto _ (.inl (fr.kind _ _ (by kernel_rfl)))) rfl (ev_bin (ev_item (d := .int (if (sgnAt (rows.reverse.map Prod.snd) value i).1 > 0 then 1 else -1)) (ev_name eo (q5.vd rfl)) ev_int (get_li (by decide) (by decide) (by rw [sgnAt_succ hp2]; rfl))) (ev_name eo (q5.vd rfl)) (mul_ii (mul_small (by split <;> decide) (by split <;> decide)))) (by rw [sgnAt_succ hp2]; exact isub_ii) fun s6 q6 => st_end ?_
    exact q6.toL _ ⟨rfl, rfl, trivial⟩
  · have e : sgnAt (rows.reverse.map Prod.snd) value (rows.map rowP).reverse.length = ((sgnGo (rows.reverse.map Prod.snd) value []).2, (sgnGo (rows.reverse.map Prod.snd) value []).1) := by
      rw [sgnGo_fold _ (value, []), hl, sgnAt, List.take_of_length_le (by simp)]
    rw [e] at q4
    refine st_ret (d := .lst (((sgnGo (rows.reverse.map Prod.snd) value []).1 ++ [(sgnGo (rows.reverse.map Prod.snd) value []).2]).map .int)) q4 (Gv.cast (ev_bin (ev_name eo (q4.vd rfl)) (ev_list (gs_cons (ev_name eo (q4.vd rfl)) gs_nil) sz1) (add_ll ?_)) (by rw [List.map_append]; rfl)) fun v s2 k2 r2 => ⟨v, rfl, r2, (q4.rest.kps q4.kp).tr k2⟩
    have := sgnAt_len (rows.reverse.map Prod.snd) value rows.length (by simp)
    rw [hl] at e
    rw [e] at this
    rw [List.length_map, this, hsl]
    show rows.length + 1 ≤ _
    omega
end
end Mine
end
section
open PySem PySem.W PyProof.Rows PySem.SeqAt
namespace Mine
/-- the table of the tokens -/
noncomputable def ettO (P : Params) : Obj := ((KP P).lookup 56).getD { cls := .type "dict", data := .dict #[] }
noncomputable def ettE (P : Params) : Array DictEntry := match (ettO P).data with
  | .dict es _ => es
  | _ => #[]
theorem ett_lit (P : Params) : KeysLit P (ettE P).toList := by
  unfold ettE ettO
  have h : ∀ (l : List (List Nat × Nat × Int × Nat)), KeysLit P (l.map (ent P)) := fun l => by
    induction l with
    | nil => exact trivial
    | cons e l ih => exact ⟨⟨_, _, rfl, rfl⟩, ih⟩
  exact h _
section
variable {prog : Program} {w : World} {A : Around} {X : List Addr} {mg mb : Str → Option Value} {s : Shared} {h : Heap} {vs : List Value} {fa : Addr} {env : Env}
theorem ett (pg : Pg w mg mb h) : h.MapOf (strKind prog w) 56 (fun k => findBy Value.isStrOf (ettE w.params) k) := mapOf_K (es := ettE w.params) (n := 48) pg.K (by kernel_rfl) (ett_lit _)
theorem ett40 (P : Params) : findBy Value.isStrOf (ettE P) ⟨#[40]⟩ = some (.int 7 366) := by kernel_rfl
theorem ett41 (P : Params) : findBy Value.isStrOf (ettE P) ⟨#[41]⟩ = some (.int 8 368) := by kernel_rfl
theorem ett43 (P : Params) : findBy Value.isStrOf (ettE P) ⟨#[43]⟩ = some (.int 14 380) := by kernel_rfl
theorem ett45 (P : Params) : findBy Value.isStrOf (ettE P) ⟨#[45]⟩ = some (.int 15 382) := by kernel_rfl
theorem ett_abc (P : Params) {j : Nat} (h : j < 6) : findBy Value.isStrOf (ettE P) ⟨#[97 + j]⟩ = none := by
  match j, h with
  | 0, _ => kernel_rfl
  | 1, _ => kernel_rfl
  | 2, _ => kernel_rfl
  | 3, _ => kernel_rfl
  | 4, _ => kernel_rfl
  | 5, _ => kernel_rfl
end
theorem rows_get {rows : List (Int × Int)} {j : Nat} {v : Int} (h : (rows.map Prod.snd)[j]? = some v) : ∃ d, (rows.map rowP)[j]? = some (.tup [.int d, .int v]) := by
  rw [List.getElem?_map] at h
  cases e : rows[j]? with
  | none => rw [e] at h; cases h
  | some p =>
    rw [e] at h
    have h : p.2 = v := Option.some.inj h
    refine ⟨p.1, ?_⟩
    rw [List.getElem?_map, e, ← h]; rfl
section
variable {prog : Program} {w : World} {A : Around} {X : List Addr} {mg mb : Str → Option Value} {s : Shared} {h : Heap} {vs : List Value} {fa : Addr} {env : Env}
theorem sym_ev {p1 p2 p3 p4 p5 p6 p7 p8 p9 p10 p11 p12 p13 p14 p15 : Pos} {k1 k2 : Nat} {rows : List (Int × Int)} {c : Nat} {st : Int × Int × List Int} (eo : EnvOk env) (kd : env.kindOf (Str.ofString "EXACT_TOKEN_TYPES") = some .globalImplicit) (pg : Pg w mg mb h)
    (v1 : Var env h X (Str.ofString "sign") (.str ⟨#[c]⟩)) (v2 : Var env h X (Str.ofString "rows") (.lst (rows.map rowP))) (ok : okV (rows.map Prod.snd) st c) (hline : (p9.endLine == p11.line) = true) :
    Gv prog w A h X (eval (.IfExp (.Compare (.Name (Str.ofString "sign") p1) [.In] [.Name (Str.ofString "EXACT_TOKEN_TYPES") p2] p3) (.Subscript (.Name (Str.ofString "EXACT_TOKEN_TYPES") p4) (.Name (Str.ofString "sign") p5) p6)
      (.Subscript (.Subscript (.Name (Str.ofString "rows") p7) (.Call (.Attribute (.Constant (.str abc) k1 p8) (Str.ofString "index") p9) [.Name (Str.ofString "sign") p10] [] p11) p12) (.Constant (.int 1) k2 p13) p14) p15) env) (.int (symV (rows.map Prod.snd) c)) := by
  have hin := fun wh => tr_in_dict (prog := prog) (A := A) (wh := wh) (np := p2) (pos := p3) (x := ⟨#[c]⟩) eo kd pg.gl (pg.glob (v := .ref 56) (by kernel_rfl)) (ett pg) (by decide) (ev_name (pos := p1) eo v1) (by rfl)
  have yes : ∀ {i : Int} {t : Nat}, findBy Value.isStrOf (ettE w.params) ⟨#[c]⟩ = some (.int i t) → symV (rows.map Prod.snd) c = i → _ := fun {i t} e e2 => ev_if (pos := p15) (b := .Subscript (.Name (Str.ofString "EXACT_TOKEN_TYPES") p4) (.Name (Str.ofString "sign") p5) p6) (o := (.Subscript (.Subscript (.Name (Str.ofString "rows") p7) (.Call (.Attribute (.Constant (.str abc) k1 p8) (Str.ofString "index") p9) [.Name (Str.ofString "sign") p10] [] p11) p12) (.Constant (.int 1) k2 p13) p14)) (d := .int (symV (rows.map Prod.snd) c)) (hin _) (fun _ => (ev_get_dict (d := .int i) eo kd pg.gl (pg.glob (v := .ref 56) (by kernel_rfl)) (ett pg) (ev_name eo v1) e ⟨t, rfl⟩).cast (congrArg D.int e2.symm)) (fun hb => by rw [e] at hb; cases hb)
  rcases ok with rfl | ⟨rfl, _⟩ | ⟨rfl, _⟩ | ⟨j, v, hj, rfl, hv, _, _⟩
  · exact yes (ett40 _) rfl
  · exact yes (ett41 _) rfl
  · exact yes (ett45 _) rfl
  · refine ev_if (hin _) (fun hb => by rw [ett_abc _ hj] at hb; cases hb) (fun _ => ?_)
    obtain ⟨d, hd⟩ := rows_get hv
    refine Gv.cast (ev_item (ev_item (ev_name eo v2) (ev_index ev_str (ev_name eo v1) (abc_index hj) (by rfl) (by rfl) hline) (get_li (by omega) (by omega) (by rw [Int.toNat_natCast]; exact hd))) ev_int (get_ti (d := .int v) (by decide) (by decide) rfl)) (congrArg D.int ?_)
    unfold symV
    rw [if_neg (by omega), if_neg (by omega), if_neg (by omega), show 97 + j - 97 = j by omega, List.getD_eq_getElem?_getD, hv]; rfl
end
noncomputable abbrev dVal : DefRec := dOf VP "_law_value"
theorem mVal : dVal ∈ recsOf VP := dOf_mem (by decide +kernel)
theorem bindVal (v u pm cd doc : Value) : bindArgs (Calls.docDef dVal.name dVal.params dVal.body dVal.scope pm cd doc) ⟨[v, u], []⟩ = pure [(Str.ofString "writing", v), (Str.ofString "rows", u)] := by kernel_rfl
noncomputable def valL (a : Addr) (rows : List (Int × Int)) (s : Int × Int × List Int) : List (Str × Sl) :=
  [(Str.ofString "total", .d (.int s.1)), (Str.ofString "turn", .d (.int s.2.1)), (Str.ofString "pile", .own a (s.2.2.reverse.map .int)), (Str.ofString "rows", .d (.lst (rows.map rowP)))]
section
variable {prog : Program} {w : World} {A : Around} {X : List Addr} {mg mb : Str → Option Value} {s : Shared} {h : Heap} {vs : List Value} {fa : Addr}
theorem val {wr : List Nat} {rows : List (Int × Int)} {v : Int} (ao : AOk A 1) (pg : Pg w mg mb h) (F : FnAt h mg dVal.name dVal.params dVal.body dVal.scope fa) (hv : valGo (rows.map Prod.snd) wr 0 1 [] = some v) (hz : wr.length ≤ 1000) (r : Rds X h vs [.str ⟨wr.toArray⟩, .lst (rows.map rowP)]) :
    Gv prog w A h X (call (.ref fa) vs) (.int v) := by
  refine enter2 ao.d pg.gl F r bindVal (by decide) (.inl (by kernel_rfl)) (.inl (by kernel_rfl)) (fun env s0 s1 E' kp fr q => ?_) (by kernel_rfl) (by kernel_rfl) (by kernel_rfl)
  have eo := fr.fm.eo
  have hsl := sizeLine_val
  have ao1 : AOk (A.deeper env) 0 := ao.deeper
  refine st_assign fr.fm q (.inl (fr.kind _ _ (by kernel_rfl))) ev_int fun s2 q2 => ?_
  refine st_assign fr.fm q2 (.inl (fr.kind _ _ (by kernel_rfl))) ev_int fun s3 q3 => ?_
  refine st_own fr.fm q3 (.inl (fr.kind _ _ (by kernel_rfl))) fun a s4 ha hba q4 => ?_
  refine st_for (items := wr.toArray.toList.map fun c => D.str ⟨#[c]⟩) (τ := fun i => sgl (valL a rows (atV (rows.map Prod.snd) wr i))) (τ1 := fun i d => upd (sgl (valL a rows (atV (rows.map Prod.snd) wr i))) (Str.ofString "sign") (.d d)) (O := [a]) (Rt := fun _ => False)
    ao.hA fr.fm (q4.toL _ ⟨rfl, rfl, rfl, rfl, trivial⟩) (fun i => sgl_own ⟨List.mem_cons_self, trivial⟩) (fun b hb => by rw [List.mem_singleton.mp hb]; exact List.mem_cons_self) (fun i => sgl_ni rfl) (gi_str (x := ⟨wr.toArray⟩) (ev_name eo (q4.vd rfl)))
    (fun hb' i d v s I E'' R hd q r hI => asg_name R.fm (R.sto _ (.inl (fr.kind _ _ (by kernel_rfl)))) q r) (fun hb' i d s5 E'' R hd q5 => ?_) (fun s6 q6 => ?_) (fun _ _ _ h => h.elim)
  · obtain ⟨c, hc, rfl⟩ : ∃ c, wr[i]? = some c ∧ d = .str ⟨#[c]⟩ := by
      rw [List.getElem?_map] at hd
      cases e : wr[i]? with
      | none => rw [show wr.toArray.toList = wr from rfl, e] at hd; cases hd
      | some c => rw [show wr.toArray.toList = wr from rfl, e] at hd; cases hd; exact ⟨c, rfl, rfl⟩
    have ok := atV_ok hv hc
    have hi := (List.getElem?_eq_some_iff.mp hc).1
    have hln := atV_len (rows.map Prod.snd) wr i (by omega)
    have hsucc := atV_succ (a := rows.map Prod.snd) hc
    have fin : ∀ s', St s0 hb' env (a :: X) (sgl (valL a rows (stV (rows.map Prod.snd) (atV (rows.map Prod.snd) wr i) c))) s' → St s0 hb' env (a :: X) (sgl (valL a rows (atV (rows.map Prod.snd) wr (i + 1)))) s' := fun s' q' => by rw [hsucc]; exact q'
    clear hsucc
    generalize atV (rows.map Prod.snd) wr i = st at ok hln fin q5
    obtain ⟨total, turn, P⟩ := st
    have pg5 := (pg.up kp).up (R.kp.trans q5.kp)
    refine st_assign R.fm q5 (R.sto _ (.inl (fr.kind _ _ (by kernel_rfl)))) (sym_ev eo (fr.kind _ _ (by kernel_rfl)) pg5 (q5.vd rfl) (q5.vd rfl) ok (by rfl)) fun s6 q6 => ?_
    have pg6 := (pg.up kp).up (R.kp.trans q6.kp)
    refine st_if q6 q6.xok (tr_plain (ev_def pg6 mNon (by kernel_rfl) eo (fr.kind _ _ (by kernel_rfl)) (gs_cons (ev_name eo (q6.vd rfl)) gs_nil) (fun h' vs fa pg' F' r' => non ao1.d pg' F' r')) tru_b) (fun hb s7 q7 => ?_) (fun hb s7 q7 => ?_)
    · rcases ok with rfl | ⟨rfl, _⟩ | ⟨rfl, _⟩ | ⟨j, v, hj, rfl, hv, h1, h2⟩
      · simp [symV] at hb
      · simp [symV] at hb
      · simp [symV] at hb
      · have e : symV (rows.map Prod.snd) (97 + j) = v := by
          unfold symV
          rw [if_neg (by omega), if_neg (by omega), if_neg (by omega), show 97 + j - 97 = j by omega, List.getD_eq_getElem?_getD, hv]; rfl
        have e2 : stV (rows.map Prod.snd) (total, turn, P) (97 + j) = (total + turn * v, turn, P) := by
          unfold stV
          rw [if_neg (by omega), if_neg (by omega), if_neg (by omega), show 97 + j - 97 = j by omega, List.getD_eq_getElem?_getD, hv]; rfl
        rw [e] at q7
        rw [e2] at fin
        refine st_aug R.fm q7 (R.sto _ (.inl (fr.kind _ _ (by kernel_rfl)))) rfl (ev_bin (ev_name eo (q7.vd rfl)) (ev_name eo (q7.vd rfl)) (mul_ii (mul_small_r (by omega) (by omega)))) iadd_ii fun s8 q8 => st_end (st_end (fin _ ?_))
        exact q8.toL _ ⟨rfl, rfl, rfl, rfl, trivial⟩
    · refine st_if q7 q7.xok (tr_cmp (ev_name eo (q7.vd rfl)) ev_int eq_ii) (fun hb2 s8 q8 => ?_) (fun hb2 s8 q8 => ?_)
      · rcases ok with rfl | ⟨rfl, _⟩ | ⟨rfl, p, P', hP⟩ | ⟨j, v, hj, rfl, hv, h1, h2⟩
        · simp [symV] at hb2
        · simp [symV] at hb2
        · dsimp only at hP
          subst hP
          have hr : ((p :: P').reverse.map D.int) = P'.reverse.map D.int ++ [D.int p] := by rw [List.reverse_cons, List.map_append]; rfl
          refine st_assign0 (d := .int (-p)) R.fm q8 (R.sto _ (.inl (fr.kind _ _ (by kernel_rfl)))) (ev_un (ev_item (d1 := .lst (P'.reverse.map D.int ++ [D.int p])) (by rw [← hr]; exact ev_name eo (q8.vo rfl)) (ev_un ev_int neg_i) (get_last (by simp at hln ⊢; omega))) neg_i) trivial fun s9 q9 => st_end (st_end (st_end (fin _ ?_)))
          exact q9.toL _ ⟨rfl, rfl, rfl, rfl, trivial⟩
        · exfalso
          have e : symV (rows.map Prod.snd) (97 + j) = v := by
            unfold symV
            rw [if_neg (by omega), if_neg (by omega), if_neg (by omega), show 97 + j - 97 = j by omega, List.getD_eq_getElem?_getD, hv]; rfl
          rw [e] at hb
          simp at hb; omega
      · refine st_if q8 q8.xok (tr_cmp (ev_name eo (q8.vd rfl)) ev_int eq_ii) (fun hb3 s9 q9 => ?_) (fun hb3 s9 q9 => ?_)
        · rcases ok with rfl | ⟨rfl, _⟩ | ⟨rfl, p, P', hP⟩ | ⟨j, v, hj, rfl, hv, h1, h2⟩
          · have hr : ((turn :: P).reverse.map D.int) = P.reverse.map D.int ++ [D.int turn] := by rw [List.reverse_cons, List.map_append]; rfl
            refine st_append R.fm q9 rfl (ev_name eo (q9.vd rfl)) (by simp at hln ⊢; omega) fun s10 q10 => st_end (st_end (st_end (st_end (fin _ ?_))))
            rw [← hr] at q10
            exact q10.toL _ ⟨rfl, rfl, rfl, rfl, trivial⟩
          · simp [symV] at hb3
          · simp [symV] at hb3
          · exfalso
            have e : symV (rows.map Prod.snd) (97 + j) = v := by
              unfold symV
              rw [if_neg (by omega), if_neg (by omega), if_neg (by omega), show 97 + j - 97 = j by omega, List.getD_eq_getElem?_getD, hv]; rfl
            rw [e] at hb
            simp at hb; omega
        · rcases ok with rfl | ⟨rfl, p, P', hP⟩ | ⟨rfl, p, P', hP⟩ | ⟨j, v, hj, rfl, hv, h1, h2⟩
          · simp [symV] at hb3
          · dsimp only at hP
            subst hP
            have hr : ((p :: P').reverse.map D.int) = P'.reverse.map D.int ++ [D.int p] := by rw [List.reverse_cons, List.map_append]; rfl
            have hx : upd (sgl (valL a rows (total, turn, p :: P'))) (Str.ofString "sign") (.d (.str ⟨#[41]⟩)) (Str.ofString "pile") = some (.own a (P'.reverse.map D.int ++ [D.int p])) := by rw [← hr]; rfl
            refine st_pop_drop R.fm q9 (ds := P'.reverse.map D.int) (d := .int p) (a := a) (by rw [← hr]; rfl) trivial (by simp at hln ⊢; omega) fun s10 q10 => st_end (st_end (st_end (st_end (fin _ ?_))))
            exact q10.toL _ ⟨rfl, rfl, rfl, rfl, trivial⟩
          · simp [symV] at hb2
          · exfalso
            have e : symV (rows.map Prod.snd) (97 + j) = v := by
              unfold symV
              rw [if_neg (by omega), if_neg (by omega), if_neg (by omega), show 97 + j - 97 = j by omega, List.getD_eq_getElem?_getD, hv]; rfl
            rw [e] at hb
            simp at hb; omega
  · have e : (atV (rows.map Prod.snd) wr (wr.toArray.toList.map fun c => D.str ⟨#[c]⟩).length).1 = v := by
      rw [List.length_map]
      exact atV_end hv
    refine st_ret (d := .int v) q6 ((ev_name eo (q6.vd rfl)).cast (congrArg D.int e)) fun v' s7 k7 r7 => ⟨v', rfl, Rd.flat (by trivial) r7, (q6.rest.kps q6.kp).tr k7⟩
end
end Mine
end
section
open PySem PySem.W PyProof.Rows PySem.SeqAt
namespace Mine
noncomputable abbrev dWri : DefRec := dOf VP "_law_writing"
theorem mWri : dWri ∈ recsOf VP := dOf_mem (by decide +kernel)
theorem bindWri (v pm cd doc : Value) : bindArgs (Calls.docDef dWri.name dWri.params dWri.body dWri.scope pm cd doc) ⟨[v], []⟩ = pure [(Str.ofString "rows", v)] := by kernel_rfl
noncomputable def wriL (a : Addr) (rows : List (Int × Int)) (P : List (Int × List Nat)) : List (Str × Sl) :=
  [(Str.ofString "pile", .own a (P.reverse.map pairD)), (Str.ofString "rows", .d (.lst (rows.map rowP)))]
noncomputable def canJ (z : Int × List Nat × List (Int × List Nat)) : Bool := match z.2.2 with
  | [] => false
  | p :: _ => z.1 == p.1
section
variable {prog : Program} {w : World} {A : Around} {X : List Addr} {mg mb : Str → Option Value} {s : Shared} {h : Heap} {vs : List Value} {fa : Addr}
theorem wri {rows : List (Int × Int)} (ao : AOk A 1) (pg : Pg w mg mb h) (F : FnAt h mg dWri.name dWri.params dWri.body dWri.scope fa) (hz : rows.length ≤ 6) (r : Rds X h vs [.lst (rows.map rowP)]) :
    Gv prog w A h X (call (.ref fa) vs) (.lst ((procW (wrRows rows) []).reverse.map pairD)) := by
  refine enter1 ao.d pg.gl F r bindWri (.inl (by kernel_rfl)) (fun env s0 s1 E' kp fr q => ?_) (by kernel_rfl) (by kernel_rfl) (by kernel_rfl)
  have eo := fr.fm.eo
  have hsl := sizeLine_val
  have ao1 : AOk (A.deeper env) 0 := ao.deeper
  refine st_own fr.fm q (.inl (fr.kind _ _ (by kernel_rfl))) fun a s4 ha hba q4 => ?_
  have pg4 := (pg.up kp).up q4.kp
  refine st_for (items := (List.range (((rows.map rowP).length : Nat) : Int).toNat).map fun i => D.int (i : Nat)) (τ := fun i => sgl (wriL a rows (pileAt rows i))) (τ1 := fun i d => upd (sgl (wriL a rows (pileAt rows i))) (Str.ofString "i") (.d d)) (O := [a]) (Rt := fun _ => False)
    ao.hA fr.fm (q4.toL _ ⟨rfl, rfl, trivial⟩) (fun i => sgl_own ⟨List.mem_cons_self, trivial⟩) (fun b hb => by rw [List.mem_singleton.mp hb]; exact List.mem_cons_self) (fun i => sgl_ni rfl) (gi_range1 eo (fr.kind _ _ (by kernel_rfl)) pg4.gl (pg4.free (by kernel_rfl)) (pg4.bl boot_range) (ev_bf eo (fr.kind _ _ (by kernel_rfl)) pg4.gl (pg4.free (by kernel_rfl)) (pg4.bl boot_len) (gs_cons (ev_name eo (q4.vd rfl)) gs_nil) (len_l (by simp <;> omega))) (by simp <;> omega) (by simp <;> omega))
    (fun hb' i d v s I E'' R hd q r hI => asg_name R.fm (R.sto _ (.inl (fr.kind _ _ (by kernel_rfl)))) q r) (fun hb' i d s5 E'' R hd q5 => ?_) (fun s6 q6 => ?_) (fun _ _ _ h => h.elim)
  · have hl : (((rows.map rowP).length : Nat) : Int).toNat = rows.length := by simp
    have hi : i < rows.length := by
      have := (List.getElem?_eq_some_iff.mp hd).1
      rw [List.length_map, List.length_range, hl] at this; exact this
    obtain rfl : d = .int (i : Nat) := by
      rw [hl, List.getElem?_map, List.getElem?_range hi] at hd
      exact (Option.some.inj hd).symm
    have hps := pileAt_psz (rows := rows) (i := i) (by omega)
    have hpl := psz_len (pileAt rows i)
    have fin : ∀ s', St s0 hb' env (a :: X) (sgl (wriL a rows (push (rows.getD i (0, 0)).1 [97 + i] (pileAt rows i)))) s' → St s0 hb' env (a :: X) (sgl (wriL a rows (pileAt rows (i + 1)))) s' := fun s' q' => by rw [pileAt_succ hi]; exact q'
    have hrow : (rows.map rowP)[((i : Nat) : Int).toNat]? = some (.tup [.int (rows.getD i (0, 0)).1, .int (rows.getD i (0, 0)).2]) := by
      rw [Int.toNat_natCast, List.getElem?_map, List.getD_eq_getElem?_getD, List.getElem?_eq_getElem hi]; rfl
    generalize (rows.getD i (0, 0)).1 = d0 at fin hrow
    generalize pileAt rows i = P at fin hps hpl q5
    refine st_append (d := pairD (d0, [97 + i])) R.fm q5 rfl (ev_tuple (gs_cons (ev_item (ev_item (ev_name eo (q5.vd rfl)) (ev_name eo (q5.vd rfl)) (get_li (by omega) (by omega) hrow)) ev_int (get_ti (d := .int d0) (by decide) (by decide) rfl)) (gs_cons (ev_item ev_str (ev_name eo (q5.vd rfl)) (get_si (by omega) (by omega) (abc_get (by omega)))) gs_nil)) sz2) (by simp <;> omega) fun s6 q6 => ?_
    have hr : ∀ (p : Int × List Nat) (P : List (Int × List Nat)), (p :: P).reverse.map pairD = P.reverse.map pairD ++ [pairD p] := fun p P => by rw [List.reverse_cons, List.map_append]; rfl
    rw [← hr] at q6
    refine st_while (ι := { z : Int × List Nat × List (Int × List Nat) // push z.1 z.2.1 z.2.2 = push d0 [97 + i] P ∧ psz ((z.1, z.2.1) :: z.2.2) ≤ 100 })
      (fun z => sgl (wriL a rows ((z.1.1, z.1.2.1) :: z.1.2.2))) (fun z => canJ z.1) (fun z => z.1.2.2.length) (i0 := ⟨(d0, [97 + i], P), rfl, by simp only [psz, List.length_cons, List.length_nil]; omega⟩) (Y := fun _ => []) (q6.toL _ ⟨rfl, rfl, trivial⟩) (fun z s7 q7 => ⟨XOk.nil, ?_⟩) (fun z s7 E7 hc q7 => ?_) (fun z s7 hc q7 => ?_)
    · obtain ⟨⟨d, x, P'⟩, hz1, hz2⟩ := z
      have pg7 := (pg.up kp).up (R.kp.trans q7.kp)
      cases P' with
      | nil =>
        refine (tr_and (b := false) (tr_cmp (ev_bf eo (fr.kind _ _ (by kernel_rfl)) pg7.gl (pg7.free (by kernel_rfl)) (pg7.bl boot_len) (gs_cons (ev_name eo (q7.vo rfl)) gs_nil) (len_l (by simp <;> omega))) ev_int gt_ii) (fun hb => ?_)).cast ?_
        · simp at hb
        · simp [canJ]
      | cons p P'' =>
        obtain ⟨b, y⟩ := p
        have hv : Var env s7.heap [] (Str.ofString "pile") (.lst (P''.reverse.map pairD ++ [pairD (b, y)] ++ [pairD (d, x)])) := by
          have := q7.vo (x := Str.ofString "pile") rfl
          rw [← hr, ← hr]; exact this
        have hl2 := psz_len ((d, x) :: (b, y) :: P'')
        dsimp only at hz2
        simp only [List.length_cons] at hl2
        refine (tr_and (tr_cmp (ev_bf eo (fr.kind _ _ (by kernel_rfl)) pg7.gl (pg7.free (by kernel_rfl)) (pg7.bl boot_len) (gs_cons (ev_name eo hv) gs_nil) (len_l (by simp <;> omega))) ev_int gt_ii) (fun _ => tr_and (tr_cmp (ev_item (ev_item (ev_name eo hv) (ev_un ev_int neg_i) (get_last (by simp <;> omega))) ev_int (get_ti (d := .int d) (by decide) (by decide) rfl)) (ev_item (ev_item (ev_name eo hv) (ev_un ev_int neg_i) (get_last2 (by simp <;> omega))) ev_int (get_ti (d := .int b) (by decide) (by decide) rfl)) eq_ii) (fun _ => tr_and_nil))).cast ?_
        rw [Bool.and_true]
        show (decide _ && (d == b)) = (d == b)
        rw [decide_eq_true (by simp <;> omega), Bool.true_and]
    · obtain ⟨⟨d, x, P'⟩, hz1, hz2⟩ := z
      dsimp only at hz1 hz2 hc q7 ⊢
      cases P' with
      | nil => cases hc
      | cons p P'' =>
        obtain ⟨b, y⟩ := p
        obtain rfl : d = b := eq_of_beq hc
        have hl2 := psz_len ((d, x) :: (d, y) :: P'')
        simp only [List.length_cons] at hl2
        have hxy : x.length + y.length ≤ 100 := by simp only [psz] at hz2; omega
        refine st_pop_two (ds := ((d, y) :: P'').reverse.map pairD) (d1 := .int d) (d2 := .str (so x)) (a := a) ao.hA R.fm q7 (by show _ = some (Sl.own a (_ ++ [pairD (d, x)])); rw [← hr]; rfl) (by simp <;> omega) (R.sto _ (.inl (fr.kind _ _ (by kernel_rfl)))) (R.sto _ (.inl (fr.kind _ _ (by kernel_rfl)))) fun s8 q8 => ?_
        refine st_pop_two (ds := P''.reverse.map pairD) (d1 := .int d) (d2 := .str (so y)) (a := a) ao.hA R.fm q8 (by show _ = some (Sl.own a (_ ++ [pairD (d, y)])); rw [← hr]; rfl) (by simp <;> omega) (R.sto _ (.inl (fr.kind _ _ (by kernel_rfl)))) (R.sto _ (.inl (fr.kind _ _ (by kernel_rfl)))) fun s9 q9 => ?_
        refine st_append (d := pairD (d - 1, join2 y x)) R.fm q9 rfl (ev_tuple (gs_cons (ev_bin (ev_name eo (q9.vd rfl)) ev_int sub_ii) (gs_cons (ev_bin (ev_bin (ev_bin (ev_bin (ev_so (l := [40, 45]) (by kernel_rfl)) (ev_name eo (q9.vd rfl)) (add_so ?_)) (ev_so (l := [45]) (by kernel_rfl)) (add_so ?_)) (ev_name eo (q9.vd rfl)) (add_so ?_)) (ev_so (l := [41]) (by kernel_rfl)) (add_so ?_)) gs_nil)) sz2) (by simp <;> omega) fun s10 q10 => st_end ⟨⟨(d - 1, join2 y x, P''), ?_, ?_⟩, ?_, ?_⟩
        · simp only [List.length_append, List.length_cons, List.length_nil]; omega
        · simp only [List.length_append, List.length_cons, List.length_nil]; omega
        · simp only [List.length_append, List.length_cons, List.length_nil]; omega
        · simp only [List.length_append, List.length_cons, List.length_nil]; omega
        · rw [← hz1]
          show _ = push d x ((d, y) :: P'')
          rw [push, if_pos rfl]
        · simp only [psz, join2, List.length_append, List.length_cons, List.length_nil] at hz2 ⊢; omega
        · exact Nat.lt_succ_self _
        · rw [← hr] at q10
          exact q10.toL _ ⟨rfl, rfl, trivial⟩
    · obtain ⟨⟨d, x, P'⟩, hz1, hz2⟩ := z
      dsimp only at hz1 hz2 hc q7 ⊢
      have e : push d0 [97 + i] P = (d, x) :: P' := by
        rw [← hz1]
        cases P' with
        | nil => rfl
        | cons p P'' =>
          obtain ⟨b, y⟩ := p
          have : d ≠ b := fun e => by subst e; simp [canJ] at hc
          rw [push, if_neg this]
      exact st_end (fin _ (by rw [e]; exact q7.toL _ ⟨rfl, rfl, trivial⟩))
  · have e : pileAt rows ((List.range (((rows.map rowP).length : Nat) : Int).toNat).map fun i => D.int (i : Nat)).length = procW (wrRows rows) [] := by
      rw [List.length_map, List.length_range, show (((rows.map rowP).length : Nat) : Int).toNat = rows.length by simp, pileAt_end]
    rw [e] at q6
    have q8 := q6.disown (x := Str.ofString "pile") (X' := X) rfl (fun b hb => List.mem_cons_of_mem _ hb) ha (fun y b es hy e => by
      have := sgl_mem e
      simp [wriL] at this
      exact absurd this.1 hy)
    exact st_ret (d := .lst ((procW (wrRows rows) []).reverse.map pairD)) q8 (ev_name eo (q8.vd rfl)) fun v s9 k9 r9 => ⟨v, rfl, r9, (q8.rest.kps q8.kp).tr k9⟩
end
end Mine
end
section
open PySem PySem.W PyProof.Rows PySem.SeqAt
namespace Mine
noncomputable abbrev dJoi : DefRec := dOf VP "_law_joined"
theorem mJoi : dJoi ∈ recsOf VP := dOf_mem (by decide +kernel)
theorem bindJoi (v u pm cd doc : Value) : bindArgs (Calls.docDef dJoi.name dJoi.params dJoi.body dJoi.scope pm cd doc) ⟨[v, u], []⟩ = pure [(Str.ofString "parts", v), (Str.ofString "picks", u)] := by kernel_rfl
noncomputable def T.D (W : Nat → Nat) (t : T) : D := .tup [.str (so (t.mail W)), .str (so t.wr)]
theorem lvs_ge : ∀ {ts : List T} {t : T}, t ∈ ts → (t.dl 1).length ≤ (lvs ts).length := fun {ts t} h => by
  have : (t.dl 1).length = ((t.dl 0).map Prod.snd).length := by rw [← lv_d t 1, List.length_map]
  rw [this]
  unfold lvs
  induction ts with
  | nil => cases h
  | cons a r ih =>
    rw [List.flatMap_cons, List.length_append]
    rcases List.mem_cons.mp h with rfl | h
    · omega
    · have := ih h; omega
theorem wr_le {t : T} {n : Nat} (h : (t.dl 1).length ≤ n) : t.wr.length ≤ 5 * n := by have := wr_len t 1; omega
section
variable {prog : Program} {w : World} {A : Around} {X : List Addr} {mg mb : Str → Option Value} {s : Shared} {h : Heap} {vs : List Value} {fa : Addr}
theorem ts_get {W : Nat → Nat} {ts : List T} {k : Nat} (h : k < ts.length) : (ts.map (T.D W))[k]? = some (.tup [.str (so ((ts.getD k (.leaf 0)).mail W)), .str (so (ts.getD k (.leaf 0)).wr)]) := by
  rw [List.getElem?_map, List.getD_eq_getElem?_getD, List.getElem?_eq_getElem h]; rfl
theorem joi {W : Nat → Nat} {ts : List T} {ps : List Int} {t : T} (ao : AOk A 2) (pg : Pg w mg mb h) (F : FnAt h mg dJoi.name dJoi.params dJoi.body dJoi.scope fa) (hW : ∀ i, W i < 4096) (hz : (lvs ts).length ≤ 6) (hzt : ts.length ≤ 6) (hps : ps.length < ts.length) (ht : joinT ts ps = [t])
    (r : Rds X h vs [.lst (ts.map (T.D W)), .lst (ps.map .int)]) : Gv prog w A h X (call (.ref fa) vs) (t.D W) := by
  refine enter2 ao.d pg.gl F r bindJoi (by decide) (.inl (by kernel_rfl)) (.inl (by kernel_rfl)) (fun env s0 s1 E' kp fr q => ?_) (by kernel_rfl) (by kernel_rfl) (by kernel_rfl)
  have eo := fr.fm.eo
  have hsl := sizeLine_val
  have ao1 : AOk (A.deeper env) 1 := ao.deeper
  refine st_assign fr.fm q (.inl (fr.kind _ _ (by kernel_rfl))) (ev_name eo (q.vd rfl)) fun s2 q2 => ?_
  refine st_for (items := ps.map .int) (τ := fun i => sgl [(Str.ofString "left", .d (.lst ((joinT ts (ps.take i)).map (T.D W))))]) (τ1 := fun i d => upd (sgl [(Str.ofString "left", .d (.lst ((joinT ts (ps.take i)).map (T.D W))))]) (Str.ofString "pick") (.d d)) (O := []) (Rt := fun _ => False)
    ao.hA fr.fm (q2.toL _ ⟨rfl, trivial⟩) (fun i => sgl_own trivial) (fun _ h => nomatch h) (fun i => sgl_ni rfl) (gi_list (ev_name eo (q2.vd rfl)))
    (fun hb' i d v s I E'' R hd q r hI => asg_name R.fm (R.sto _ (.inl (fr.kind _ _ (by kernel_rfl)))) q r) (fun hb' i d s5 E'' R hd q5 => ?_) (fun s6 q6 => ?_) (fun _ _ _ h => h.elim)
  · obtain ⟨p, hp, rfl⟩ : ∃ p, ps[i]? = some p ∧ d = .int p := by
      rw [List.getElem?_map] at hd
      cases e : ps[i]? with
      | none => rw [e] at hd; cases hd
      | some c => rw [e] at hd; cases hd; exact ⟨c, rfl, rfl⟩
    have hi := (List.getElem?_eq_some_iff.mp hp).1
    have hl := joinT_len (ps.take i) ts (by rw [List.length_take]; omega)
    have hlv := lvs_join (ps.take i) ts (by rw [List.length_take]; omega)
    rw [List.length_take, Nat.min_eq_left (by omega)] at hl
    have hsucc : joinT ts (ps.take (i + 1)) = mergeAt (joinT ts (ps.take i)) (p.fmod (((joinT ts (ps.take i)).length : Int) - 1)).toNat := by
      rw [List.take_add_one, hp, joinT_app]; rfl
    have fin : ∀ s', St s0 hb' env X (sgl [(Str.ofString "left", .d (.lst ((mergeAt (joinT ts (ps.take i)) (p.fmod (((joinT ts (ps.take i)).length : Int) - 1)).toNat).map (T.D W))))]) s' → St s0 hb' env X (sgl [(Str.ofString "left", .d (.lst ((joinT ts (ps.take (i + 1))).map (T.D W))))]) s' := fun s' q' => by rw [hsucc]; exact q'
    clear hsucc
    rw [← hlv] at hz
    generalize joinT ts (ps.take i) = us at *
    have hm : 1 < us.length := by omega
    have hk := pick_lt (p := p) hm
    obtain ⟨k, hk1⟩ := Int.eq_ofNat_of_zero_le hk.1
    rw [hk1] at fin hk
    have hk2 : k + 1 < us.length := hk.2
    have pg5 := (pg.up kp).up (R.kp.trans q5.kp)
    have memk : ∀ {j : Nat}, j < us.length → us.getD j (.leaf 0) ∈ us := fun {j} hj => by rw [List.getD_eq_getElem?_getD, List.getElem?_eq_getElem hj]; exact List.getElem_mem hj
    have b1 := mail_len (W := W) (Nat.le_trans (lvs_ge (memk (show k < us.length by omega))) hz)
    have b2 := mail_len (W := W) (Nat.le_trans (lvs_ge (memk hk2)) hz)
    have b3 := wr_le (Nat.le_trans (lvs_ge (memk (show k < us.length by omega))) hz)
    have b4 := wr_le (Nat.le_trans (lvs_ge (memk hk2)) hz)
    have hul : (us.map (T.D W)).length = us.length := List.length_map ..
    refine st_assign (d := .int (k : Int)) R.fm q5 (R.sto _ (.inl (fr.kind _ _ (by kernel_rfl)))) ((ev_bin (ev_name eo (q5.vd rfl)) (ev_bin (ev_bf eo (fr.kind _ _ (by kernel_rfl)) pg5.gl (pg5.free (by kernel_rfl)) (pg5.bl boot_len) (gs_cons (ev_name eo (q5.vd rfl)) gs_nil) (len_l (by omega))) ev_int sub_ii) (mod_ii (by omega))).cast (congrArg D.int (by rw [hul]; exact hk1))) fun s6 q6 => ?_
    have pg6 := (pg.up kp).up (R.kp.trans q6.kp)
    generalize hA : us.getD k (.leaf 0) = tA at *
    generalize hB : us.getD (k + 1) (.leaf 0) = tB at *
    have g1 : (us.map (T.D W))[((k : Int)).toNat]? = some (.tup [.str (so (tA.mail W)), .str (so tA.wr)]) := by rw [Int.toNat_natCast, ← hA]; exact ts_get (by omega)
    have g2 : (us.map (T.D W))[((k : Int) + 1).toNat]? = some (.tup [.str (so (tB.mail W)), .str (so tB.wr)]) := by rw [show ((k : Int) + 1).toNat = k + 1 by omega, ← hB]; exact ts_get hk2
    refine st_assign (d := .str (so ((T.node tA tB).mail W))) R.fm q6 (R.sto _ (.inl (fr.kind _ _ (by kernel_rfl)))) ((ev_def pg6 mQuo (by kernel_rfl) eo (fr.kind _ _ (by kernel_rfl)) (gs_cons (ev_bin (ev_item (ev_item (ev_name eo (q6.vd rfl)) (ev_name eo (q6.vd rfl)) (get_li (by omega) (by omega) g1)) ev_int (get_ti (d := .str (so (tA.mail W))) (by decide) (by decide) rfl)) (ev_item (ev_item (ev_name eo (q6.vd rfl)) (ev_bin (ev_name eo (q6.vd rfl)) ev_int add_ii) (get_li (by omega) (by omega) g2)) ev_int (get_ti (d := .str (so (tB.mail W))) (by decide) (by decide) rfl)) (add_so (by omega))) gs_nil) (fun h' vs fa pg' F' r' => quo ao1.d pg' F' (by show (so _).length ≤ _; rw [so_len, List.length_append]; omega) r')).cast (congrArg D.str (by show so (quoted (tA.mail W ++ tB.mail W)) = _; rw [quoted_node hW]))) fun s7 q7 => ?_
    refine st_assign (d := .str (so (T.node tA tB).wr)) R.fm q7 (R.sto _ (.inl (fr.kind _ _ (by kernel_rfl)))) (ev_bin (ev_bin (ev_bin (ev_bin (ev_so (l := [40, 45]) (by kernel_rfl)) (ev_item (ev_item (ev_name eo (q7.vd rfl)) (ev_name eo (q7.vd rfl)) (get_li (by omega) (by omega) g1)) ev_int (get_ti (d := .str (so tA.wr)) (by decide) (by decide) rfl)) (add_so ?_)) (ev_so (l := [45]) (by kernel_rfl)) (add_so ?_)) (ev_item (ev_item (ev_name eo (q7.vd rfl)) (ev_bin (ev_name eo (q7.vd rfl)) ev_int add_ii) (get_li (by omega) (by omega) g2)) ev_int (get_ti (d := .str (so tB.wr)) (by decide) (by decide) rfl)) (add_so ?_)) (ev_so (l := [41]) (by kernel_rfl)) (add_so ?_)) fun s8 q8 => ?_
    · simp only [List.length_append, List.length_cons, List.length_nil]; omega
    · simp only [List.length_append, List.length_cons, List.length_nil]; omega
    · simp only [List.length_append, List.length_cons, List.length_nil]; omega
    · simp only [List.length_append, List.length_cons, List.length_nil]; omega
    have c1 := cut_len (us.map (T.D W)) none (some (k : Int))
    have c2 := cut_len (us.map (T.D W)) (some ((k : Int) + 2)) none
    refine st_assign (d := .lst ((mergeAt us k).map (T.D W))) R.fm q8 (R.sto _ (.inl (fr.kind _ _ (by kernel_rfl)))) (Gv.cast (ev_bin (ev_bin (ev_slice (ev_name eo (q8.vd rfl)) gp_none (gp_some (ev_name eo (q8.vd rfl))) (by omega)) (ev_list (gs_cons (ev_tuple (gs_cons (ev_name eo (q8.vd rfl)) (gs_cons (ev_name eo (q8.vd rfl)) gs_nil)) sz2) gs_nil) sz1) (add_ll (by rw [List.length_singleton]; omega))) (ev_slice (ev_name eo (q8.vd rfl)) (gp_some (ev_bin (ev_name eo (q8.vd rfl)) ev_int add_ii)) gp_none (by omega)) (add_ll (by rw [List.length_append, List.length_singleton]; omega))) (congrArg D.lst ?_)) fun s9 q9 => st_end (fin _ (q9.toL _ ⟨rfl, trivial⟩))
    rw [show (k : Int) + 2 = ((k + 2 : Nat) : Int) by omega, cut_take, cut_drop, mergeAt, hA, hB]
    simp [T.D]
  · have e : joinT ts (ps.take (ps.map D.int).length) = [t] := by rw [List.length_map, List.take_of_length_le (Nat.le_refl _), ht]
    rw [e] at q6
    exact st_ret (d := t.D W) q6 (ev_item (ev_name eo (q6.vd rfl)) ev_int (get_li (by decide) (by decide) rfl)) fun v s7 k7 r7 => ⟨v, rfl, r7, (q6.rest.kps q6.kp).tr k7⟩
end
end Mine
end
section
open PySem PySem.W PyProof.Rows PySem.SeqAt
namespace Mine
theorem fv_nil {env : Env} {h : Heap} {X : List Addr} : ∀ n d, ([] : List (Str × D)).lookup n = some d → Var env h X n d ∧ env.kindOf n ≠ some .local := fun n d e => by cases e
theorem szc {a b : Nat} : [a].length + [b].length ≤ sizeLine := by show 2 ≤ sizeLine; decide
theorem sz3 {a b c : D} : [a, b, c].length ≤ sizeLine := by show 3 ≤ sizeLine; decide
theorem leaf_mail (W : Nat → Nat) (i : Nat) : (T.leaf i).mail W = [46] ++ nmOf (W i) ++ eolOf i := by
  show List.replicate 1 46 ++ (nmOf (W i) ++ (if 1 = 1 then eolOf i else [13, 10])) ++ [] = _
  rw [if_pos rfl, List.append_nil, List.append_assoc]; rfl
theorem leavesOf_succ (i : Nat) : leavesOf (i + 1) = leavesOf i ++ [.leaf i] := by
  unfold leavesOf
  rw [List.range_succ, List.map_append]; rfl
noncomputable abbrev dLaw : DefRec := dOf VP "law"
theorem mLaw : dLaw ∈ recsOf VP := dOf_mem (by decide +kernel)
theorem bindLaw (v pm cd doc : Value) : bindArgs (Calls.docDef dLaw.name dLaw.params dLaw.body dLaw.scope pm cd doc) ⟨[v], []⟩ = pure [(Str.ofString "script", v)] := by kernel_rfl
theorem eol_get (W : Nat → Nat) (i : Nat) : [D.str (so [10]), .str (so [13]), .str (so [13, 10])][((i : Int).fmod 3).toNat]? = some (.str (so (eolOf i))) := by
  have h : ((i : Int).fmod 3).toNat = i % 3 := by rw [Int.fmod_eq_emod_of_nonneg _ (by decide)]; omega
  rw [h]
  unfold eolOf
  have : i % 3 < 3 := Nat.mod_lt _ (by decide)
  match e : i % 3, this with
  | 0, _ => rfl
  | 1, _ => rfl
  | 2, _ => rfl
theorem filt_ints (p : Nat → Bool) : ∀ l : List Nat, ((l.map fun i => D.int (i : Nat)).filter fun d => p (iOf d).toNat).map (fun d => d) = (l.filter p).map fun k => D.int (k : Nat)
  | [] => rfl
  | i :: l => by
    rw [List.map_cons, List.filter_cons, List.filter_cons]
    have ih := filt_ints p l
    by_cases h : p i = true
    · rw [if_pos (show p (iOf (D.int (i : Nat))).toNat = true from h), if_pos h, List.map_cons, List.map_cons, ih]
    · rw [if_neg (show ¬ p (iOf (D.int (i : Nat))).toNat = true from h), if_neg h, ih]
section
variable {prog : Program} {w : World} {A : Around} {X : List Addr} {mg mb : Str → Option Value} {s : Shared} {h : Heap} {vs : List Value} {fa : Addr}
theorem law2 {script : List Int} (ao : AOk A 5) (pg : Pg w mg mb h) (F : FnAt h mg dLaw.name dLaw.params dLaw.body dLaw.scope fa) (hz : script.length ≤ 63) (r : Rds X h vs [.lst (script.map .int)]) :
    Gv prog w A h X (call (.ref fa) vs) (.bool true) := by
  refine enter1 ao.d pg.gl F r bindLaw (.inl (by kernel_rfl)) (fun env s0 s1 E' kp fr q => ?_) (by kernel_rfl) (by kernel_rfl) (by kernel_rfl)
  have eo := fr.fm.eo
  have hsl := sizeLine_val
  have ao1 : AOk (A.deeper env) 4 := ao.deeper
  have kL : ∀ x, dLaw.scope.names.lookup x = some .local → env.kindOf x = some .local := fun x e => fr.kind x _ e
  have hcl := cut_len (script.map D.int) none (some ((6 : Nat) : Int))
  have hcm : (script.map D.int).length = script.length := List.length_map ..
  -- numbers
  refine st_assign (d := .lst (((script.take 6).map (fun x => x.fmod 1000000)).map .int)) fr.fm q (fr.sto _ (.inr (by kernel_rfl))) (Gv.cast (ev_compn (x := Str.ofString "x") (items := cut (script.map D.int) none (some ((6 : Nat) : Int))) (fun d => .int ((iOf d).fmod (10 ^ (6 : Int).toNat))) [] ao1.hA eo fv_nil (gi_list (ev_slice (ev_name eo (q.vd rfl)) gp_none (gp_some ev_int) (by omega))) (by omega) (.inl (by kernel_rfl)) rfl (fun cenv h' X' d hd eo' kn kp' hx hfv => ?_) (fc (by rfl)) (ff (by rfl))) ?_) (fun s2 q2 => ?_) (sw_cell (fr.kind _ _ (by kernel_rfl)))
  · obtain ⟨x, rfl⟩ : ∃ x, d = .int x := by
      rw [cut_take, ← List.map_take] at hd
      obtain ⟨x, _, rfl⟩ := List.mem_map.mp hd
      exact ⟨x, rfl⟩
    exact ev_bin (ev_name eo' hx) (ev_bin ev_int ev_int (pow_ii (by decide) (by decide) (by decide))) (mod_ii (by decide))
  · rw [cut_take, ← List.map_take, List.map_map, List.map_map]
    rfl
  generalize hnums : numsOf script = nums
  have hnl : nums.length = 6 := by rw [← hnums]; exact numsOf_len script
  have hno : ∀ x ∈ nums, 0 ≤ x ∧ x < 1000000 := by rw [← hnums]; exact numsOf_ok script
  have hni : (nums.map D.int).length = 6 := by rw [List.length_map]; exact hnl
  have pg2 := (pg.up kp).up q2.kp
  refine st_assign (d := .lst (nums.map .int)) fr.fm q2 (fr.sto _ (.inr (by kernel_rfl))) (Gv.cast (ev_bin (ev_name eo (q2.vd rfl)) (ev_slice (ds := [7, 8, 15, 11, 10, 20].map D.int) (ev_list (gs_cons ev_int (gs_cons ev_int (gs_cons ev_int (gs_cons ev_int (gs_cons ev_int (gs_cons ev_int gs_nil)))))) (by rw [hsl]; decide)) (gp_some (ev_bf eo (fr.kind _ _ (by kernel_rfl)) pg2.gl (pg2.free (by kernel_rfl)) (pg2.bl boot_len) (gs_cons (ev_name eo (q2.vd rfl)) gs_nil) (len_l (by simp <;> omega)))) gp_none (by rw [hsl]; decide)) (add_ll ?_)) ?_) fun s3 q3 => ?_
  · have := cut_len ([7, 8, 15, 11, 10, 20].map D.int) (some ((((script.take 6).map (fun x => x.fmod 1000000)).map D.int).length : Int)) none
    have h6 : ([7, 8, 15, 11, 10, 20].map D.int).length = 6 := rfl
    rw [h6] at this
    rw [List.length_map, List.length_map, List.length_take]
    rw [List.length_map, List.length_map, List.length_take] at this
    omega
  · rw [cut_drop, ← hnums, numsOf, List.map_append, List.length_map, List.length_map, List.map_drop]
  generalize hn : cntOf nums = n
  have hn46 := cntOf_le nums
  rw [hn] at hn46
  generalize hW : wOf nums = W
  have hWok : Wok W := by rw [← hW]; exact wOf_ok nums
  have hWlt : ∀ i, 4 ≤ W i ∧ W i < 4096 := by rw [← hW]; exact wOf_lt nums
  have hW1 : ∀ i, W i < 4096 := fun i => (hWlt i).2
  have hW4 : ∀ i, 4 ≤ W i := fun i => (hWlt i).1
  have pg3 := (pg.up kp).up q3.kp
  refine st_compn (x := Str.ofString "i") (y := Str.ofString "worths") (items := (List.range n).map fun i => D.int (i : Nat)) (fun d => .int (W (iOf d).toNat)) [(Str.ofString "numbers", .lst (nums.map .int))] ao1.hA fr.fm q3 (fv_one (q3.vd rfl) (kc (fr.kind _ _ (by kernel_rfl))))
    (gi_range1 (b := (n : Int)) eo (fr.kind _ _ (by kernel_rfl)) pg3.gl (pg3.free (by kernel_rfl)) (pg3.bl boot_range) (Gv.cast (ev_bin ev_int (ev_bin (ev_item (ev_name eo (q3.vd rfl)) ev_int (get_li (by decide) (by decide) (ints_get (by simp <;> omega)))) ev_int (mod_ii (by decide))) add_ii) ?_) (by omega) (by omega)) (by simp <;> omega) (.inl (by kernel_rfl)) rfl (fun cenv h' X' d hd eo' kn kp' hx hfv => ?_) (fr.kind _ _ (by kernel_rfl)) (by rfl) (by kernel_rfl) (fc (by rfl)) (ff (by rfl)) fun s4 q4 => ?_
  · have h1 := Int.fmod_nonneg_of_pos (nums.getD 0 0) (b := 3) (by decide)
    rw [← hn, cntOf]
    refine congrArg D.int ?_
    show 4 + (nums.getD (0 : Int).toNat 0).fmod 3 = _
    rw [Int.natCast_add, Int.toNat_of_nonneg h1]; rfl
  · obtain ⟨i, hi, rfl⟩ := List.mem_map.mp hd
    have hi := List.mem_range.mp hi
    have hi6 : i < 6 := by omega
    have hv := hno _ (show nums.getD i 0 ∈ nums by rw [List.getD_eq_getElem?_getD, List.getElem?_eq_getElem (show i < nums.length by omega)]; exact List.getElem_mem _)
    refine (ev_bin (ev_bin ev_int (ev_bin ev_int (ev_name eo' hx) (pow_ii (by omega) (by omega) (by decide))) (mul_ii (mul_small (by decide) (by decide)))) (ev_bin (ev_bin (ev_item (ev_name eo' (hfv _ _ rfl)) (ev_name eo' hx) (get_li (by omega) (by omega) (ints_get (by rw [Int.toNat_natCast]; omega)))) ev_int (div_ii (by decide) (PyProof.noPylong_small (by decide)))) ev_int (mod_ii (by decide))) add_ii).cast (congrArg D.int ?_)
    show 4 * 3 ^ i + ((nums.getD i 0).fdiv 6).fmod 4 = (W i : Int)
    rw [← hW]; exact wOf_int nums hi6
  -- parts
  refine st_own fr.fm q4 (.inl (fr.kind _ _ (by kernel_rfl))) fun a s5 ha hba q5 => ?_
  have pg5 := (pg.up kp).up q5.kp
  refine st_for (items := (List.range n).map fun i => D.int (i : Nat)) (τ := fun i => sgl [(Str.ofString "parts", .own a ((leavesOf i).map (T.D W))), (Str.ofString "worths", .d (.lst (((List.range n).map fun i => D.int (i : Nat)).map fun d => .int (W (iOf d).toNat)))), (Str.ofString "numbers", .d (.lst (nums.map .int)))])
    (τ1 := fun i d => upd (sgl [(Str.ofString "parts", .own a ((leavesOf i).map (T.D W))), (Str.ofString "worths", .d (.lst (((List.range n).map fun i => D.int (i : Nat)).map fun d => .int (W (iOf d).toNat)))), (Str.ofString "numbers", .d (.lst (nums.map .int)))]) (Str.ofString "i") (.d d)) (O := [a]) (Rt := fun _ => False)
    ao.hA fr.fm (q5.toL _ ⟨rfl, rfl, rfl, trivial⟩) (fun i => sgl_own ⟨List.mem_cons_self, trivial⟩) (fun b hb => by rw [List.mem_singleton.mp hb]; exact List.mem_cons_self) (fun i => sgl_ni rfl) (gi_range1 (b := (n : Int)) eo (fr.kind _ _ (by kernel_rfl)) pg5.gl (pg5.free (by kernel_rfl)) (pg5.bl boot_range) (Gv.cast (ev_bf eo (fr.kind _ _ (by kernel_rfl)) pg5.gl (pg5.free (by kernel_rfl)) (pg5.bl boot_len) (gs_cons (ev_name eo (q5.vd rfl)) gs_nil) (len_l (by simp <;> omega))) (by simp)) (by omega) (by omega))
    (fun hb' i d v s I E'' R hd q r hI => asg_name R.fm (R.sto _ (.inl (fr.kind _ _ (by kernel_rfl)))) q r) (fun hb' i d s6 E'' R hd q6 => ?_) (fun s6 q6 => ?_) (fun _ _ _ h => h.elim)
  · have hi : i < n := by
      have := (List.getElem?_eq_some_iff.mp hd).1
      simpa using this
    obtain rfl : d = .int (i : Nat) := by
      rw [List.getElem?_map, List.getElem?_range hi] at hd
      exact (Option.some.inj hd).symm
    have hw := hWlt i
    have hgw : (((List.range n).map fun i => D.int (i : Nat)).map fun d => D.int (W (iOf d).toNat))[((i : Nat) : Int).toNat]? = some (.int (W i)) := by
      rw [Int.toNat_natCast, List.getElem?_map, List.getElem?_map, List.getElem?_range hi]; rfl
    have pg6 := (pg.up kp).up (R.kp.trans q6.kp)
    refine st_assign (d := .str (so (nmOf (W i)))) R.fm q6 (R.sto _ (.inl (fr.kind _ _ (by kernel_rfl)))) (Gv.cast (ev_bin (ev_bf eo (fr.kind _ _ (by kernel_rfl)) pg6.gl (pg6.free (by kernel_rfl)) (pg6.bl boot_chr) (gs_cons (ev_bin ev_int (ev_bin (ev_item (ev_name eo (q6.vd rfl)) (ev_name eo (q6.vd rfl)) (get_li (by omega) (by omega) hgw)) ev_int (div_ii (by decide) (PyProof.noPylong_small (by decide)))) add_ii) gs_nil) (chr_i ?_ ?_)) (ev_bf eo (fr.kind _ _ (by kernel_rfl)) pg6.gl (pg6.free (by kernel_rfl)) (pg6.bl boot_chr) (gs_cons (ev_bin ev_int (ev_bin (ev_item (ev_name eo (q6.vd rfl)) (ev_name eo (q6.vd rfl)) (get_li (by omega) (by omega) hgw)) ev_int (mod_ii (by decide))) add_ii) gs_nil) (chr_i ?_ ?_)) (add_so szc)) ?_) fun s7 q7 => ?_
    · rw [Int.fdiv_eq_ediv_of_nonneg _ (by decide)]; omega
    · rw [Int.fdiv_eq_ediv_of_nonneg _ (by decide)]; omega
    · rw [Int.fmod_eq_emod_of_nonneg _ (by decide)]; omega
    · rw [Int.fmod_eq_emod_of_nonneg _ (by decide)]; omega
    · rw [Int.fmod_eq_emod_of_nonneg _ (by decide), Int.fdiv_eq_ediv_of_nonneg _ (by decide)]
      show D.str (so ([(64 + (W i : Int) / 64).toNat] ++ [(64 + (W i : Int) % 64).toNat])) = _
      rw [show (64 + (W i : Int) / 64).toNat = 64 + W i / 64 by omega, show (64 + (W i : Int) % 64).toNat = 64 + W i % 64 by omega]; rfl
    have he : (eolOf i).length ≤ 2 := by rcases eolOf_ok i with e | e | e <;> rw [e] <;> simp
    have hnm : (nmOf (W i)).length = 2 := rfl
    refine st_append (d := (T.leaf i).D W) R.fm q7 rfl (Gv.cast (ev_tuple (gs_cons (ev_bin (ev_bin (ev_so (l := [46]) (by kernel_rfl)) (ev_name eo (q7.vd rfl)) (add_so ?_)) (ev_item (ev_list (gs_cons (ev_so (l := [10]) (by kernel_rfl)) (gs_cons (ev_so (l := [13]) (by kernel_rfl)) (gs_cons (ev_so (l := [13, 10]) (by kernel_rfl)) gs_nil))) sz3) (ev_bin (ev_name eo (q7.vd rfl)) ev_int (mod_ii (by decide))) (get_li ?_ ?_ (eol_get W i))) (add_so ?_)) (gs_cons (ev_item ev_str (ev_name eo (q7.vd rfl)) (get_si (by omega) (by omega) (abc_get (by omega)))) gs_nil)) sz2) ?_) (by simp [leavesOf_len] <;> omega) fun s8 q8 => st_end ?_
    · rw [hnm, hsl]; show 1 + 2 ≤ _; decide
    · exact Int.fmod_nonneg_of_pos _ (by decide)
    · exact Int.lt_trans (Int.fmod_lt_of_pos (i : Int) (b := 3) (by decide)) (by decide)
    · rw [hsl, List.length_append, hnm]; show 1 + 2 + _ ≤ _; omega
    · unfold T.D
      rw [leaf_mail]; rfl
    · have e : (leavesOf (i + 1)).map (T.D W) = (leavesOf i).map (T.D W) ++ [(T.leaf i).D W] := by rw [leavesOf_succ, List.map_append]; rfl
      show St s0 hb' env (a :: X) (sgl [(Str.ofString "parts", .own a ((leavesOf (i + 1)).map (T.D W))), (Str.ofString "worths", .d (.lst (((List.range n).map fun i => D.int (i : Nat)).map fun d => .int (W (iOf d).toNat)))), (Str.ofString "numbers", .d (.lst (nums.map .int)))]) _
      rw [e]
      exact q8.toL _ ⟨rfl, rfl, rfl, trivial⟩
  rw [List.length_map, List.length_range] at q6
  have q7 := q6.disown (x := Str.ofString "parts") (X' := X) rfl (fun b hb => List.mem_cons_of_mem _ hb) ha (fun y b es hy e => by
    have := sgl_mem e
    simp at this
    exact absurd this.1 hy)
  have hLl : ((leavesOf n).map (T.D W)).length = n := by rw [List.length_map, leavesOf_len]
  generalize hps : (nums.take n).drop 1 = ps
  have hpl : ps.length + 1 = n := by rw [← hps, List.length_drop, List.length_take]; omega
  obtain ⟨l, r1, hj1, o1⟩ := joined_one hpl (by omega)
  have o1 : Over (T.node l r1) n := o1
  have hmail := mail_len (W := W) (t := T.node l r1) (n := 6) (by rw [o1.len 1]; omega)
  have tell1 := tell_node hW1 hW4 l r1
  have good1 := good_tree l r1
  generalize T.node l r1 = t1 at hj1 o1 hmail tell1 good1
  have hwrl := wr_le (t := t1) (n := 6) (by rw [o1.len 1]; omega)
  have hR1l : (rowsT W t1).length = n := rowsT_len o1
  have pg7 := (pg.up kp).up q7.kp
  refine st_two (d1 := .str (so (t1.mail W))) (d2 := .str (so t1.wr)) ao1.hA fr.fm q7 (.inl (fr.kind _ _ (by kernel_rfl))) (.inl (fr.kind _ _ (by kernel_rfl))) (ev_def pg7 mJoi (by kernel_rfl) eo (fr.kind _ _ (by kernel_rfl)) (gs_cons (ev_name eo (q7.vd rfl)) (gs_cons (d := .lst (ps.map .int)) (Gv.cast (ev_slice (ev_name eo (q7.vd rfl)) (gp_some ev_int) (gp_some (ev_bf eo (fr.kind _ _ (by kernel_rfl)) pg7.gl (pg7.free (by kernel_rfl)) (pg7.bl boot_len) (gs_cons (ev_name eo (q7.vd rfl)) gs_nil) (len_l (by omega)))) (by omega)) ?_) gs_nil)) (fun h' vs fa pg' F' r' => joi (ao1.less (by omega)) pg' F' hW1 (by rw [lvs_leaves, List.length_range]; omega) (by rw [leavesOf_len]; omega) (by rw [leavesOf_len]; omega) hj1 r')) fun s8 q8 => ?_
  · rw [hLl, show (1 : Int) = ((1 : Nat) : Int) from rfl, cut_mid, ← hps, List.map_drop, List.map_take]
  have pg8 := (pg.up kp).up q8.kp
  refine st_assign (d := .lst ((rowsT W t1).map rowP)) fr.fm q8 (.inl (fr.kind _ _ (by kernel_rfl))) (ev_def pg8 mTol (by kernel_rfl) eo (fr.kind _ _ (by kernel_rfl)) (gs_cons (ev_name eo (q8.vd rfl)) gs_nil) (fun h' vs fa pg' F' r' => told (by have := ao1.hd; omega) ao1.hA pg' F' (by show (so _).length ≤ _; rw [so_len]; omega) tell1 r')) fun s9 q9 => ?_
  refine st_if (c := false) q9 q9.xok (tr_cmp (Gv.cast (d' := .lst ((namesL W n).map .int)) (ev_rows (fun _ => rfl) (fun p => .int p.2) ao1.hA eo (ev_name eo (q9.vd rfl)) (by omega) (by kernel_rfl) (by kernel_rfl) (by decide) (fun cenv h' X' p eo' kn kp' hx hy => ev_name eo' hy) (by decide +kernel)) ?_) (Gv.cast (d' := .lst ((namesL W n).map .int)) (ev_compn (x := Str.ofString "worth") (fun d => .int (64 * iOf d + 13)) [] ao1.hA eo fv_nil (gi_list (ev_name eo (q9.vd rfl))) (by simp <;> omega) (.inl (by kernel_rfl)) rfl (fun cenv h' X' d hd eo' kn kp' hx hfv => ?_) (fc (by rfl)) (ff (by rfl))) ?_) (ne_same lay_ints (ao1.c (by omega)))) (fun hb => by cases hb) fun _ s10 q10 => st_end ?_
  · rw [← rowsT_snd o1, List.map_map]; rfl
  · obtain ⟨d', hd', rfl⟩ := List.mem_map.mp hd
    exact ev_bin (ev_bin ev_int (ev_name eo' hx) (mul_ii (mul_small (by decide) (by decide)))) ev_int add_ii
  · rw [List.map_map, List.map_map, namesL, List.map_map]; rfl
  have wlt : ∀ {t : T}, Over t n → ∀ c ∈ t.wr, c < 1114112 := fun {t} o => wr_chars t fun d p hp => by have := o.lt hp; omega
  have layW : ∀ {t : T}, Over t n → Lay (.lst [.tup [.int 1, .str (so t.wr)]]) 2 := fun {t} o => lay_lst fun d hd => by
    rw [List.mem_singleton.mp hd]
    refine lay_tup (k := 0) fun d hd => ?_
    rcases List.mem_cons.mp hd with rfl | hd
    · exact lay_int
    · rw [List.mem_singleton.mp hd]; exact lay_str (wlt o)
  have pg10 := (pg.up kp).up q10.kp
  refine st_if (c := false) q10 q10.xok (tr_cmp (d1 := .lst [.tup [.int 1, .str (so t1.wr)]]) (Gv.cast (ev_def pg10 mWri (by kernel_rfl) eo (fr.kind _ _ (by kernel_rfl)) (gs_cons (ev_name eo (q10.vd rfl)) gs_nil) (fun h' vs fa pg' F' r' => wri (ao1.less (by omega)) pg' F' (by omega) r')) (by rw [write_tree o1]; rfl)) (ev_list (gs_cons (ev_tuple (gs_cons ev_int (gs_cons (ev_name eo (q10.vd rfl)) gs_nil)) sz2) gs_nil) sz1) (ne_same (layW o1) (ao1.c (by omega)))) (fun hb => by cases hb) fun _ s11 q11 => st_end ?_
  have pg11 := (pg.up kp).up q11.kp
  refine st_assign (d := .int (t1.val (fOf W))) fr.fm q11 (.inl (fr.kind _ _ (by kernel_rfl))) (ev_def pg11 mVal (by kernel_rfl) eo (fr.kind _ _ (by kernel_rfl)) (gs_cons (ev_name eo (q11.vd rfl)) (gs_cons (ev_name eo (q11.vd rfl)) gs_nil)) (fun h' vs fa pg' F' r' => val (ao1.less (by omega)) pg' F' (val_tree hWlt hn46.2 o1) (by omega) r')) fun s12 q12 => ?_
  refine st_assign (d := .lst ((tsg t1).map .int)) fr.fm q12 (fr.sto _ (.inr (by kernel_rfl))) (Gv.cast (ev_rows (fun _ => rfl) (fun p => .int (if p.1.fmod 2 = 1 then 1 else -1)) ao1.hA eo (ev_name eo (q12.vd rfl)) (by omega) (by kernel_rfl) (by kernel_rfl) (by decide) (fun cenv h' X' p eo' kn kp' hx hy => ev_if (tr_cmp (ev_bin (ev_name eo' hx) ev_int (mod_ii (by decide))) ev_int eq_ii) (fun hc => ev_int.cast (by rw [if_pos (eq_of_beq hc)])) (fun hc => (ev_un ev_int neg_i).cast (by rw [if_neg (ne_of_beq_false hc)]))) (by decide +kernel)) (by rw [← signs_tree (W := W) t1, List.map_map]; rfl)) (fun s13 q13 => ?_) (sw_cell (fr.kind _ _ (by kernel_rfl)))
  have htl : (tsg t1).length = n := tsg_len o1
  have hsum : (tsg t1).sum % 3 = 1 := by
    have := good1
    simp only [goodB, Bool.and_eq_true, decide_eq_true_eq] at this
    exact this.1.2
  have pg13 := (pg.up kp).up q13.kp
  refine st_if (c := false) q13 q13.xok ((tr_or (a := false) (b := false) (tr_cmp (Gv.cast (d' := .lst ((tsg t1 ++ [0]).map .int)) (ev_def pg13 mSig (by kernel_rfl) eo (fr.kind _ _ (by kernel_rfl)) (gs_cons (ev_name eo (q13.vd rfl)) (gs_cons (ev_name eo (q13.vd rfl)) gs_nil)) (fun h' vs fa pg' F' r' => sig (ao1.less (by omega)) pg' F' (by omega) r')) (by rw [sig_tree hWok hn46.2 o1])) (Gv.cast (d' := .lst ((tsg t1 ++ [0]).map .int)) (ev_bin (ev_name eo (q13.vd rfl)) (ev_list (gs_cons ev_int gs_nil) sz1) (add_ll (by rw [List.length_map, List.length_singleton]; omega))) (by rw [List.map_append]; rfl)) (ne_same lay_ints (ao1.c (by omega)))) (fun _ => (tr_or (a := false) (b := false) ((tr_cmp (ev_bin (ev_bf eo (fr.kind _ _ (by kernel_rfl)) pg13.gl (pg13.free (by kernel_rfl)) (pg13.bl boot_sum) (gs_cons (ev_name eo (q13.vd rfl)) gs_nil) (sum_l ao1.hA)) ev_int (mod_ii (by decide))) ev_int ne_ii).cast ?_) (fun _ => tr_or_nil)).cast rfl)).cast rfl) (fun hb => by cases hb) fun _ s14 q14 => st_end ?_
  · rw [Int.fmod_eq_emod_of_nonneg _ (by decide), hsum]; rfl
  refine st_own fr.fm q14 (.inl (fr.kind _ _ (by kernel_rfl))) fun a2 s15 ha2 hba2 q15 => ?_
  refine st_while (ι := { z : List Int × List Nat // goodB z.1 = true ∧ 1 ≤ z.1.length ∧ z.1.length + z.2.length = n ∧ lsg (joinT (leavesOf n) (z.2.map fun k : Nat => (k : Int))) z.1 = tsg t1 })
    (fun z => sgl [(Str.ofString "picks", .own a2 (z.1.2.map fun k : Nat => D.int (k : Int))), (Str.ofString "signs", .d (.lst (z.1.1.map .int))), (Str.ofString "numbers", .d (.lst (nums.map .int))), (Str.ofString "parts", .d (.lst ((leavesOf n).map (T.D W)))), (Str.ofString "rows", .d (.lst ((rowsT W t1).map rowP))), (Str.ofString "value", .d (.int (t1.val (fOf W))))])
    (fun z => decide (1 < (z.1.1.length : Int))) (fun z => z.1.1.length) (i0 := ⟨(tsg t1, []), good1, by rw [htl]; omega, by simp [htl], ?_⟩) (Y := fun _ => a2 :: X) (q15.toL _ ⟨rfl, rfl, rfl, rfl, rfl, rfl, trivial⟩) (fun z s16 q16 => ⟨q16.xok, ?_⟩) (fun z s16 E16 hc q16 => ?_) (fun z s16 hc q16 => ?_)
  · show lsg (leavesOf n) (tsg t1) = tsg t1
    exact lsg_leaves _ _ (by rw [List.length_range, htl])
  · have pg16 := (pg.up kp).up q16.kp
    obtain ⟨⟨ss, ks⟩, hg, h1, hnk, hlsg⟩ := z
    dsimp only at hg h1 hnk hlsg q16 ⊢
    exact (tr_cmp (ev_bf eo (fr.kind _ _ (by kernel_rfl)) pg16.gl (pg16.free (by kernel_rfl)) (pg16.bl boot_len) (gs_cons (ev_name eo (q16.vd rfl)) gs_nil) (len_l (by rw [List.length_map]; omega))) ev_int gt_ii).cast (by rw [List.length_map])
  · have pg16 := (pg.up kp).up q16.kp
    obtain ⟨⟨ss, ks⟩, hg, h1, hnk, hlsg⟩ := z
    dsimp only at hg h1 hnk hlsg q16 hc ⊢
    have hm : 1 < ss.length := by have := of_decide_eq_true hc; omega
    obtain ⟨hne, hstep⟩ := good_step hg hm (by omega)
    have hfl : (fitsL ss).length ≤ 6 := by
      have := List.length_filter_le (fitsB ss) (List.range (ss.length - 1))
      rw [List.length_range] at this
      unfold fitsL; omega
    have hpos : 0 < (fitsL ss).length := List.length_pos_iff.mpr hne
    refine st_comp1 (x := Str.ofString "k") (y := Str.ofString "fits") (items := (List.range (ss.length - 1)).map fun i => D.int (i : Nat)) (fun d => fitsB ss (iOf d).toNat) (fun d => d) [(Str.ofString "signs", .lst (ss.map .int))] ao1.hA fr.fm q16 (fv_one (q16.vd rfl) (kc (fr.kind _ _ (by kernel_rfl))))
      (gi_range1 (b := ((ss.length - 1 : Nat) : Int)) eo (fr.kind _ _ (by kernel_rfl)) pg16.gl (pg16.free (by kernel_rfl)) (pg16.bl boot_range) (Gv.cast (ev_bin (ev_bf eo (fr.kind _ _ (by kernel_rfl)) pg16.gl (pg16.free (by kernel_rfl)) (pg16.bl boot_len) (gs_cons (ev_name eo (q16.vd rfl)) gs_nil) (len_l (by rw [List.length_map]; omega))) ev_int sub_ii) (by rw [List.length_map]; congr 1; omega)) (by omega) (by omega)) (by rw [List.length_map, List.length_range]; omega) (.inl (by kernel_rfl)) rfl (fun cenv h' X' d hd eo' kn kp' hx hfv => ?_) (fun cenv h' X' d hd hp eo' kn kp' hx hfv => ev_name eo' hx) (fr.kind _ _ (by kernel_rfl)) (by rfl) (by kernel_rfl) (fc (by rfl)) (ff (by rfl)) fun s17 q17 => ?_
    · obtain ⟨i, hi, rfl⟩ := List.mem_map.mp hd
      have hi := List.mem_range.mp hi
      exact gt_one (tr_plain (ev_def (pg16.up kp') mFit (by kernel_rfl) eo' (kn.gl rfl) (gs_cons (ev_name eo' (hfv _ _ rfl)) (gs_cons (ev_name eo' hx) gs_nil)) (fun h' vs fa pg' F' r' => fit (ao1.less (by omega)) pg' F' (by omega) (by omega) r')) tru_b)
    rw [filt_ints] at q17
    have e17 : (List.filter (fitsB ss) (List.range (ss.length - 1))) = fitsL ss := rfl
    rw [e17] at q17
    have hfm : ((fitsL ss).map fun k => D.int (k : Nat)).length = (fitsL ss).length := List.length_map ..
    refine st_if (c := false) q17 q17.xok (tr_cmp (ev_name eo (q17.vd rfl)) (ev_list gs_nil (by decide)) (b := false) ?_) (fun hb => by cases hb) fun _ s18 q18 => st_end ?_
    · have hlay : Lay (.lst ((fitsL ss).map fun k => D.int (k : Nat))) 1 := lay_lst fun d hd => by obtain ⟨i, _, rfl⟩ := List.mem_map.mp hd; exact lay_int
      have := eq_dd (prog := prog) (w := w) (A := A.deeper env) (X := a2 :: X) hlay (b := .lst []) rfl (ao1.c (by omega))
      have e : PyData.eqv (toP (.lst ((fitsL ss).map fun k => D.int (k : Nat)))) (toP (.lst [])) = false := by
        cases hf : fitsL ss with
        | nil => exact absurd hf hne
        | cons a b => rfl
      rwa [e] at this
    have pg18 := (pg.up kp).up q18.kp
    have j1 := Int.fmod_nonneg_of_pos (nums.getD (ss.length - 1) 0) (b := ((fitsL ss).length : Int)) (by omega)
    have j2 := Int.fmod_lt_of_pos (nums.getD (ss.length - 1) 0) (b := ((fitsL ss).length : Int)) (by omega)
    obtain ⟨j, hj⟩ := Int.eq_ofNat_of_zero_le j1
    have hjl : j < (fitsL ss).length := by omega
    obtain ⟨k, hk⟩ : ∃ k, (fitsL ss)[j]? = some k := ⟨_, List.getElem?_eq_getElem hjl⟩
    obtain ⟨g1, g2, g3, g4⟩ := hstep k (List.mem_of_getElem? hk)
    refine st_assign (d := .int (k : Int)) fr.fm q18 (.inl (fr.kind _ _ (by kernel_rfl))) (ev_item (ev_name eo (q18.vd rfl)) (Gv.cast (d' := .int (j : Int)) (ev_bin (ev_item (ev_name eo (q18.vd rfl)) (ev_bin (ev_bf eo (fr.kind _ _ (by kernel_rfl)) pg18.gl (pg18.free (by kernel_rfl)) (pg18.bl boot_len) (gs_cons (ev_name eo (q18.vd rfl)) gs_nil) (len_l (by rw [List.length_map]; omega))) ev_int sub_ii) (get_li (d := .int (nums.getD (ss.length - 1) 0)) (by rw [List.length_map]; omega) (by rw [List.length_map]; omega) (by rw [List.length_map, show ((ss.length : Int) - 1).toNat = ss.length - 1 by omega]; exact ints_get (by omega)))) (ev_bf eo (fr.kind _ _ (by kernel_rfl)) pg18.gl (pg18.free (by kernel_rfl)) (pg18.bl boot_len) (gs_cons (ev_name eo (q18.vd rfl)) gs_nil) (len_l (by omega))) (mod_ii (by omega))) (by rw [hfm, hj])) (get_li (by omega) (by omega) (by rw [Int.toNat_natCast, List.getElem?_map, hk]; rfl))) fun s19 q19 => ?_
    refine st_append fr.fm q19 rfl (ev_name eo (q19.vd rfl)) (by rw [List.length_map]; omega) fun s20 q20 => ?_
    have pg20 := (pg.up kp).up q20.kp
    refine st_assign (d := .lst ((mergedL ss k).map .int)) fr.fm q20 (fr.sto _ (.inr (by kernel_rfl))) (ev_def pg20 mMer (by kernel_rfl) eo (fr.kind _ _ (by kernel_rfl)) (gs_cons (ev_name eo (q20.vd rfl)) (gs_cons (ev_name eo (q20.vd rfl)) gs_nil)) (fun h' vs fa pg' F' r' => mer (ao1.less (by omega)) pg' F' g2 (by omega) r')) fun s21 q21 => st_end ?_
    have hjl2 := joinT_len (ks.map fun k : Nat => (k : Int)) (leavesOf n) (by rw [List.length_map, leavesOf_len]; omega)
    rw [List.length_map, leavesOf_len] at hjl2
    refine ⟨⟨(mergedL ss k, ks ++ [k]), g1, by dsimp only; omega, by dsimp only; rw [List.length_append, List.length_singleton]; omega, ?_⟩, by show (mergedL ss k).length < ss.length; omega, ?_⟩
    · dsimp only
      rw [List.map_append, joinT_app]
      show lsg (mergeAt (joinT (leavesOf n) (ks.map fun k : Nat => (k : Int))) (((k : Int)).fmod (((joinT (leavesOf n) (ks.map fun k : Nat => (k : Int))).length : Int) - 1)).toNat) (mergedL ss k) = tsg t1
      rw [pick_id (by omega), lsg_merge _ _ _ (by omega) g2 g3, hlsg]
    · show St s0 s0.heap env (a2 :: X) (sgl [(Str.ofString "picks", .own a2 ((ks ++ [k]).map fun k : Nat => D.int (k : Int))), (Str.ofString "signs", .d (.lst ((mergedL ss k).map .int))), (Str.ofString "numbers", .d (.lst (nums.map .int))), (Str.ofString "parts", .d (.lst ((leavesOf n).map (T.D W)))), (Str.ofString "rows", .d (.lst ((rowsT W t1).map rowP))), (Str.ofString "value", .d (.int (t1.val (fOf W))))]) _
      rw [List.map_append]
      exact q21.toL _ ⟨rfl, rfl, rfl, rfl, rfl, rfl, trivial⟩
  · obtain ⟨⟨ss, ks⟩, hg, h1, hnk, hlsg⟩ := z
    dsimp only at hg h1 hnk hlsg q16 hc ⊢
    have hone : ss.length = 1 := by have := of_decide_eq_false hc; omega
    have hss := good_one hg hone
    subst hss
    have q17 := q16.disown (x := Str.ofString "picks") (X' := X) rfl (fun b hb => List.mem_cons_of_mem _ hb) ha2 (fun y b es hy e => by
      have := sgl_mem e
      simp at this
      exact absurd this.1 hy)
    have hkl : (ks.map fun k : Nat => (k : Int)).length + 1 = n := by rw [List.length_map]; simp at hnk; omega
    obtain ⟨l2, r2, hj2, o2⟩ := joined_one hkl (by omega)
    have o2 : Over (T.node l2 r2) n := o2
    have hmail2 := mail_len (W := W) (t := T.node l2 r2) (n := 6) (by rw [o2.len 1]; omega)
    have tell2 := tell_node hW1 hW4 l2 r2
    rw [hj2, lsg_one] at hlsg
    generalize T.node l2 r2 = t2 at hj2 o2 hmail2 tell2 hlsg
    have hwrl2 := wr_le (t := t2) (n := 6) (by rw [o2.len 1]; omega)
    have hR2l : (rowsT W t2).length = n := rowsT_len o2
    have pg17 := (pg.up kp).up q17.kp
    have hkm : ks.map (fun k : Nat => D.int (k : Int)) = (ks.map fun k : Nat => (k : Int)).map .int := by rw [List.map_map]; rfl
    rw [hkm] at q17
    refine st_two (d1 := .str (so (t2.mail W))) (d2 := .str (so t2.wr)) ao1.hA fr.fm q17 (.inl (fr.kind _ _ (by kernel_rfl))) (.inl (fr.kind _ _ (by kernel_rfl))) (ev_def pg17 mJoi (by kernel_rfl) eo (fr.kind _ _ (by kernel_rfl)) (gs_cons (ev_name eo (q17.vd rfl)) (gs_cons (ev_name eo (q17.vd rfl)) gs_nil)) (fun h' vs fa pg' F' r' => joi (ao1.less (by omega)) pg' F' hW1 (by rw [lvs_leaves, List.length_range]; omega) (by rw [leavesOf_len]; omega) (by rw [leavesOf_len]; omega) hj2 r')) fun s18 q18 => ?_
    have pg18 := (pg.up kp).up q18.kp
    refine st_assign (d := .lst ((rowsT W t2).map rowP)) fr.fm q18 (.inl (fr.kind _ _ (by kernel_rfl))) (ev_def pg18 mTol (by kernel_rfl) eo (fr.kind _ _ (by kernel_rfl)) (gs_cons (ev_name eo (q18.vd rfl)) gs_nil) (fun h' vs fa pg' F' r' => told (by have := ao1.hd; omega) ao1.hA pg' F' (by show (so _).length ≤ _; rw [so_len]; omega) tell2 r')) fun s19 q19 => ?_
    have pg19 := (pg.up kp).up q19.kp
    refine st_if (c := false) q19 q19.xok (tr_cmp (d1 := .lst [.tup [.int 1, .str (so t2.wr)]]) (Gv.cast (ev_def pg19 mWri (by kernel_rfl) eo (fr.kind _ _ (by kernel_rfl)) (gs_cons (ev_name eo (q19.vd rfl)) gs_nil) (fun h' vs fa pg' F' r' => wri (ao1.less (by omega)) pg' F' (by omega) r')) (by rw [write_tree o2]; rfl)) (ev_list (gs_cons (ev_tuple (gs_cons ev_int (gs_cons (ev_name eo (q19.vd rfl)) gs_nil)) sz2) gs_nil) sz1) (ne_same (layW o2) (ao1.c (by omega)))) (fun hb => by cases hb) fun _ s20 q20 => st_end ?_
    have hpar := par_same (W := W) o1 o2 hlsg
    have tupE : ∀ {cenv : Env} {h' : Heap} {X' : List Addr} {p : Int × Int} {pa pb pc pd pe : Pos} {k1 k2 : Nat}, EnvOk cenv → Var cenv h' X' (Str.ofString "dots") (.int p.1) → Var cenv h' X' (Str.ofString "name") (.int p.2) →
        Gv prog w (A.deeper env) h' X' (eval (.Tuple [.BinOp (.Name (Str.ofString "dots") pa) .Mod (.Constant (.int 2) k1 pb) pc, .Name (Str.ofString "name") pd] k2 pe) cenv) (rowP (p.1.fmod 2, p.2)) := fun eo' hx hy => ev_tuple (gs_cons (ev_bin (ev_name eo' hx) ev_int (mod_ii (by decide))) (gs_cons (ev_name eo' hy) gs_nil)) sz2
    have layR : Lay (.lst (((rowsT W t1).map fun p => (p.1.fmod 2, p.2)).map rowP)) 2 := lay_lst fun d hd => by
      obtain ⟨p, _, rfl⟩ := List.mem_map.mp hd
      refine lay_tup (k := 0) fun d hd => ?_
      rcases List.mem_cons.mp hd with rfl | hd
      · exact lay_int
      · rw [List.mem_singleton.mp hd]; exact lay_int
    refine st_if (c := false) q20 q20.xok (tr_cmp (Gv.cast (d' := .lst (((rowsT W t1).map fun p => (p.1.fmod 2, p.2)).map rowP)) (ev_rows (fun _ => rfl) (fun p => rowP (p.1.fmod 2, p.2)) ao1.hA eo (ev_name eo (q20.vd rfl)) (by omega) (by kernel_rfl) (by kernel_rfl) (by decide) (fun cenv h' X' p eo' kn kp' hx hy => tupE eo' hx hy) (by decide +kernel)) ?_) (Gv.cast (d' := .lst (((rowsT W t1).map fun p => (p.1.fmod 2, p.2)).map rowP)) (ev_rows (fun _ => rfl) (fun p => rowP (p.1.fmod 2, p.2)) ao1.hA eo (ev_name eo (q20.vd rfl)) (by omega) (by kernel_rfl) (by kernel_rfl) (by decide) (fun cenv h' X' p eo' kn kp' hx hy => tupE eo' hx hy) (by decide +kernel)) ?_) (ne_same layR (ao1.c (by omega)))) (fun hb => by cases hb) fun _ s21 q21 => st_end ?_
    · rw [← hpar, List.map_map]; rfl
    · rw [List.map_map]; rfl
    have pg21 := (pg.up kp).up q21.kp
    refine st_ret (d := .bool true) q21 (Gv.cast (ev_cmp (ev_def pg21 mVal (by kernel_rfl) eo (fr.kind _ _ (by kernel_rfl)) (gs_cons (ev_name eo (q21.vd rfl)) (gs_cons (ev_name eo (q21.vd rfl)) gs_nil)) (fun h' vs fa pg' F' r' => val (ao1.less (by omega)) pg' F' (val_tree hWlt hn46.2 o2) (by omega) r')) (ev_name eo (q21.vd rfl)) eq_ii) ?_) fun v s22 k22 r22 => ⟨v, rfl, r22, (q21.rest.kps q21.kp).tr k22⟩
    rw [val_same (W := W) o1 o2 hlsg, beq_self_eq_true]
end
end Mine
end
open PySem PySem.W PyProof.Rows
namespace Mine
theorem callerOk : AOk callerA 5 := ⟨by decide +kernel, rfl, by decide +kernel⟩
theorem post_ok (ns : List Int) : PySem.Challenge.rw_rs0074_02.row.claim.post [ofPy (PyData.list (ns.map PyData.int))] (.bool true) [ofPy (PyData.list (ns.map PyData.int))] = true := by wrow_post
theorem none_raised (args : List WData) (cls : ExcName) : PySem.Challenge.rw_rs0074_02.row.claim.raises args cls = false := raisesW_false allW_false_nil cls
noncomputable abbrev rowL : OpenRow := PySem.Challenge.rw_rs0074_02.row
theorem okL : (chainsOk VP && opensWell rowL.prog && (frees rowL.toRowW && rowL.within.isEmpty)) = true := by decide +kernel
theorem defL : defOf VP rowL.name = some (dLaw, []) := by kernel_rfl
theorem theL : rowL.prog.theDef rowL.name = some (dLaw.params, dLaw.body, dLaw.scope) := by kernel_rfl
theorem kwL : kwWritten? dLaw.params.kwonlyargs dLaw.params.kw_defaults = some [] := by kernel_rfl
theorem bareL : rowL.prog.bare := ⟨rfl, rfl, rfl, rfl, rfl, by decide +kernel⟩
theorem promL : PySem.Challenge.rw_rs0074_02.row.toRowW.promised := by w_witness2
theorem said0 : PySem.W.Fast.tw9446332074065402090 PySem.Challenge.rw_rs0074_02 = true := by kernel_rfl
theorem said : PySem.Challenge.rw_rs0074_02.wellSaid = true := (congrFun PySem.W.Fast.te9446332074065402090 _).trans said0
theorem ints_of {h : Heap} : ∀ {vs : List Value} {ns : List Int}, IntsAre vs ns → Rds [] h vs (ns.map .int)
  | _, _, .nil => trivial
  | _, _, .cons _ t r => ⟨⟨t, rfl⟩, ints_of r⟩
theorem well_list {P : Params} {h : Heap} {a : Addr} {d : WData} {xs : List WData} (x : Well P h (.ref a) d) (e : d = .list xs) : ∃ vs, h.get? a = some (LO vs 0) := by
  subst e
  cases x
  exact ⟨_, by assumption⟩
theorem lo_of {P : Params} {h : Heap} {a : Addr} {d : WData} {xs : List WData} {vs : List Value} (x : Well P h (.ref a) d) (e : d = .list xs) (hl : h.IsList a vs.toArray) : h.get? a = some (LO vs 0) := by
  obtain ⟨us, hu⟩ := well_list x e
  obtain ⟨o, ho, hc, n, hd⟩ := hl
  rw [hu] at ho
  cases ho
  have hd : Data.seq us.toArray 0 = Data.seq vs.toArray n := hd
  injection hd with e1 e2
  have : us = vs := by have := congrArg Array.toList e1; simpa using this
  rw [this] at hu; exact hu
theorem core {p : Program} {w : World} {mg mb : Str → Option Value} {s : Shared} {fa l : Addr} {vs : List Value} {ns : List Int} (pg : Pg w mg mb s.heap) (F : FnAt s.heap mg dLaw.name dLaw.params dLaw.body dLaw.scope fa) (hl : s.heap.get? l = some (LO vs 0)) (hi : IntsAre vs ns) (hn : ns.length ≤ 63)
    (Q : Value → Shared → Prop) (E : Value → Shared → Prop) (hQ : ∀ h' tk, (∀ b o, s.heap.get? b = some o → h'.get? b = some o) → Q (.bool true) { s with heap := h', toks := tk }) : wpAny (model p w) callerA (call (.ref fa) [.ref l]) Q E s :=
  law2 callerOk pg F hn (vs := [.ref l]) ⟨⟨l, vs, 0, rfl, List.not_mem_nil, hl, ints_of hi⟩, trivial⟩ XOk.nil s _ _ Kp.refl fun v s' k r => by
    have hv : v = .bool true := r
    obtain ⟨h', tk, rfl, hk⟩ := k.to
    rw [hv]
    exact hQ h' tk hk
end Mine
set_option maxHeartbeats 8000000 in
theorem PySem.Challenge.cw_rs0074_02_holds : PySem.Challenge.rw_rs0074_02.Holds := by
  w_on
  refine PySem.W.holds_law Mine.said fun sd => ?_
  refine PySem.W.holds_open (q := Mine.VP) (loose := Mine.loose) (Xt := Mine.Xt) (XP := fun mg h => ∀ p ∈ Mine.gtab, mg p.1 = p.2) (Yf := fun s => Mine.KA.map fun a => s.heap.get? a) (Ya := fun w => (Mine.KP w.params).map fun p : Addr × Obj => some p.2) (YP := fun w h => (Mine.KP w.params).In h) (N := 2000) (d := Mine.dLaw) (kwd := []) ?hl (fun w s e => Mine.Frag.in_of e) (fun w h h' x k => Frag.In.keeps x k)
    (fun s e p hp => of_decide_eq_true (List.all_eq_true.mp e p hp)) (fun mg h h' x k => x) ?hdef ?hp ?hk (fun s e => recFacts_nil rfl) (by rfl) sd Mine.okL Mine.bareL Mine.promL ?hc
  case hl => exact Mine.hd_left
  case hdef => exact Mine.defL
  case hp => exact Mine.theL
  case hk => exact Mine.kwL
  intro w s₀ s₁ mg mb G Y fa o pm cd doc dV kV ho hd hcd hD hmg hg args vals as hpre hlay hrd hwl hlo
  have T := G.T
  have X := G.X
  have pg : Mine.Pg w mg mb s₁.heap := ⟨⟨_, _, T⟩, Y, X⟩
  wrow_args hpre hlay hrd hwl hlo
  rename_i ns _ _ _ _ _ _ _ l vs _ hL _ _ _ hI _ hcond _
  obtain ⟨fa', F⟩ := pg.fn Mine.mLaw
  have hfa : fa' = fa := (Value.ref.inj (Option.some.inj (hmg.symm.trans F.glob))).symm
  subst hfa
  have hlo := Mine.lo_of (by assumption) (show ofPy (PyData.list (List.map PyData.int ns)) = .list _ from rfl) hL
  refine Mine.core pg F hlo hI (by omega) _ _ fun h' tk hk => GoodW.toG ⟨.inl ⟨.bool true, .bool true, [], rfl, Mine.none_raised _, .bool true, Mine.post_ok ns, fun _ => ⟨List.nodup_nil, fun a ha => nomatch ha⟩⟩, hk, rfl, hg⟩
