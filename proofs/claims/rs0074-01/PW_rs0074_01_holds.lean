import PyProof.Rows.All
import Wide.All
import OpenK.AllK
import Wide.FinOn
import PySem.Challenge.RW_rs0074_01
set_option Elab.async false
set_option linter.unusedVariables false
set_option linter.unusedSimpArgs false
set_option maxRecDepth 100000
section
open PySem PySem.W PyProof.Rows
namespace Mine

/-- plain data -/
inductive D where
  | none
  | bool (b : Bool)
  | int (i : Int)
  | str (s : Str)
  | tup (l : List D)
  | lst (l : List D)

/-- all that stands stays -/
noncomputable def Kp (h h' : Heap) : Prop := ∀ b o, h.get? b = some o → h'.get? b = some o
theorem Kp.refl {h : Heap} : Kp h h := fun _ _ e => e
theorem Kp.trans {h h' h'' : Heap} (a : Kp h h') (b : Kp h' h'') : Kp h h'' := fun x o e => b x o (a x o e)

noncomputable def LO (vs : List Value) (n : Nat) : Obj := { cls := .type "list", data := .seq vs.toArray n }
noncomputable def TO (vs : List Value) (n : Nat) : Obj := { cls := .type "tuple", data := .seq vs.toArray n }

mutual
/-- the heap bears the datum at the value, by objects off X -/
noncomputable def Rd (X : List Addr) (h : Heap) : Value → D → Prop
  | v, .none => v = .none
  | v, .bool b => v = .bool b
  | v, .int i => ∃ t, v = .int i t
  | v, .str s => ∃ t, v = .str s t
  | v, .tup ds => ∃ a vs n, v = .ref a ∧ a ∉ X ∧ h.get? a = some (TO vs n) ∧ Rds X h vs ds
  | v, .lst ds => ∃ a vs n, v = .ref a ∧ a ∉ X ∧ h.get? a = some (LO vs n) ∧ Rds X h vs ds
noncomputable def Rds (X : List Addr) (h : Heap) : List Value → List D → Prop
  | [], [] => True
  | v :: vs, d :: ds => Rd X h v d ∧ Rds X h vs ds
  | _, _ => False
end

noncomputable def IsSeqO (o : Obj) : Prop := ∃ xs n, o.data = .seq xs n
mutual
theorem Rd.go {X X' : List Addr} {h h' : Heap} (hX : ∀ a, a ∉ X → a ∉ X') (hk : ∀ b o, b ∉ X → IsSeqO o → h.get? b = some o → h'.get? b = some o) :
    ∀ {v : Value} (d : D), Rd X h v d → Rd X' h' v d
  | _, .none, r => r
  | _, .bool _, r => r
  | _, .int _, r => r
  | _, .str _, r => r
  | _, .tup ds, r => by
    obtain ⟨a, vs, n, e, hn, hg, hr⟩ := r
    exact ⟨a, vs, n, e, hX a hn, hk a _ hn ⟨_, _, rfl⟩ hg, Rds.go hX hk ds hr⟩
  | _, .lst ds, r => by
    obtain ⟨a, vs, n, e, hn, hg, hr⟩ := r
    exact ⟨a, vs, n, e, hX a hn, hk a _ hn ⟨_, _, rfl⟩ hg, Rds.go hX hk ds hr⟩
theorem Rds.go {X X' : List Addr} {h h' : Heap} (hX : ∀ a, a ∉ X → a ∉ X') (hk : ∀ b o, b ∉ X → IsSeqO o → h.get? b = some o → h'.get? b = some o) :
    ∀ {vs : List Value} (ds : List D), Rds X h vs ds → Rds X' h' vs ds
  | [], [], _ => trivial
  | _ :: _, d :: ds, r => ⟨Rd.go hX hk d r.1, Rds.go hX hk ds r.2⟩
  | [], _ :: _, r => r.elim
  | _ :: _, [], r => r.elim
end
theorem Rd.up {X : List Addr} {h h' : Heap} {v : Value} {d : D} (r : Rd X h v d) (k : Kp h h') : Rd X h' v d := Rd.go (fun _ x => x) (fun b o _ _ e => k b o e) d r
theorem Rds.up {X : List Addr} {h h' : Heap} {v : List Value} {d : List D} (r : Rds X h v d) (k : Kp h h') : Rds X h' v d := Rds.go (fun _ x => x) (fun b o _ _ e => k b o e) d r
theorem Rd.less {X X' : List Addr} {h : Heap} {v : Value} {d : D} (r : Rd X h v d) (hX : ∀ a, a ∉ X → a ∉ X') : Rd X' h v d := Rd.go hX (fun _ _ _ _ e => e) d r
theorem Rds.less {X X' : List Addr} {h : Heap} {v : List Value} {d : List D} (r : Rds X h v d) (hX : ∀ a, a ∉ X → a ∉ X') : Rds X' h v d := Rds.go hX (fun _ _ _ _ e => e) d r
theorem Rds.length {X : List Addr} {h : Heap} : ∀ {vs : List Value} {ds : List D}, Rds X h vs ds → vs.length = ds.length
  | [], [], _ => rfl
  | _ :: _, _ :: _, r => by simp [Rds.length r.2]
  | [], _ :: _, r => r.elim
  | _ :: _, [], r => r.elim
theorem Rds.get {X : List Addr} {h : Heap} : ∀ {vs : List Value} {ds : List D}, Rds X h vs ds → ∀ {i : Nat} {d : D}, ds[i]? = some d → ∃ v, vs[i]? = some v ∧ Rd X h v d
  | _ :: _, _ :: _, r, 0, _, e => by simp at e; subst e; exact ⟨_, rfl, r.1⟩
  | _ :: _, _ :: _, r, i + 1, d, e => by simp at e; obtain ⟨v, hv, hr⟩ := Rds.get r.2 e; exact ⟨v, by simpa using hv, hr⟩
  | [], [], _, _, _, e => by simp at e
  | [], _ :: _, r, _, _, _ => r.elim
  | _ :: _, [], r, _, _, _ => r.elim
theorem Rds.getV {X : List Addr} {h : Heap} : ∀ {vs : List Value} {ds : List D}, Rds X h vs ds → ∀ {i : Nat} {v : Value}, vs[i]? = some v → ∃ d, ds[i]? = some d ∧ Rd X h v d
  | _ :: _, _ :: _, r, 0, _, e => by simp at e; subst e; exact ⟨_, rfl, r.1⟩
  | _ :: _, _ :: _, r, i + 1, d, e => by simp at e; obtain ⟨v, hv, hr⟩ := Rds.getV r.2 e; exact ⟨v, by simpa using hv, hr⟩
  | [], [], _, _, _, e => by simp at e
  | [], _ :: _, r, _, _, _ => r.elim
  | _ :: _, [], r, _, _, _ => r.elim
theorem Rds.app {X : List Addr} {h : Heap} : ∀ {vs : List Value} {ds : List D} {ws : List Value} {es : List D}, Rds X h vs ds → Rds X h ws es → Rds X h (vs ++ ws) (ds ++ es)
  | [], [], _, _, _, q => q
  | _ :: _, _ :: _, _, _, r, q => ⟨r.1, Rds.app r.2 q⟩
  | [], _ :: _, _, _, r, _ => r.elim
  | _ :: _, [], _, _, r, _ => r.elim
theorem Rds.drop {X : List Addr} {h : Heap} : ∀ {vs : List Value} {ds : List D}, Rds X h vs ds → ∀ k, Rds X h (vs.drop k) (ds.drop k)
  | _, _, r, 0 => by simpa using r
  | [], [], _, _ + 1 => trivial
  | _ :: _, _ :: _, r, k + 1 => by simpa using Rds.drop r.2 k
  | [], _ :: _, r, _ + 1 => r.elim
  | _ :: _, [], r, _ + 1 => r.elim
theorem Rds.take {X : List Addr} {h : Heap} : ∀ {vs : List Value} {ds : List D}, Rds X h vs ds → ∀ k, Rds X h (vs.take k) (ds.take k)
  | _, _, r, 0 => trivial
  | [], [], _, _ + 1 => trivial
  | _ :: _, _ :: _, r, k + 1 => ⟨r.1, Rds.take r.2 k⟩
  | [], _ :: _, r, _ + 1 => r.elim
  | _ :: _, [], r, _ + 1 => r.elim
theorem Rds.rev {X : List Addr} {h : Heap} : ∀ {vs : List Value} {ds : List D}, Rds X h vs ds → Rds X h vs.reverse ds.reverse
  | [], [], _ => trivial
  | _ :: _, _ :: _, r => by
    rw [List.reverse_cons, List.reverse_cons]
    exact Rds.app (Rds.rev r.2) ⟨r.1, trivial⟩
  | [], _ :: _, r => r.elim
  | _ :: _, [], r => r.elim

structure Kps (s s' : Shared) : Prop where
  to : Keeps s s'
theorem Kps.kp {s s' : Shared} (k : Kps s s') : Kp s.heap s'.heap := by
  obtain ⟨h', tk, rfl, hk⟩ := k
  exact hk
theorem keeps_refl {s : Shared} : Kps s s := ⟨s.heap, s.toks, rfl, fun _ _ e => e⟩
theorem Kps.tr {s s' s'' : Shared} (k : Kps s s') (l : Kps s' s'') : Kps s s'' := by
  obtain ⟨h', tk, rfl, hk⟩ := k
  obtain ⟨h2, tk2, rfl, hk2⟩ := l
  exact ⟨h2, tk2, rfl, fun b o e => hk2 b o (hk b o e)⟩
theorem keeps_tok {s : Shared} {t : Nat} : Kps s { s with toks := t } := ⟨s.heap, t, rfl, fun _ _ e => e⟩
theorem keeps_heap {s : Shared} {h' : Heap} {t : Nat} (k : Kp s.heap h') : Kps s { s with heap := h', toks := t } := ⟨h', t, rfl, k⟩
theorem keeps_heap' {s : Shared} {h' : Heap} (k : Kp s.heap h') : Kps s { s with heap := h' } := ⟨h', s.toks, rfl, k⟩
theorem kp_push {h : Heap} {o : Obj} : Kp h (h.push o) := fun _ _ e => Heap.get?_push_of_some _ e
theorem keeps_push {s : Shared} {o : Obj} : Kps s { s with heap := s.heap.push o } := keeps_heap' kp_push

/-- every address of X is taken -/
noncomputable def XOk (X : List Addr) (h : Heap) : Prop := ∀ a ∈ X, ∃ o, h.get? a = some o
theorem XOk.up {X : List Addr} {h h' : Heap} (x : XOk X h) (k : Kp h h') : XOk X h' := fun a ha => let ⟨o, e⟩ := x a ha; ⟨o, k _ _ e⟩
theorem XOk.off {X : List Addr} {h : Heap} (x : XOk X h) : h.objs.size ∉ X := fun hm => let ⟨_, e⟩ := x _ hm; Nat.lt_irrefl _ (Heap.lt_size e)
theorem XOk.nil {h : Heap} : XOk [] h := fun _ e => nomatch e

section
variable {prog : Program} {w : World} {A : Around} {env : Env} {h : Heap} {X : List Addr}

/-- in every heap that bears h the tree ends, keeps all, and hands on the datum -/
noncomputable def Gv (prog : Program) (w : World) (A : Around) (h : Heap) (X : List Addr) (t : Sem Value) (d : D) : Prop := XOk X h →
  ∀ (s : Shared) (Q : Value → Shared → Prop) (E : Value → Shared → Prop), Kp h s.heap → (∀ v s', Kps s s' → Rd X s'.heap v d → Q v s') → wpAny (model prog w) A t Q E s
noncomputable def Gb (prog : Program) (w : World) (A : Around) (h : Heap) (X : List Addr) (t : Sem Bool) (b : Bool) : Prop := XOk X h →
  ∀ (s : Shared) (Q : Bool → Shared → Prop) (E : Value → Shared → Prop), Kp h s.heap → (∀ s', Kps s s' → Q b s') → wpAny (model prog w) A t Q E s
/-- several values -/
noncomputable def Gs (prog : Program) (w : World) (A : Around) (h : Heap) (X : List Addr) (t : Sem (List Value)) (ds : List D) : Prop := XOk X h →
  ∀ (s : Shared) (Q : List Value → Shared → Prop) (E : Value → Shared → Prop), Kp h s.heap → (∀ v s', Kps s s' → Rds X s'.heap v ds → Q v s') → wpAny (model prog w) A t Q E s

theorem Gv.cast {t : Sem Value} {d d' : D} (g : Gv prog w A h X t d) (e : d = d') : Gv prog w A h X t d' := e ▸ g
theorem Gb.cast {t : Sem Bool} {d d' : Bool} (g : Gb prog w A h X t d) (e : d = d') : Gb prog w A h X t d' := e ▸ g

noncomputable def BinD (prog : Program) (w : World) (A : Around) (X : List Addr) (op : Operator) (d1 d2 d : D) : Prop := ∀ h v1 v2, Rd X h v1 d1 → Rd X h v2 d2 → Gv prog w A h X (binaryOp op v1 v2) d
noncomputable def InpD (prog : Program) (w : World) (A : Around) (X : List Addr) (op : Operator) (d1 d2 d : D) : Prop := ∀ h v1 v2, Rd X h v1 d1 → Rd X h v2 d2 → Gv prog w A h X (inplaceOp op v1 v2) d
noncomputable def CmpD (prog : Program) (w : World) (A : Around) (X : List Addr) (op : CmpOp) (d1 d2 : D) (b : Bool) : Prop := ∀ h v1 v2, Rd X h v1 d1 → Rd X h v2 d2 → Gv prog w A h X (compareOp op v1 v2) (.bool b)
noncomputable def TruD (prog : Program) (w : World) (A : Around) (X : List Addr) (d : D) (b : Bool) : Prop := ∀ h v, Rd X h v d → Gb prog w A h X (truthy v) b

-- constants
theorem ev_int {i : Int} {k : Nat} {pos : Pos} : Gv prog w A h X (eval (.Constant (.int i) k pos) env) (.int i) := fun hX s _ _ _ hQ =>
  wpAny_Constant_int (hQ _ _ keeps_tok ⟨_, rfl⟩)
theorem ev_str {x : Str} {k : Nat} {pos : Pos} : Gv prog w A h X (eval (.Constant (.str x) k pos) env) (.str x) := fun hX s _ _ _ hQ =>
  Calls.Constant_str (hQ _ _ keeps_tok ⟨_, rfl⟩)
theorem ev_bool {b : Bool} {k : Nat} {pos : Pos} : Gv prog w A h X (eval (.Constant (.bool b) k pos) env) (.bool b) := fun hX s _ _ _ hQ =>
  wpAny_pure (hQ _ _ keeps_refl rfl)

theorem ev_bin {l r : Expr} {op : Operator} {pos : Pos} {d1 d2 d : D} (hl : Gv prog w A h X (eval l env) d1) (hr : Gv prog w A h X (eval r env) d2) (ho : BinD prog w A X op d1 d2 d) :
    Gv prog w A h X (eval (.BinOp l op r pos) env) d := fun hX s Q E hk hQ =>
  wpAny_BinOp (hl hX s _ _ hk fun v1 s1 k1 r1 => hr hX s1 _ _ (hk.trans k1.kp) fun v2 s2 k2 r2 => ho s2.heap v1 v2 (r1.up k2.kp) r2 (hX.up (hk.trans (k1.kp.trans k2.kp))) s2 _ _ Kp.refl fun v s3 k3 r3 => hQ v s3 (k1.tr (k2.tr k3)) r3)
theorem ev_cmp {l r : Expr} {op : CmpOp} {pos : Pos} {d1 d2 : D} {b : Bool} (hl : Gv prog w A h X (eval l env) d1) (hr : Gv prog w A h X (eval r env) d2) (ho : CmpD prog w A X op d1 d2 b)
    (hm : behindInMarks op r = false := by with_unfolding_all rfl) :
    Gv prog w A h X (eval (.Compare l [op] [r] pos) env) (.bool b) := fun hX s Q E hk hQ =>
  wpAny_Compare1 (hl hX s _ _ hk fun v1 s1 k1 r1 => hr hX s1 _ _ (hk.trans k1.kp) fun v2 s2 k2 r2 => ho s2.heap v1 v2 (r1.up k2.kp) r2 (hX.up (hk.trans (k1.kp.trans k2.kp))) s2 _ _ Kp.refl fun v s3 k3 r3 => hQ v s3 (k1.tr (k2.tr k3)) r3) hm
theorem tr_cmp {l r : Expr} {op : CmpOp} {pos : Pos} {d1 d2 : D} {b : Bool} {wh : Sem Value} (hl : Gv prog w A h X (eval l env) d1) (hr : Gv prog w A h X (eval r env) d2) (ho : CmpD prog w A X op d1 d2 b)
    (hm : behindInMarks op r = false := by with_unfolding_all rfl) :
    Gb prog w A h X (isTrue (.Compare l [op] [r] pos) env wh) b := fun hX s Q E hk hQ =>
  PySem.wpAny_isTrue_Compare1 (hl hX s _ _ hk fun v1 s1 k1 r1 => hr hX s1 _ _ (hk.trans k1.kp) fun v2 s2 k2 r2 => ho s2.heap v1 v2 (r1.up k2.kp) r2 (hX.up (hk.trans (k1.kp.trans k2.kp))) s2 _ _ Kp.refl fun v s3 k3 r3 => by
    rw [show v = .bool b from r3]
    exact wpAny_truthy_bool (hQ s3 (k1.tr (k2.tr k3)))) hm
theorem ev_un {x : Expr} {op : UnaryOp} {pos : Pos} {d1 d : D} (hl : Gv prog w A h X (eval x env) d1) (ho : ∀ h v1, Rd X h v1 d1 → Gv prog w A h X (unaryOp op v1) d) :
    Gv prog w A h X (eval (.UnaryOp op x pos) env) d := fun hX s Q E hk hQ =>
  wpAny_bind (hl hX s _ _ hk fun v1 s1 k1 r1 => wpAny_bind (wpAny_standAt (wpAny_holding (ho s1.heap v1 r1 (hX.up (hk.trans k1.kp)) s1 _ _ Kp.refl fun v s3 k3 r3 => hQ v s3 (k1.tr k3) r3))))

-- ints
theorem add_ii {a b : Int} : BinD prog w A X .Add (.int a) (.int b) (.int (a + b)) := by
  rintro h _ _ ⟨t, rfl⟩ ⟨u, rfl⟩ hX s Q E hk hQ; exact PyProof.Rows.add_int (hQ _ _ keeps_tok ⟨_, rfl⟩)
theorem sub_ii {a b : Int} : BinD prog w A X .Sub (.int a) (.int b) (.int (a - b)) := by
  rintro h _ _ ⟨t, rfl⟩ ⟨u, rfl⟩ hX s Q E hk hQ; exact PyProof.Rows.sub_int (hQ _ _ keeps_tok ⟨_, rfl⟩)
theorem iadd_ii {a b : Int} : InpD prog w A X .Add (.int a) (.int b) (.int (a + b)) := by
  rintro h _ _ ⟨t, rfl⟩ ⟨u, rfl⟩ hX s Q E hk hQ; exact PyProof.Rows.iadd_int (hQ _ _ keeps_tok ⟨_, rfl⟩)
theorem isub_ii {a b : Int} : InpD prog w A X .Sub (.int a) (.int b) (.int (a - b)) := by
  rintro h _ _ ⟨t, rfl⟩ ⟨u, rfl⟩ hX s Q E hk hQ; exact PyProof.Rows.isub_int (hQ _ _ keeps_tok ⟨_, rfl⟩)
theorem mul_ii {a b : Int} (hm : IntMulOk a b) : BinD prog w A X .Mult (.int a) (.int b) (.int (a * b)) := by
  rintro h _ _ ⟨t, rfl⟩ ⟨u, rfl⟩ hX s Q E hk hQ; exact PyProof.Rows.mul_int (hQ _ _ keeps_tok ⟨_, rfl⟩) hm
theorem mod_ii {a b : Int} (hb : b ≠ 0) : BinD prog w A X .Mod (.int a) (.int b) (.int (a.fmod b)) := by
  rintro h _ _ ⟨t, rfl⟩ ⟨u, rfl⟩ hX s Q E hk hQ; exact PyProof.Rows.mod_int' hb (hQ _ _ keeps_tok ⟨_, rfl⟩)
theorem div_ii {a b : Int} (hb : b ≠ 0) (hp : Builtin.divisionGoesByPylong a b = false) : BinD prog w A X .FloorDiv (.int a) (.int b) (.int (a.fdiv b)) := by
  rintro h _ _ ⟨t, rfl⟩ ⟨u, rfl⟩ hX s Q E hk hQ; exact PyProof.Rows.floordiv_int hb (hQ _ _ keeps_tok ⟨_, rfl⟩) (.inl hp)
theorem pow_ii {a n : Int} (hn : 0 ≤ n) (hn2 : n ≤ 1000000) (ha : a.natAbs < 2 ^ 64) : BinD prog w A X .Pow (.int a) (.int n) (.int (a ^ n.toNat)) := by
  rintro h _ _ ⟨t, rfl⟩ ⟨u, rfl⟩ hX s Q E hk hQ; exact PyProof.Rows.pow_int_small hn hn2 ha (hQ _ _ keeps_tok ⟨_, rfl⟩)
theorem and_ii {a b : Int} : BinD prog w A X .BitAnd (.int a) (.int b) (.int (Builtin.bitAnd a b)) := by
  rintro h _ _ ⟨t, rfl⟩ ⟨u, rfl⟩ hX s Q E hk hQ; exact PyProof.Rows.and_int (hQ _ _ keeps_tok ⟨_, rfl⟩)
theorem ior_ii {a b : Int} : InpD prog w A X .BitOr (.int a) (.int b) (.int (Builtin.bitOr a b)) := by
  rintro h _ _ ⟨t, rfl⟩ ⟨u, rfl⟩ hX s Q E hk hQ; exact PyProof.Rows.ior_int (hQ _ _ keeps_tok ⟨_, rfl⟩)
theorem ishl_ii {a n : Int} (hn : 0 ≤ n) (hn2 : n ≤ 1000000) (ha : a.natAbs < 2 ^ 64) : InpD prog w A X .LShift (.int a) (.int n) (.int (a * 2 ^ n.toNat)) := by
  rintro h _ _ ⟨t, rfl⟩ ⟨u, rfl⟩ hX s Q E hk hQ; exact PyProof.Rows.ilshift_int_small hn hn2 ha (hQ _ _ keeps_tok ⟨_, rfl⟩)
theorem neg_i {a : Int} (h : Heap) (v : Value) (r : Rd X h v (.int a)) : Gv prog w A h X (unaryOp .USub v) (.int (-a)) := by
  obtain ⟨t, rfl⟩ := r
  intro hX s Q E hk hQ; exact PyProof.Rows.neg_int (hQ _ _ keeps_tok ⟨_, rfl⟩)
theorem lt_ii {a b : Int} : CmpD prog w A X .Lt (.int a) (.int b) (decide (a < b)) := by
  rintro h _ _ ⟨t, rfl⟩ ⟨u, rfl⟩ hX s Q E hk hQ; exact PyProof.Rows.lt_int (hQ _ _ keeps_refl rfl)
theorem gt_ii {a b : Int} : CmpD prog w A X .Gt (.int a) (.int b) (decide (b < a)) := by
  rintro h _ _ ⟨t, rfl⟩ ⟨u, rfl⟩ hX s Q E hk hQ; exact PyProof.Rows.gt_int (hQ _ _ keeps_refl rfl)
theorem ge_ii {a b : Int} : CmpD prog w A X .GtE (.int a) (.int b) (decide (b ≤ a)) := by
  rintro h _ _ ⟨t, rfl⟩ ⟨u, rfl⟩ hX s Q E hk hQ; exact PySem.P.ge_int (hQ _ _ keeps_refl rfl)
theorem eq_ii {a b : Int} : CmpD prog w A X .Eq (.int a) (.int b) (a == b) := by
  rintro h _ _ ⟨t, rfl⟩ ⟨u, rfl⟩ hX s Q E hk hQ; exact PyProof.Rows.eq_int (hQ _ _ keeps_refl rfl)
theorem ne_ii {a b : Int} : CmpD prog w A X .NotEq (.int a) (.int b) (a != b) := by
  rintro h _ _ ⟨t, rfl⟩ ⟨u, rfl⟩ hX s Q E hk hQ; exact PyProof.Rows.ne_int (hQ _ _ keeps_refl rfl)
theorem tru_i {a : Int} : TruD prog w A X (.int a) (a != 0) := by
  rintro h _ ⟨t, rfl⟩ hX s Q E hk hQ; exact PySem.P.truthy_int (hQ _ keeps_refl)
theorem tru_b {b : Bool} : TruD prog w A X (.bool b) b := by
  rintro h _ rfl hX s Q E hk hQ; exact wpAny_truthy_bool (hQ _ keeps_refl)
-- strs
theorem add_ss {a b : Str} (hz : a.length + b.length ≤ sizeLine) : BinD prog w A X .Add (.str a) (.str b) (.str (a ++ b)) := by
  rintro h _ _ ⟨t, rfl⟩ ⟨u, rfl⟩ hX s Q E hk hQ; exact PyProof.Rows.add_str (fun _ _ => hQ _ _ keeps_tok ⟨_, rfl⟩) hz
end
end Mine
end
section
open PySem PySem.W PyProof.Rows
namespace Mine

/-- what every call leans on -/
structure Gl (mg mb : Str → Option Value) (h : Heap) : Prop where
  g : h.Ns mainGlobals mg
  b : h.Ns builtinsNs mb
  nolimit : h.NoLimit
theorem Gl.up {mg mb : Str → Option Value} {h h' : Heap} (g : Gl mg mb h) (k : Kp h h') : Gl mg mb h' := ⟨g.g.keeps k, g.b.keeps k, g.nolimit.keeps k⟩

structure EnvOk (env : Env) : Prop where
  kind : env.scope.kind = .function
  gl : env.globals = mainGlobals
  bl : env.builtins = builtinsNs
  apart : ∀ n n' c, env.cells.lookup n = some c → env.cells.lookup n' = some c → n = n'

/-- the name is bound to the value -/
noncomputable def At (env : Env) (h : Heap) (x : Str) (v : Value) : Prop := (env.kindOf x = some .local ∧ ∃ m, h.Ns env.locals m ∧ m x = some v) ∨
  ((env.kindOf x = some .cell ∨ (env.kindOf x = some .free ∧ (x == ("__classdict__" : Str)) = false)) ∧ ∃ c, env.cells.lookup x = some c ∧ h.IsCell c (some v))
theorem At.up {env : Env} {h h' : Heap} {x : Str} {v : Value} (a : At env h x v) (k : Kp h h') : At env h' x v :=
  a.elim (fun ⟨q, m, hn, hm⟩ => .inl ⟨q, m, hn.keeps k, hm⟩) fun ⟨q, c, hc, hv⟩ => .inr ⟨q, c, hc, hv.keeps k⟩
noncomputable def Var (env : Env) (h : Heap) (X : List Addr) (x : Str) (d : D) : Prop := ∃ v, At env h x v ∧ Rd X h v d
theorem Var.up {env : Env} {h h' : Heap} {X : List Addr} {x : Str} {d : D} (v : Var env h X x d) (k : Kp h h') : Var env h' X x d := let ⟨v, a, r⟩ := v; ⟨v, a.up k, r.up k⟩

section
variable {prog : Program} {w : World} {A : Around} {env : Env} {h : Heap} {X : List Addr} {mg mb : Str → Option Value}

theorem wp_at {x : Str} {pos : Pos} {v : Value} {s : Shared} {Q : Value → Shared → Prop} {E : Value → Shared → Prop} (eo : EnvOk env) (a : At env s.heap x v) (hQ : Q v s)
    (hd : (x == ("__debug__" : Str)) = false := by decide) : wpAny (model prog w) A (eval (.Name x pos) env) Q E s := by
  refine wpAny_Name ?_ hd
  rcases a with ⟨hl, m, hn, hm⟩ | ⟨hl, c, hc, hv⟩
  · exact wpAny_loadName_local eo.kind hl hn hm hQ
  · rcases hl with hl | ⟨hl, hn⟩
    · exact wpAny_loadName_cell eo.kind hl hc hv hQ
    · exact wpAny_loadName_free eo.kind hl hc hv hQ hn
theorem ev_name {x : Str} {pos : Pos} {d : D} (eo : EnvOk env) (v : Var env h X x d) (hd : (x == ("__debug__" : Str)) = false := by decide) : Gv prog w A h X (eval (.Name x pos) env) d := by
  intro hX s Q E hk hQ
  obtain ⟨v, a, r⟩ := v
  exact wp_at eo (a.up hk) (hQ _ _ keeps_refl (r.up hk)) hd

/-- a global's name gives the value -/
theorem wp_glob {x : Str} {pos : Pos} {v : Value} {s : Shared} {Q : Value → Shared → Prop} {E : Value → Shared → Prop} (eo : EnvOk env) (hx : env.kindOf x = some .globalImplicit) (g : Gl mg mb s.heap) (hv : mg x = some v) (h : Q v s)
    (hd : (x == ("__debug__" : Str)) = false := by decide) : wpAny (model prog w) A (eval (.Name x pos) env) Q E s :=
  Calls.Name_function_global eo.kind hx (Calls.loadGlobal_global (by rw [eo.gl]; exact g.g) hv h) hd
theorem wp_bltn {x : Str} {pos : Pos} {v : Value} {s : Shared} {Q : Value → Shared → Prop} {E : Value → Shared → Prop} (eo : EnvOk env) (hx : env.kindOf x = some .globalImplicit) (g : Gl mg mb s.heap) (hm : mg x = none) (hv : mb x = some v) (h : Q v s)
    (hd : (x == ("__debug__" : Str)) = false := by decide) : wpAny (model prog w) A (eval (.Name x pos) env) Q E s :=
  Calls.Name_function_global eo.kind hx (Calls.loadGlobal_builtin (by rw [eo.gl]; exact g.g) hm (by rw [eo.bl]; exact g.b) hv h) hd
theorem ev_glob {x : Str} {pos : Pos} {v : Value} {d : D} (eo : EnvOk env) (hx : env.kindOf x = some .globalImplicit) (g : Gl mg mb h) (hv : mg x = some v) (r : Rd X h v d)
    (hd : (x == ("__debug__" : Str)) = false := by decide) : Gv prog w A h X (eval (.Name x pos) env) d := fun hX s Q E hk hQ =>
  wp_glob eo hx (g.up hk) hv (hQ _ _ keeps_refl (r.up hk)) hd

-- several in a row
theorem gs_nil {pos : Pos} : Gs prog w A h X (spliced (backTo pos (starEach [] env))) [] := fun hX s Q E hk hQ => spliced_none (hQ _ _ keeps_refl trivial)
theorem gs_cons {e : Expr} {rest : List Expr} {pos : Pos} {d : D} {ds : List D} (he : Gv prog w A h X (eval e env) d) (hr : Gs prog w A h X (spliced (backTo pos (starEach rest env))) ds)
    (hs : starEach (e :: rest) env = (false, eval e env) :: starEach rest env := by rfl) : Gs prog w A h X (spliced (backTo pos (starEach (e :: rest) env))) (d :: ds) := fun hX s Q E hk hQ =>
  spliced_more (he hX s _ _ hk fun v s1 k1 r1 => hr hX s1 _ _ (hk.trans k1.kp) fun vs s2 k2 r2 => hQ (v :: vs) s2 (k1.tr k2) ⟨r1.up k2.kp, r2⟩) hs

/-- a new list | tuple -/
theorem gv_newList {vs : List Value} {ds : List D} (r : Rds X h vs ds) (hz : ds.length ≤ sizeLine) : Gv prog w A h X (newList vs) (.lst ds) := fun hX s Q E hk hQ =>
  wpAny_newList (hQ _ _ keeps_push ⟨_, vs, 0, rfl, (hX.up hk).off, Heap.get?_push_size _ rfl, (r.up hk).up kp_push⟩) (by rw [r.length]; exact hz)
theorem gv_newTuple {vs : List Value} {ds : List D} (r : Rds X h vs ds) (hz : ds.length ≤ sizeLine) : Gv prog w A h X (newTuple vs) (.tup ds) := fun hX s Q E hk hQ =>
  wpAny_newTuple (hQ _ _ keeps_push ⟨_, vs, 0, rfl, (hX.up hk).off, Heap.get?_push_size _ rfl, (r.up hk).up kp_push⟩) (by rw [r.length]; exact hz)
theorem ev_list {es : List Expr} {pos : Pos} {ds : List D} (hs : Gs prog w A h X (spliced (backTo pos (starEach es env))) ds) (hz : ds.length ≤ sizeLine) : Gv prog w A h X (eval (.List es pos) env) (.lst ds) := fun hX s Q E hk hQ =>
  wpAny_bind (wpAny_standAt (wpAny_bind (hs hX s _ _ hk fun vs s1 k1 r1 => gv_newList r1 hz (hX.up (hk.trans k1.kp)) s1 _ _ Kp.refl fun v s2 k2 r2 => hQ v s2 (k1.tr k2) r2)))
theorem ev_tuple {es : List Expr} {k : Nat} {pos : Pos} {ds : List D} (hs : Gs prog w A h X (spliced (backTo pos (starEach es env))) ds) (hz : ds.length ≤ sizeLine) : Gv prog w A h X (eval (.Tuple es k pos) env) (.tup ds) := fun hX s Q E hk hQ =>
  wpAny_bind (wpAny_standAt (wpAny_bind (hs hX s _ _ hk fun vs s1 k1 r1 => gv_newTuple r1 hz (hX.up (hk.trans k1.kp)) s1 _ _ Kp.refl fun v s2 k2 r2 => hQ v s2 (k1.tr k2) r2)))

theorem lo_isList {vs : List Value} {n : Nat} {a : Addr} (e : h.get? a = some (LO vs n)) : h.IsList a vs.toArray := ⟨_, e, rfl, n, rfl⟩
theorem to_isTup {vs : List Value} {n : Nat} {a : Addr} (e : h.get? a = some (TO vs n)) : IsTup h a vs.toArray := ⟨_, e, rfl, n, rfl⟩

/-- an item: the value's type, its __getitem__, and what it gives -/
noncomputable def GetD (prog : Program) (w : World) (A : Around) (X : List Addr) (d1 d2 d : D) : Prop := ∀ h v1 v2, Rd X h v1 d1 → Rd X h v2 d2 →
  ∃ T id, typeLookup (.type T) "__getitem__" = pure (some (.builtin id)) ∧ ∀ (s : Shared) (Q : Value → Shared → Prop) (E : Value → Shared → Prop), Kp h s.heap → (∀ v s', Kps s s' → Rd X s'.heap v d → Q v s') →
    s.TypeIs v1 T ∧ wpAny (model prog w) A (getItem v1 v2) Q E s
theorem ev_item {value slice : Expr} {pos : Pos} {d1 d2 d : D} (h1 : Gv prog w A h X (eval value env) d1) (h2 : Gv prog w A h X (eval slice env) d2) (hg : GetD prog w A X d1 d2 d)
    (hs : ∀ o i, subscripted slice false o i = operate [o, i] (getItem o i) := by intro _ _; with_unfolding_all rfl) : Gv prog w A h X (eval (.Subscript value slice pos) env) d := fun hX s Q E hk hQ =>
  Subscript_ (h1 hX s _ _ hk fun v1 s1 k1 r1 => h2 hX s1 _ _ (hk.trans k1.kp) fun v2 s2 k2 r2 => by
    obtain ⟨T, id, hl, hh⟩ := hg s2.heap v1 v2 (r1.up k2.kp) r2
    obtain ⟨hT, hq⟩ := hh s2 Q E Kp.refl fun v s3 k3 r3 => hQ v s3 (k1.tr (k2.tr k3)) r3
    exact tail_any hT hl hq (hs _ _))
theorem get_li {ds : List D} {k : Int} {d : D} (h0 : 0 ≤ k) (h1 : k < 2 ^ 63) (hd : ds[k.toNat]? = some d) : GetD prog w A X (.lst ds) (.int k) d := by
  rintro h _ _ ⟨a, vs, n, rfl, hn, hg, hr⟩ ⟨t, rfl⟩
  obtain ⟨v, hv, r⟩ := hr.get hd
  refine ⟨_, _, slot_list_getitem.lookup, fun s Q E hk hQ => ⟨(lo_isList (hk _ _ hg)).typeIs, wpAny_getItem_list (lo_isList (hk _ _ hg)) h0 h1 (by simpa using hv) (hQ _ _ keeps_refl (r.up hk))⟩⟩
theorem get_li_neg {ds : List D} {k : Int} {d : D} (h0 : k < 0) (h1 : -(ds.length : Int) ≤ k) (hf : -(2 ^ 63) ≤ k) (hd : ds[(k + ds.length).toNat]? = some d) : GetD prog w A X (.lst ds) (.int k) d := by
  rintro h _ _ ⟨a, vs, n, rfl, hn, hg, hr⟩ ⟨t, rfl⟩
  obtain ⟨v, hv, r⟩ := hr.get hd
  have hl := hr.length
  refine ⟨_, _, slot_list_getitem.lookup, fun s Q E hk hQ => ⟨(lo_isList (hk _ _ hg)).typeIs, wpAny_getItem_list_neg (lo_isList (hk _ _ hg)) h0 (by rw [List.size_toArray, hl]; exact h1) hf
    (by rw [List.size_toArray, hl]; simpa using hv) (hQ _ _ keeps_refl (r.up hk))⟩⟩
theorem get_ti {ds : List D} {k : Int} {d : D} (h0 : 0 ≤ k) (h1 : k < 2 ^ 63) (hd : ds[k.toNat]? = some d) : GetD prog w A X (.tup ds) (.int k) d := by
  rintro h _ _ ⟨a, vs, n, rfl, hn, hg, hr⟩ ⟨t, rfl⟩
  obtain ⟨v, hv, r⟩ := hr.get hd
  have hlt : k.toNat < vs.length := by
    rcases Nat.lt_or_ge k.toNat vs.length with q | q
    · exact q
    · rw [List.getElem?_eq_none q] at hv; cases hv
  refine ⟨_, _, slot_tuple_getitem.lookup, fun s Q E hk hQ => ⟨(to_isTup (hk _ _ hg)).typeIs, PyProof.Rows.getItem_tuple (to_isTup (hk _ _ hg)) (by omega) h1
    (seqIndex_of h0 (by rw [List.size_toArray]; omega)) (by simpa using hv) (hQ _ _ keeps_refl (r.up hk))⟩⟩
theorem get_si {x : Str} {k : Int} {c : Nat} (h0 : 0 ≤ k) (h1 : k < 2 ^ 63) (hd : x.cps[k.toNat]? = some c) : GetD prog w A X (.str x) (.int k) (.str ⟨#[c]⟩) := by
  rintro h _ _ ⟨t, rfl⟩ ⟨u, rfl⟩
  have hlt : k.toNat < x.cps.size := by
    rcases Nat.lt_or_ge k.toNat x.cps.size with q | q
    · exact q
    · rw [Array.getElem?_eq_none q] at hd; cases hd
  refine ⟨_, _, slot_str_getitem.lookup, fun s Q E hk hQ => ⟨typeIs_str _ _ _, PyProof.Rows.getItem_str (by simp; omega)
    (by rw [seqIndex_of h0 (by show k < (x.cps.size : Int); omega)]; exact hd) (hQ _ _ keeps_tok ⟨_, rfl⟩)⟩⟩

-- slices
noncomputable def Gp (prog : Program) (w : World) (A : Around) (h : Heap) (X : List Addr) (env : Env) (e : Option Expr) (p : Option Int) : Prop := XOk X h →
  ∀ (s : Shared) (Q : Value → Shared → Prop) (E : Value → Shared → Prop), Kp h s.heap → (∀ v s', Kps s s' → IsPart v p → Q v s') → wpAny (model prog w) A (evalPart e env) Q E s
theorem gp_none : Gp prog w A h X env none none := fun _ s Q E hk hQ => wpAny_pure (hQ _ _ keeps_refl .none)
theorem gp_some {e : Expr} {i : Int} (he : Gv prog w A h X (eval e env) (.int i)) : Gp prog w A h X env (some e) (some i) := fun hX s Q E hk hQ => he hX s Q E hk fun v s1 k1 r1 => by
  obtain ⟨t, rfl⟩ := r1
  exact hQ _ _ k1 (.int i t)
noncomputable def cut (ds : List D) (lo hi : Option Int) : List D := (ds.drop (kms_lo lo ds.length)).take (kms_hi hi ds.length - kms_lo lo ds.length)
theorem cut_rds {vs : List Value} {ds : List D} (r : Rds X h vs ds) (lo hi : Option Int) : Rds X h (kms_pick vs lo hi) (cut ds lo hi) := by
  unfold kms_pick cut
  rw [r.length]
  exact (r.drop _).take _
theorem cut_len (ds : List D) (lo hi : Option Int) : (cut ds lo hi).length ≤ ds.length := by
  unfold cut
  rw [List.length_take, List.length_drop]; omega
theorem ev_slice {value : Expr} {lo hi : Option Expr} {p pos : Pos} {ds : List D} {l u : Option Int} (h1 : Gv prog w A h X (eval value env) (.lst ds)) (hl : Gp prog w A h X env lo l) (hu : Gp prog w A h X env hi u)
    (hz : ds.length ≤ sizeLine) : Gv prog w A h X (eval (.Subscript value (.Slice lo hi none p) pos) env) (.lst (cut ds l u)) := fun hX s Q E hk hQ =>
  Subscript_ (h1 hX s _ _ hk fun v1 s1 k1 r1 => wpAny_Slice (hl hX s1 _ _ (hk.trans k1.kp) fun vl s2 k2 p2 => hu hX s2 _ _ (hk.trans (k1.kp.trans k2.kp)) fun vu s3 k3 p3 => gp_none (h := s3.heap) (X := []) XOk.nil s3 _ _ Kp.refl fun vst s4 k4 p4 => by
    obtain ⟨a, vs, n, rfl, hn, hg, hr⟩ := r1.up (k2.kp.trans (k3.kp.trans k4.kp))
    cases p4
    have K4 := hk.trans (k1.kp.trans (k2.kp.trans (k3.kp.trans k4.kp)))
    refine tail_any (ops := [.ref s4.heap.objs.size, .ref a]) (T := "list") (id := "list.__getitem__") (lo_isList (n := n) (Heap.get?_push_of_some _ hg)).typeIs slot_list_getitem.lookup (wpAny_getItem_list_slice (lo_isList (n := n) (Heap.get?_push_of_some _ hg)) (Heap.IsSliceOf.new ..) p2 p3 .none (by simp) ?_ (by rw [List.size_toArray, hr.length]; exact hz)) rfl
    refine hQ _ _ (k1.tr (k2.tr (k3.tr (k4.tr (keeps_push.tr keeps_push))))) ⟨_, kms_pick vs l u, 0, rfl, ((hX.up K4).up kp_push).off, ?_, ((cut_rds hr l u).up kp_push).up kp_push⟩
    have e := Heap.get?_push_size (h := s4.heap.push { cls := .type "slice", data := .fields #[vl, vu, .none] }) (o := { cls := .type "list", data := .seq (slicePick vs.toArray l u none) }) rfl
    rw [kms_pick_eq] at e
    rw [kms_pick_eq]
    exact e))
theorem ev_rev {value st : Expr} {p pos : Pos} {ds : List D} (h1 : Gv prog w A h X (eval value env) (.lst ds)) (hs : Gp prog w A h X env (some st) (some (-1)))
    (hz : ds.length ≤ sizeLine) : Gv prog w A h X (eval (.Subscript value (.Slice none none (some st) p) pos) env) (.lst ds.reverse) := fun hX s Q E hk hQ =>
  Subscript_ (h1 hX s _ _ hk fun v1 s1 k1 r1 => wpAny_Slice (gp_none (h := s1.heap) (X := []) XOk.nil s1 _ _ Kp.refl fun vl s2 k2 p2 => gp_none (h := s2.heap) (X := []) XOk.nil s2 _ _ Kp.refl fun vu s3 k3 p3 => hs hX s3 _ _ (hk.trans (k1.kp.trans (k2.kp.trans k3.kp))) fun vst s4 k4 p4 => by
    obtain ⟨a, vs, n, rfl, hn, hg, hr⟩ := r1.up (k2.kp.trans (k3.kp.trans k4.kp))
    have K4 := hk.trans (k1.kp.trans (k2.kp.trans (k3.kp.trans k4.kp)))
    refine tail_any (ops := [.ref a, .ref s4.heap.objs.size]) (T := "list") (id := "list.__getitem__") (lo_isList (n := n) (Heap.get?_push_of_some _ hg)).typeIs slot_list_getitem.lookup (wpAny_getItem_list_slice (lo_isList (n := n) (Heap.get?_push_of_some _ hg)) (Heap.IsSliceOf.new ..) p2 p3 p4 (by simp) ?_ (by rw [List.size_toArray, hr.length]; exact hz)) rfl
    refine hQ _ _ (k1.tr (k2.tr (k3.tr (k4.tr (keeps_push.tr keeps_push))))) ⟨_, vs.reverse, 0, rfl, ((hX.up K4).up kp_push).off, ?_, (hr.rev.up kp_push).up kp_push⟩
    have e := Heap.get?_push_size (h := s4.heap.push { cls := .type "slice", data := .fields #[vl, vu, vst] }) (o := { cls := .type "list", data := .seq (slicePick vs.toArray none none (some (-1))) }) rfl
    rw [krv_pick] at e
    rw [krv_pick]
    exact e))

theorem add_ll {xs ys : List D} (hz : xs.length + ys.length ≤ sizeLine) : BinD prog w A X .Add (.lst xs) (.lst ys) (.lst (xs ++ ys)) := by
  rintro h _ _ ⟨a, vs, n, rfl, hn, hg, hr⟩ ⟨b, ws, m, rfl, hm, hg2, hr2⟩ hX s Q E hk hQ
  refine PySem.P.add_list (hk _ _ hg) (hk _ _ hg2) (hQ _ _ keeps_push ⟨_, vs ++ ws, 0, rfl, (hX.up hk).off, ?_, ((hr.app hr2).up hk).up kp_push⟩) (by rw [List.size_toArray, List.size_toArray, hr.length, hr2.length]; exact hz)
  have e := Heap.get?_push_size (h := s.heap) (o := { cls := .type "list", data := .seq (vs.toArray ++ ws.toArray) }) rfl
  rw [List.append_toArray] at e ⊢
  exact e
end
end Mine
end
section
open PySem PySem.W PyProof.Rows
namespace Mine

theorem Rd.same {X : List Addr} {h h' : Heap} {a : Addr} {v : Value} {d : D} (r : Rd X h v d) (hs : Heap.SameBut a h h') (ha : a ∈ X ∨ ∃ o, h.get? a = some o ∧ ¬ IsSeqO o) : Rd X h' v d :=
  Rd.go (fun _ x => x) (fun b o hb hq e => hs.extBut b o (fun eb => by
    subst eb
    rcases ha with ha | ⟨o', e', hn⟩
    · exact hb ha
    · rw [e] at e'; cases e'; exact hn hq) e) d r
theorem Rds.same {X : List Addr} {h h' : Heap} {a : Addr} {v : List Value} {d : List D} (r : Rds X h v d) (hs : Heap.SameBut a h h') (ha : a ∈ X ∨ ∃ o, h.get? a = some o ∧ ¬ IsSeqO o) : Rds X h' v d :=
  Rds.go (fun _ x => x) (fun b o hb hq e => hs.extBut b o (fun eb => by
    subst eb
    rcases ha with ha | ⟨o', e', hn⟩
    · exact hb ha
    · rw [e] at e'; cases e'; exact hn hq) e) d r
mutual
theorem Rd.more {X : List Addr} {h : Heap} {a : Addr} (ha : h.get? a = none) : ∀ {v : Value} (d : D), Rd X h v d → Rd (a :: X) h v d
  | _, .none, r => r
  | _, .bool _, r => r
  | _, .int _, r => r
  | _, .str _, r => r
  | _, .tup ds, r => by
    obtain ⟨b, vs, n, e, hn, hg, hr⟩ := r
    exact ⟨b, vs, n, e, fun hm => by
      rcases List.mem_cons.mp hm with q | q
      · subst q; rw [ha] at hg; cases hg
      · exact hn q, hg, Rds.more ha ds hr⟩
  | _, .lst ds, r => by
    obtain ⟨b, vs, n, e, hn, hg, hr⟩ := r
    exact ⟨b, vs, n, e, fun hm => by
      rcases List.mem_cons.mp hm with q | q
      · subst q; rw [ha] at hg; cases hg
      · exact hn q, hg, Rds.more ha ds hr⟩
theorem Rds.more {X : List Addr} {h : Heap} {a : Addr} (ha : h.get? a = none) : ∀ {vs : List Value} (ds : List D), Rds X h vs ds → Rds (a :: X) h vs ds
  | [], [], _ => trivial
  | _ :: _, d :: ds, r => ⟨Rd.more ha d r.1, Rds.more ha ds r.2⟩
  | [], _ :: _, r => r.elim
  | _ :: _, [], r => r.elim
end

theorem ns_notSeq {h : Heap} {a : Addr} {m : Str → Option Value} (n : h.Ns a m) : ∃ o, h.get? a = some o ∧ ¬ IsSeqO o := by
  obtain ⟨o, es, ep, ho, hd, _⟩ := n
  exact ⟨o, ho, fun ⟨_, _, e⟩ => by rw [hd] at e; cases e⟩
theorem cell_notSeq {h : Heap} {a : Addr} {v : Option Value} (n : h.IsCell a v) : ∃ o, h.get? a = some o ∧ ¬ IsSeqO o := by
  obtain ⟨o, ho, hd⟩ := n
  exact ⟨o, ho, fun ⟨_, _, e⟩ => by rw [hd] at e; cases e⟩
/-- neither a sequence nor a record -/
noncomputable def NSF (h : Heap) (a : Addr) : Prop := ∃ o, h.get? a = some o ∧ ¬ IsSeqO o ∧ ∀ vs, o.data ≠ .fields vs
theorem NSF.notSeq {h : Heap} {a : Addr} (x : NSF h a) : ∃ o, h.get? a = some o ∧ ¬ IsSeqO o := let ⟨o, e, n, _⟩ := x; ⟨o, e, n⟩
theorem ns_nsf {h : Heap} {a : Addr} {m : Str → Option Value} (n : h.Ns a m) : NSF h a := by
  obtain ⟨o, es, ep, ho, hd, _⟩ := n
  exact ⟨o, ho, fun ⟨_, _, e⟩ => (by rw [hd] at e; cases e), fun _ e => (by rw [hd] at e; cases e)⟩
theorem cell_nsf {h : Heap} {a : Addr} {v : Option Value} (n : h.IsCell a v) : NSF h a := by
  obtain ⟨o, ho, hd⟩ := n
  exact ⟨o, ho, fun ⟨_, _, e⟩ => (by rw [hd] at e; cases e), fun _ e => (by rw [hd] at e; cases e)⟩
theorem ns_cell_ne {h : Heap} {a c : Addr} {m : Str → Option Value} {v : Option Value} (n : h.Ns a m) (k : h.IsCell c v) : c ≠ a := by
  rintro rfl
  obtain ⟨o, es, ep, ho, hd, _⟩ := n
  obtain ⟨o', ho', hd'⟩ := k
  rw [ho] at ho'; cases ho'
  rw [hd] at hd'; cases hd'
theorem ns_list_ne {h : Heap} {a c : Addr} {m : Str → Option Value} {vs : List Value} {n : Nat} (x : h.Ns a m) (k : h.get? c = some (LO vs n)) : c ≠ a := by
  rintro rfl
  obtain ⟨o, es, ep, ho, hd, _⟩ := x
  rw [ho] at k; cases k
  cases hd
theorem cell_list_ne {h : Heap} {a c : Addr} {v : Option Value} {vs : List Value} {n : Nat} (x : h.IsCell a v) (k : h.get? c = some (LO vs n)) : c ≠ a := by
  rintro rfl
  obtain ⟨o, ho, hd⟩ := x
  rw [ho] at k; cases k
  cases hd

/-- what stands fast of a frame -/
structure Fm (hb : Heap) (env : Env) : Prop where
  eo : EnvOk env
  nol : hb.get? env.locals = none

/-- what a name holds -/
inductive Sl where
  | d (d : D)
  | own (a : Addr) (ds : List D)
  | val (v : Value)
  | iter (I l : Addr) (i : Nat) (ns : List Int)
noncomputable def RS (X : List Addr) (h : Heap) (v : Value) : Sl → Prop
  | .d d => Rd X h v d
  | .own a ds => v = .ref a ∧ a ∈ X ∧ ∃ vs n, h.get? a = some (LO vs n) ∧ Rds X h vs ds
  | .val v0 => v = v0
  | .iter I l i ns => v = .ref I ∧ h.IsListIter I l i ∧ l ∉ X ∧ ∃ vs n, h.get? l = some (LO vs n) ∧ Rds X h vs (ns.map .int)
theorem RS.up {X : List Addr} {h h' : Heap} {v : Value} {sl : Sl} (r : RS X h v sl) (k : Kp h h') : RS X h' v sl := by
  cases sl with
  | d d => exact Rd.up r k
  | own a ds => obtain ⟨e, ha, vs, n, hg, hr⟩ := r; exact ⟨e, ha, vs, n, k _ _ hg, hr.up k⟩
  | val v0 => exact r
  | iter I l i ns => obtain ⟨e, hi, hl, vs, n, hg, hr⟩ := r; exact ⟨e, hi.at fun o e => k _ o e, hl, vs, n, k _ _ hg, hr.up k⟩

noncomputable abbrev Sg := Str → Option Sl
noncomputable def upd (σ : Sg) (x : Str) (sl : Sl) : Sg := fun y => if y = x then some sl else σ y

noncomputable def SR (s0 s : Shared) : Prop := s.gens = s0.gens ∧ s.drawn = s0.drawn ∧ s.os = s0.os
theorem SR.up {s0 s s' : Shared} (r : SR s0 s) (k : Kps s s') : SR s0 s' := by
  obtain ⟨h', tk, rfl, hk⟩ := k
  exact r
theorem SR.kps {s s' : Shared} (r : SR s s') (k : Kp s.heap s'.heap) : Kps s s' := by
  obtain ⟨h', g', d', t', o'⟩ := s'
  obtain ⟨h, g, d, t, o⟩ := s
  obtain ⟨r1, r2, r3⟩ := r
  dsimp only at r1 r2 r3
  subst r1 r2 r3
  exact ⟨h', t', rfl, k⟩

structure St (s0 : Shared) (hb : Heap) (env : Env) (X : List Addr) (σ : Sg) (s : Shared) : Prop where
  kp : Kp hb s.heap
  nst : ∃ m, s.heap.Ns env.locals m
  cells : ∀ n c, env.cells.lookup n = some c → ∃ v, s.heap.IsCell c v
  var : ∀ x sl, σ x = some sl → ∃ v, At env s.heap x v ∧ RS X s.heap v sl
  xok : XOk X s.heap
  od : ∀ x y a ds a' ds', σ x = some (.own a ds) → σ y = some (.own a' ds') → x ≠ y → a ≠ a'
  ob : ∀ x a ds, σ x = some (.own a ds) → hb.get? a = none
  rest : SR s0 s
  ib : ∀ x I l i ns, σ x = some (.iter I l i ns) → hb.get? I = none
  oi : ∀ x y I l i ns I' l' i' ns', σ x = some (.iter I l i ns) → σ y = some (.iter I' l' i' ns') → x = y

section
variable {prog : Program} {w : World} {A : Around} {env : Env} {h hb : Heap} {X : List Addr} {mg mb : Str → Option Value} {σ : Sg} {s s0 : Shared}

theorem St.up (q : St s0 hb env X σ s) {s' : Shared} (k : Kps s s') : St s0 hb env X σ s' where
  kp := q.kp.trans k.kp
  nst := let ⟨m, n⟩ := q.nst; ⟨m, n.keeps k.kp⟩
  cells := fun n c e => let ⟨v, hv⟩ := q.cells n c e; ⟨v, hv.keeps k.kp⟩
  var := fun x sl e => let ⟨v, a, r⟩ := q.var x sl e; ⟨v, a.up k.kp, r.up k.kp⟩
  xok := q.xok.up k.kp
  od := q.od
  ob := q.ob
  rest := q.rest.up k
  ib := q.ib
  oi := q.oi
theorem St.weak (q : St s0 hb env X σ s) {σ' : Sg} (hs : ∀ x sl, σ' x = some sl → σ x = some sl) : St s0 hb env X σ' s where
  kp := q.kp
  nst := q.nst
  cells := q.cells
  var := fun x sl e => q.var x sl (hs x sl e)
  xok := q.xok
  od := fun x y a ds a' ds' e1 e2 => q.od x y a ds a' ds' (hs _ _ e1) (hs _ _ e2)
  ob := fun x a ds e => q.ob x a ds (hs _ _ e)
  rest := q.rest
  ib := fun x I l i ns e => q.ib x I l i ns (hs _ _ e)
  oi := fun x y I l i ns I' l' i' ns' e1 e2 => q.oi x y I l i ns I' l' i' ns' (hs _ _ e1) (hs _ _ e2)
/-- a datum's name, off X -/
theorem St.vd (q : St s0 hb env X σ s) {x : Str} {d : D} (e : σ x = some (.d d)) : Var env s.heap X x d := let ⟨v, a, r⟩ := q.var x _ e; ⟨v, a, r⟩
theorem St.v0 (q : St s0 hb env X σ s) {x : Str} {d : D} (e : σ x = some (.d d)) : Var env s.heap [] x d := let ⟨v, a, r⟩ := q.var x _ e; ⟨v, a, Rd.less r fun _ _ => List.not_mem_nil⟩
theorem St.vo (q : St s0 hb env X σ s) {x : Str} {a : Addr} {ds : List D} (e : σ x = some (.own a ds)) : Var env s.heap [] x (.lst ds) := by
  obtain ⟨v, a', rfl, ha, vs, n, hg, hr⟩ := q.var x _ e
  exact ⟨_, a', a, vs, n, rfl, List.not_mem_nil, hg, hr.less fun _ _ => List.not_mem_nil⟩

/-- where a name may be stored -/
noncomputable def Sto (hb : Heap) (env : Env) (x : Str) : Prop := env.kindOf x = some .local ∨ (env.kindOf x = some .cell ∧ ∃ c, env.cells.lookup x = some c ∧ hb.get? c = none)

theorem rs_same {h h' : Heap} {a : Addr} {v : Value} {sl : Sl} (r : RS X h v sl) (hs : Heap.SameBut a h h') (ha : NSF h a) : RS X h' v sl := by
  cases sl with
  | d d => exact Rd.same r hs (.inr ha.notSeq)
  | own b ds =>
    obtain ⟨e, hm, vs, n, hg, hr⟩ := r
    exact ⟨e, hm, vs, n, hs.extBut b _ (fun eb => by subst eb; obtain ⟨o, e', hn⟩ := ha; rw [hg] at e'; cases e'; exact hn.1 ⟨_, _, rfl⟩) hg, hr.same hs (.inr ha.notSeq)⟩
  | val v0 => exact r
  | iter I l i ns =>
    obtain ⟨e, hi, hl, vs, n, hg, hr⟩ := r
    refine ⟨e, hi.at fun o e' => hs.extBut _ o (fun eb => ?_) e', hl, vs, n, hs.extBut l _ (fun eb => ?_) hg, hr.same hs (.inr ha.notSeq)⟩
    · subst eb
      obtain ⟨o1, e1, hn⟩ := ha
      obtain ⟨o2, e2, _, hd⟩ := hi
      rw [e1] at e2; cases e2
      exact hn.2 _ hd
    · subst eb; obtain ⟨o, e', hn⟩ := ha; rw [hg] at e'; cases e'; exact hn.1 ⟨_, _, rfl⟩
theorem xok_same {h h' : Heap} {a : Addr} (x : XOk X h) (hs : Heap.SameBut a h h') (ha : ∃ o, h'.get? a = some o) : XOk X h' := fun b hb => by
  by_cases e : b = a
  · subst e; exact ha
  · obtain ⟨o, ho⟩ := x b hb
    exact ⟨o, hs.extBut b o e ho⟩

theorem st_store_x {x : Str} {v : Value} {sl : Sl} {Q : Unit → Shared → Prop} {E : Value → Shared → Prop} (f : Fm hb env) (q : St s0 hb env X σ s) (hx : Sto hb env x) (r : RS X s.heap v sl)
    (ho : ∀ a ds, sl = .own a ds → hb.get? a = none ∧ ∀ y a' ds', y ≠ x → σ y = some (.own a' ds') → a ≠ a')
    (hit : ∀ I l i ns, sl = .iter I l i ns → hb.get? I = none ∧ ∀ y I' l' i' ns', y ≠ x → σ y ≠ some (.iter I' l' i' ns'))
    (hQ : ∀ s' a, (a = env.locals ∨ ∃ n, env.cells.lookup n = some a) → Heap.SameBut a s.heap s'.heap → St s0 hb env X (upd σ x sl) s' → Q () s') : wpAny (model prog w) A (storeName env x v) Q E s := by
  have od' : ∀ x₁ y a ds a' ds', upd σ x sl x₁ = some (.own a ds) → upd σ x sl y = some (.own a' ds') → x₁ ≠ y → a ≠ a' := by
    intro x₁ y a ds a' ds' e1 e2 hne
    unfold upd at e1 e2
    by_cases h1 : x₁ = x <;> by_cases h2 : y = x
    · exact absurd (h1.trans h2.symm) hne
    · rw [if_pos h1] at e1; rw [if_neg h2] at e2
      exact (ho a ds (Option.some.inj e1)).2 y a' ds' h2 e2
    · rw [if_neg h1] at e1; rw [if_pos h2] at e2
      exact ((ho a' ds' (Option.some.inj e2)).2 x₁ a ds h1 e1).symm
    · rw [if_neg h1] at e1; rw [if_neg h2] at e2
      exact q.od _ _ _ _ _ _ e1 e2 hne
  have ob' : ∀ x₁ a ds, upd σ x sl x₁ = some (.own a ds) → hb.get? a = none := by
    intro x₁ a ds e1
    unfold upd at e1
    by_cases h1 : x₁ = x
    · rw [if_pos h1] at e1; exact (ho a ds (Option.some.inj e1)).1
    · rw [if_neg h1] at e1; exact q.ob _ _ _ e1
  have ib' : ∀ x₁ I l i ns, upd σ x sl x₁ = some (.iter I l i ns) → hb.get? I = none := by
    intro x₁ I l i ns e1
    unfold upd at e1
    by_cases h1 : x₁ = x
    · rw [if_pos h1] at e1; exact (hit I l i ns (Option.some.inj e1)).1
    · rw [if_neg h1] at e1; exact q.ib _ _ _ _ _ e1
  have oi' : ∀ x₁ y I l i ns I' l' i' ns', upd σ x sl x₁ = some (.iter I l i ns) → upd σ x sl y = some (.iter I' l' i' ns') → x₁ = y := by
    intro x₁ y I l i ns I' l' i' ns' e1 e2
    unfold upd at e1 e2
    by_cases h1 : x₁ = x <;> by_cases h2 : y = x
    · exact h1.trans h2.symm
    · rw [if_pos h1] at e1; rw [if_neg h2] at e2
      exact absurd e2 ((hit I l i ns (Option.some.inj e1)).2 y I' l' i' ns' h2)
    · rw [if_neg h1] at e1; rw [if_pos h2] at e2
      exact absurd e1 ((hit I' l' i' ns' (Option.some.inj e2)).2 x₁ I l i ns h1)
    · rw [if_neg h1] at e1; rw [if_neg h2] at e2
      exact q.oi _ _ _ _ _ _ _ _ _ _ e1 e2
  rcases hx with hl | ⟨hl, c, hc, hcb⟩
  · obtain ⟨m, hn⟩ := q.nst
    refine wpAny_storeName_local hl hn (fun h' hn' hs' => hQ _ env.locals (.inl rfl) hs' ?_) (by rw [f.eo.kind]; rfl)
    have hnl := ns_nsf hn
    refine ⟨fun b o e => hs'.extBut b o (fun eb => by subst eb; rw [f.nol] at e; cases e) (q.kp b o e), ⟨_, hn'⟩, fun n c e => ?_, fun y sl' e => ?_, ?_, od', ob', q.rest, ib', oi'⟩
    · obtain ⟨v', hv'⟩ := q.cells n c e
      exact ⟨v', hv'.sameBut hs' (ns_cell_ne hn hv')⟩
    · unfold upd at e
      by_cases hy : y = x
      · rw [if_pos hy] at e; cases e
        exact ⟨v, .inl ⟨hy ▸ hl, _, hn', by simp [hy]⟩, rs_same r hs' hnl⟩
      · rw [if_neg hy] at e
        obtain ⟨v', a', r'⟩ := q.var y sl' e
        refine ⟨v', ?_, rs_same r' hs' hnl⟩
        rcases a' with ⟨k, m', hm', e'⟩ | ⟨k, c', hc', hv'⟩
        · refine .inl ⟨k, _, hn', ?_⟩
          rw [if_neg hy]
          obtain ⟨o1, es1, ep1, g1, d1, k1, f1⟩ := hm'
          obtain ⟨o2, es2, ep2, g2, d2, k2, f2⟩ := hn
          rw [g1] at g2; cases g2
          rw [d1] at d2; cases d2
          rw [← f2, f1]; exact e'
        · exact .inr ⟨k, c', hc', hv'.sameBut hs' (ns_cell_ne hn hv')⟩
    · obtain ⟨o, _, _, e, _⟩ := hn'
      exact xok_same q.xok hs' ⟨o, e⟩
  · obtain ⟨v0, hv0⟩ := q.cells x c hc
    refine wpAny_storeName_cell f.eo.kind hl hc hv0 fun h' hc' hs' => hQ _ c (.inr ⟨x, hc⟩) hs' ?_
    have hnl := cell_nsf hv0
    refine ⟨fun b o e => hs'.extBut b o (fun eb => by subst eb; rw [hcb] at e; cases e) (q.kp b o e), ?_, fun n c2 e => ?_, fun y sl' e => ?_, ?_, od', ob', q.rest, ib', oi'⟩
    · obtain ⟨m, hn⟩ := q.nst
      exact ⟨m, hn.sameBut hs' (ns_cell_ne hn hv0).symm⟩
    · by_cases hcc : c2 = c
      · subst hcc; exact ⟨_, hc'⟩
      · obtain ⟨v', hv'⟩ := q.cells n c2 e
        exact ⟨v', hv'.sameBut hs' hcc⟩
    · unfold upd at e
      by_cases hy : y = x
      · rw [if_pos hy] at e; cases e
        subst hy
        exact ⟨v, .inr ⟨.inl hl, c, hc, hc'⟩, rs_same r hs' hnl⟩
      · rw [if_neg hy] at e
        obtain ⟨v', a', r'⟩ := q.var y sl' e
        refine ⟨v', ?_, rs_same r' hs' hnl⟩
        rcases a' with ⟨k, m', hm', e'⟩ | ⟨k, c', hc2, hv'⟩
        · exact .inl ⟨k, m', hm'.sameBut hs' (ns_cell_ne hm' hv0).symm, e'⟩
        · exact .inr ⟨k, c', hc2, hv'.sameBut hs' fun ec => hy (f.eo.apart _ _ _ hc2 (ec ▸ hc))⟩
    · obtain ⟨o, e, _⟩ := hc'
      exact xok_same q.xok hs' ⟨o, e⟩
theorem st_store {x : Str} {v : Value} {sl : Sl} {Q : Unit → Shared → Prop} {E : Value → Shared → Prop} (f : Fm hb env) (q : St s0 hb env X σ s) (hx : Sto hb env x) (r : RS X s.heap v sl)
    (ho : ∀ a ds, sl = .own a ds → hb.get? a = none ∧ ∀ y a' ds', y ≠ x → σ y = some (.own a' ds') → a ≠ a')
    (hit : ∀ I l i ns, sl = .iter I l i ns → hb.get? I = none ∧ ∀ y I' l' i' ns', y ≠ x → σ y ≠ some (.iter I' l' i' ns'))
    (hQ : ∀ s', St s0 hb env X (upd σ x sl) s' → Q () s') : wpAny (model prog w) A (storeName env x v) Q E s := st_store_x f q hx r ho hit fun s' _ _ _ q' => hQ s' q'
theorem st_store_d {x : Str} {v : Value} {d : D} {Q : Unit → Shared → Prop} {E : Value → Shared → Prop} (f : Fm hb env) (q : St s0 hb env X σ s) (hx : Sto hb env x) (r : Rd X s.heap v d)
    (hQ : ∀ s', St s0 hb env X (upd σ x (.d d)) s' → Q () s') : wpAny (model prog w) A (storeName env x v) Q E s :=
  st_store (sl := .d d) f q hx r (fun _ _ e => nomatch e) (fun _ _ _ _ e => nomatch e) hQ
end
end Mine
end
section
open PySem PySem.W PyProof.Rows
namespace Mine

noncomputable def fr (o : Obj) : Obj := { o with data := .freed }
noncomputable def mask (h : Heap) : List Addr → Heap
  | [] => h
  | a :: M => (mask h M).update a fr
theorem upd_self (h : Heap) (a : Addr) : (h.update a fr).get? a = none := by
  obtain ⟨objs, l⟩ := h
  unfold Heap.update Heap.get? fr
  dsimp only
  rw [Array.getElem?_modify]
  simp only [if_true]
  cases objs[a]? <;> rfl
theorem mask_out (h : Heap) : ∀ (M : List Addr) (b : Addr), b ∉ M → (mask h M).get? b = h.get? b
  | [], _, _ => rfl
  | a :: M, b, hb => by
    unfold mask
    have hne : a ≠ b := fun e => hb (by rw [e]; exact List.mem_cons_self)
    rw [Heap.get?_update_other _ _ hne]
    exact mask_out h M b fun hm => hb (List.mem_cons_of_mem _ hm)
theorem mask_in (h : Heap) : ∀ (M : List Addr) (b : Addr), b ∈ M → (mask h M).get? b = none
  | a :: M, b, hb => by
    unfold mask
    by_cases e : a = b
    · subst e; exact upd_self _ _
    · rw [Heap.get?_update_other _ _ e]
      exact mask_in h M b ((List.mem_cons.mp hb).resolve_left fun q => e q.symm)

noncomputable def NotDC (o : Obj) : Prop := (∀ es n, o.data ≠ .dict es n) ∧ (∀ c, o.data ≠ .cell c)

section
variable {prog : Program} {w : World} {A : Around} {env : Env} {h hb : Heap} {X : List Addr} {mg mb : Str → Option Value} {σ : Sg} {s s0 : Shared}

theorem St.base (q : St s0 hb env X σ s) {hb' : Heap} (k : Kp hb' hb) : St s0 hb' env X σ s :=
  ⟨k.trans q.kp, q.nst, q.cells, q.var, q.xok, q.od, fun x a ds e => by
    cases g : hb'.get? a with
    | none => rfl
    | some o => rw [← k _ _ g, q.ob x a ds e], q.rest, fun x I l i ns e => (by
    cases g : hb'.get? I with
    | none => rfl
    | some o => rw [← k _ _ g, q.ib x I l i ns e]), q.oi⟩

structure Reb (hb hb' : Heap) (env : Env) : Prop where
  kp : Kp hb hb'
  fm : Fm hb' env
  sto : ∀ x, Sto hb env x → Sto hb' env x

theorem St.rebase (f : Fm hb env) (q : St s0 hb env X σ s) (O : List Addr) (hO : ∀ x a ds, σ x = some (.own a ds) → a ∈ O) (hI : ∀ x I l i ns, σ x = some (.iter I l i ns) → I ∈ O) : ∃ hb', Reb hb hb' env ∧ St s0 hb' env X σ s ∧ ∀ b o, s.heap.get? b = some o → b ∉ O → NotDC o → hb'.get? b = some o := by
  let M : List Addr := ((env.locals :: (env.cells.filterMap fun p => env.cells.lookup p.1)) ++ O).filter fun a => (hb.get? a).isNone
  have hin : ∀ a, a ∈ (env.locals :: (env.cells.filterMap fun p => env.cells.lookup p.1)) ++ O → hb.get? a = none → (mask s.heap M).get? a = none := fun a ha hn => mask_in _ _ _ (List.mem_filter.mpr ⟨ha, by rw [hn]; rfl⟩)
  have hout : ∀ b o, hb.get? b = some o → (mask s.heap M).get? b = some o := fun b o e => by
    rw [mask_out _ _ _ (fun hm => by have := (List.mem_filter.mp hm).2; rw [e] at this; cases this)]
    exact q.kp b o e
  have hcell : ∀ n c, env.cells.lookup n = some c → c ∈ (env.locals :: (env.cells.filterMap fun p => env.cells.lookup p.1)) ++ O := fun n c e =>
    List.mem_append_left _ (List.mem_cons_of_mem _ (List.mem_filterMap.mpr ⟨(n, c), mem_of_lookup e, e⟩))
  have hloc : env.locals ∈ (env.locals :: (env.cells.filterMap fun p => env.cells.lookup p.1)) ++ O := List.mem_append_left _ List.mem_cons_self
  refine ⟨mask s.heap M, ⟨hout, ⟨f.eo, hin _ hloc f.nol⟩, fun x hx => ?_⟩, ⟨fun b o e => ?_, q.nst, q.cells, q.var, q.xok, q.od, fun x a ds e => ?_, q.rest, fun x I l i ns e => hin I (List.mem_append_right _ (hI x I l i ns e)) (q.ib x I l i ns e), q.oi⟩, fun b o e hX hd => ?_⟩
  · rcases hx with hl | ⟨hl, c, hc, hcb⟩
    · exact .inl hl
    · exact .inr ⟨hl, c, hc, hin c (hcell _ _ hc) hcb⟩
  · by_cases hm : b ∈ M
    · rw [mask_in _ _ _ hm] at e; cases e
    · rw [mask_out _ _ _ hm] at e; exact e
  · obtain ⟨v, _, rfl, ha, _⟩ := q.var x _ e
    exact hin a (List.mem_append_right _ (hO x a ds e)) (q.ob x a ds e)
  · rw [mask_out _ _ _ (fun hm => ?_)]
    · exact e
    · rcases List.mem_append.mp (List.mem_filter.mp hm).1 with h1 | h1
      · rcases List.mem_cons.mp h1 with h2 | h2
        · subst h2
          obtain ⟨m, o', es, ep, ho, hd', _⟩ := q.nst
          rw [e] at ho; cases ho
          exact hd.1 _ _ hd'
        · obtain ⟨⟨n, c⟩, hnc, hl⟩ := List.mem_filterMap.mp h2
          obtain ⟨v, o', ho, hd'⟩ := q.cells n b hl
          rw [e] at ho; cases ho
          exact hd.2 _ hd'
      · exact hX h1
end
end Mine
end
section
open PySem PySem.W PyProof.Rows
namespace Mine

section
variable {prog : Program} {w : World} {A : Around} {env : Env} {h hb : Heap} {X : List Addr} {mg mb : Str → Option Value} {σ : Sg} {s s0 : Shared}

theorem Rds.one {vs : List Value} {d : D} (r : Rds X h vs [d]) : ∃ v, vs = [v] ∧ Rd X h v d := by
  match vs, r with
  | [v], r => exact ⟨v, rfl, r.1⟩
theorem Rds.two {vs : List Value} {d e : D} (r : Rds X h vs [d, e]) : ∃ v u, vs = [v, u] ∧ Rd X h v d ∧ Rd X h u e := by
  match vs, r with
  | [v, u], r => exact ⟨v, u, rfl, r.1, r.2.1⟩
  | [_], r => exact r.2.elim
  | _ :: _ :: _ :: _, r => exact r.2.2.elim
-- truth
theorem tr_not {x : Expr} {pos : Pos} {wh : Sem Value} {b : Bool} (hx : Gb prog w A h X (isTrue x env (eval x env)) b) : Gb prog w A h X (isTrue (.UnaryOp .Not x pos) env wh) (!b) := fun hX s Q E hk hQ =>
  PyProof.Rows.isTrue_not (hx hX s _ _ hk fun s' k => hQ s' k)
theorem tr_plain {e : Expr} {d : D} {b : Bool} (he : Gv prog w A h X (eval e env) d) (ht : TruD prog w A X d b)
    (hp : isTrue e env (eval e env) = (do let v ← eval e env; standAt e.pos; holding [v] (truthy v)) := by rfl) : Gb prog w A h X (isTrue e env (eval e env)) b := fun hX s Q E hk hQ =>
  PyProof.Rows.isTrue_plain (he hX s _ _ hk fun v s1 k1 r1 => ht s1.heap v r1 (hX.up (hk.trans k1.kp)) s1 _ _ Kp.refl fun s2 k2 => hQ s2 (k1.tr k2)) hp
theorem tr_or_nil {pos : Pos} {wh : Sem Value} : Gb prog w A h X (isTrue (.BoolOp .Or [] pos) env wh) false := fun hX s Q E hk hQ => PyProof.Rows.isTrue_or_nil (hQ _ keeps_refl)
theorem tr_and_nil {pos : Pos} {wh : Sem Value} : Gb prog w A h X (isTrue (.BoolOp .And [] pos) env wh) true := fun hX s Q E hk hQ => PyProof.Rows.isTrue_and_nil (hQ _ keeps_refl)
theorem tr_or {x : Expr} {rest : List Expr} {pos : Pos} {wh : Sem Value} {a b : Bool} (hx : Gb prog w A h X (isTrue x env (eval x env)) a) (hr : a = false → Gb prog w A h X (isTrue (.BoolOp .Or rest pos) env wh) b) :
    Gb prog w A h X (isTrue (.BoolOp .Or (x :: rest) pos) env wh) (a || b) := fun hX s Q E hk hQ =>
  PyProof.Rows.isTrue_or (hx hX s _ _ hk fun s1 k1 => by
    cases a with
    | true => exact hQ s1 k1
    | false => exact hr rfl hX s1 _ _ (hk.trans k1.kp) fun s2 k2 => hQ s2 (k1.tr k2))
theorem tr_and {x : Expr} {rest : List Expr} {pos : Pos} {wh : Sem Value} {a b : Bool} (hx : Gb prog w A h X (isTrue x env (eval x env)) a) (hr : a = true → Gb prog w A h X (isTrue (.BoolOp .And rest pos) env wh) b) :
    Gb prog w A h X (isTrue (.BoolOp .And (x :: rest) pos) env wh) (a && b) := fun hX s Q E hk hQ =>
  PyProof.Rows.isTrue_and (hx hX s _ _ hk fun s1 k1 => by
    cases a with
    | false => exact hQ s1 k1
    | true => exact hr rfl hX s1 _ _ (hk.trans k1.kp) fun s2 k2 => hQ s2 (k1.tr k2))
theorem ev_if {t b o : Expr} {pos : Pos} {c : Bool} {d : D} (ht : Gb prog w A h X (isTrue t env (eval t env)) c) (h1 : c = true → Gv prog w A h X (eval b env) d) (h2 : c = false → Gv prog w A h X (eval o env) d) :
    Gv prog w A h X (eval (.IfExp t b o pos) env) d := fun hX s Q E hk hQ =>
  PySem.wpAny_IfExp (ht hX s _ _ hk fun s1 k1 => by
    cases c with
    | true => exact h1 rfl hX s1 _ _ (hk.trans k1.kp) fun v s2 k2 r2 => hQ v s2 (k1.tr k2) r2
    | false => exact h2 rfl hX s1 _ _ (hk.trans k1.kp) fun v s2 k2 r2 => hQ v s2 (k1.tr k2) r2)

-- calls
theorem wp_args {f : Value} {e : Expr} {rest : List Expr} {pos : Pos} {ds : List D} {Q : Args → Shared → Prop} {E : Value → Shared → Prop} (hX : XOk X h) (hk : Kp h s.heap)
    (ha : Gs prog w A h X (spliced (backTo pos (starEach (e :: rest) env))) ds) (hQ : ∀ vs s', Kps s s' → Rds X s'.heap vs ds → Q ⟨vs, []⟩ s')
    (hs : starEach (e :: rest) env = (false, eval e env) :: starEach rest env := by rfl) : wpAny (model prog w) A (evalArgs f true (backTo pos (starEach (e :: rest) env)) []) Q E s := by
  rw [hs] at ha ⊢
  exact Calls.evalArgs_plain (ha hX s _ _ hk fun vs s' k r => hQ vs s' k r)

/-- a call of a def of the text -/
theorem ev_fn {f : Str} {np pos : Pos} {e : Expr} {rest : List Expr} {fa : Addr} {o : Obj} {fd : FuncData} {ds : List D} {d : D} (eo : EnvOk env) (hx : env.kindOf f = some .globalImplicit) (g : Gl mg mb h) (hf : mg f = some (.ref fa))
    (ho : h.get? fa = some o) (hd : o.data = .func fd) (ha : Gs prog w A h X (spliced (backTo pos (starEach (e :: rest) env))) ds)
    (hc : ∀ h' vs, Kp h h' → Rds X h' vs ds → Gv prog w A h' X (call (.ref fa) vs) d)
    (hs : starEach (e :: rest) env = (false, eval e env) :: starEach rest env := by rfl) (hdb : (f == ("__debug__" : Str)) = false := by decide) :
    Gv prog w A h X (eval (.Call (.Name f np) (e :: rest) [] pos) env) d := fun hX s Q E hk hQ =>
  wpAny_bind (wp_glob eo hx (g.up hk) hf (Calls.callWith_function (fd := fd) (wp_args hX hk ha (fun vs s1 k1 r1 => ⟨⟨k1.kp _ _ (hk _ _ ho), hd⟩,
    hc s1.heap vs (hk.trans k1.kp) r1 (hX.up (hk.trans k1.kp)) s1 _ _ Kp.refl fun v s2 k2 r2 => hQ v s2 (k1.tr k2) r2⟩) hs)) hdb)
/-- a call of a built-in function -/
theorem ev_bf {f : Str} {id : String} {np pos : Pos} {e : Expr} {rest : List Expr} {ds : List D} {d : D} (eo : EnvOk env) (hx : env.kindOf f = some .globalImplicit) (g : Gl mg mb h) (hm : mg f = none) (hf : mb f = some (.builtin id))
    (ha : Gs prog w A h X (spliced (backTo pos (starEach (e :: rest) env))) ds)
    (hc : ∀ h' vs, Rds X h' vs ds → Gv prog w A h' X (call (.builtin id) vs) d)
    (hs : starEach (e :: rest) env = (false, eval e env) :: starEach rest env := by rfl) (hp : (backTo pos (starEach (e :: rest) env)).any (·.1) = false := by rfl) (hdb : (f == ("__debug__" : Str)) = false := by decide) :
    Gv prog w A h X (eval (.Call (.Name f np) (e :: rest) [] pos) env) d := fun hX s Q E hk hQ =>
  wpAny_bind (wp_bltn eo hx (g.up hk) hm hf (Calls.callWith_builtin hp (wp_args hX hk ha (fun vs s1 k1 r1 =>
    hc s1.heap vs r1 (hX.up (hk.trans k1.kp)) s1 _ _ Kp.refl fun v s2 k2 r2 => hQ v s2 (k1.tr k2) r2) hs)) hdb)

-- len
theorem len_l {ds : List D} (hz : ds.length ≤ sizeLine) (h' : Heap) (vs : List Value) (r : Rds X h' vs [.lst ds]) : Gv prog w A h' X (call (.builtin "len") vs) (.int ds.length) := by
  obtain ⟨v, rfl, a, vs, n, rfl, hn, hg, hr⟩ := r.one
  intro hX s Q E hk hQ
  have hl := hr.length
  have hsz : sizeLine = 16777216 := by decide
  refine PyProof.Rows.len_list (lo_isList (hk _ _ hg)) (by rw [List.size_toArray, hl]; omega) (hQ _ _ keeps_tok ?_)
  rw [List.size_toArray, hl]
  exact ⟨_, rfl⟩

theorem notDC_fields {o : Obj} {vs : Array Value} (hd : o.data = .fields vs) : NotDC o := ⟨fun _ _ e => (by rw [hd] at e; cases e), fun _ e => (by rw [hd] at e; cases e)⟩
theorem notDC_seq {o : Obj} {vs : Array Value} {n : Nat} (hd : o.data = .seq vs n) : NotDC o := ⟨fun _ _ e => (by rw [hd] at e; cases e), fun _ e => (by rw [hd] at e; cases e)⟩
/-- what a walk goes over -/
structure SrcD (prog : Program) (w : World) (X : List Addr) (items : List D) (s s' : Shared) (I : Addr) (fp wr : List Addr) (P : Nat → Value → Prop) (Sx : Nat → Heap → Prop) : Prop where
  W : ∀ A' : Around, A'.handled = none → Walks prog w A' I fp wr items.length P Sx
  st : Sx 0 s'.heap
  fpx : ∀ b ∈ fp, b ∉ X
  nd : ∀ i h, Sx i h → ∀ b ∈ fp, ∃ o, h.get? b = some o ∧ NotDC o
  new : s.heap.get? I = none
  wrI : wr = [I]
  val : ∀ i v, P i v → ∃ d, items[i]? = some d ∧ Rd X s'.heap v d
  cls : ∀ i h, Sx i h → ∃ o T vs, h.get? I = some o ∧ o.cls = .type T ∧ o.data = .fields vs ∧ (["enumerate", "zip", "dict_itemiterator", "dict_reverseitemiterator", "odict_iterator", "itertools.zip_longest", "itertools.pairwise"].contains T) = false
noncomputable def Gi (prog : Program) (w : World) (A : Around) (h : Heap) (X : List Addr) (env : Env) (iter : Expr) (items : List D) : Prop := XOk X h →
  ∀ (s : Shared) (Q : Value → Shared → Prop) (E : Value → Shared → Prop), Kp h s.heap → (∀ I fp wr P Sx s', Kps s s' → SrcD prog w X items s s' I fp wr P Sx → Q (.ref I) s') →
    wpAny (model prog w) A (eval iter env) (fun x s1 => wpAny (model prog w) A (pyIter x) Q E s1) E s

theorem new_none {s s1 : Shared} (k : Kp s.heap s1.heap) {a : Addr} (ha : s1.heap.objs.size ≤ a) : s.heap.get? a = none := by
  cases e : s.heap.get? a with
  | none => rfl
  | some o => exact absurd (Heap.lt_size (k _ _ e)) (Nat.not_lt.mpr ha)

theorem gi_list {iter : Expr} {items : List D} (he : Gv prog w A h X (eval iter env) (.lst items)) : Gi prog w A h X env iter items := fun hX s Q E hk hQ =>
  he hX s _ _ hk fun v s1 k1 r1 => by
    obtain ⟨a, vs, n, rfl, hn, hg, hr⟩ := r1
    refine wpAny_pyIter_list (lo_isList hg) (hQ _ [s1.heap.objs.size, a] [s1.heap.objs.size] (fun i v => vs.toArray[i]? = some v) (fun i h => h.IsListIter s1.heap.objs.size a i ∧ h.IsList a vs.toArray) _ (k1.tr keeps_push) ⟨fun A' hA => ?_, ?_, ?_, ?_, ?_, ?_, ?_, ?_⟩)
    · have := Walks.list (prog := prog) (w := w) hA s1.heap.objs.size a (Nat.ne_of_lt (Heap.lt_size hg)) vs.toArray
      have e2 : vs.toArray.size = items.length := by rw [List.size_toArray, hr.length]
      rw [e2] at this
      exact this
    · exact ⟨⟨_, Heap.get?_push_size _ rfl, rfl, rfl⟩, lo_isList (n := n) (Heap.get?_push_of_some _ hg)⟩
    · intro b hb
      rcases List.mem_cons.mp hb with q | q
      · subst q; exact (hX.up (hk.trans k1.kp)).off
      · rcases List.mem_cons.mp q with q | q
        · subst q; exact hn
        · cases q
    · rintro i h' ⟨⟨o, ho, hc, hd⟩, ⟨o2, ho2, hc2, n2, hd2⟩⟩ b hb
      rcases List.mem_cons.mp hb with q | q
      · subst q; exact ⟨o, ho, notDC_fields hd⟩
      · rcases List.mem_cons.mp q with q | q
        · subst q; exact ⟨o2, ho2, notDC_seq hd2⟩
        · cases q
    · exact new_none k1.kp (Nat.le_refl _)
    · rfl
    · intro i v hv
      have hv' : vs[i]? = some v := by simpa using hv
      obtain ⟨d, hd, r⟩ := hr.getV hv'
      exact ⟨d, hd, r.up kp_push⟩
    · rintro i h' ⟨⟨o, ho, hc, hd⟩, _⟩
      exact ⟨o, _, _, ho, hc, hd, by decide⟩

theorem range_small {a b : Int} (h1 : -(2 ^ 62) ≤ a) (h2 : a < 2 ^ 62) (h3 : -(2 ^ 62) ≤ b) (h4 : b < 2 ^ 62) : Builtin.Range.small a b 1 = true := by
  have e : Builtin.Range.rangeSize a b 1 = if a < b then b - a else 0 := rangeSize_one a b
  unfold Builtin.Range.small
  rw [e]
  unfold Builtin.Range.rangeFitsLong
  simp only [Bool.and_eq_true, Bool.or_eq_true, decide_eq_true_eq, beq_iff_eq]
  split
  · refine ⟨⟨⟨⟨by omega, by omega⟩, by decide⟩, by omega⟩, .inr ?_⟩
    simp only [show (1 : Int) > 0 from by decide, if_true, Bool.and_eq_true, decide_eq_true_eq]
    omega
  · exact ⟨⟨⟨⟨by omega, by omega⟩, by decide⟩, by decide⟩, .inl rfl⟩

theorem range_src {a b : Int} {r : Addr} {t u v : Tok} {s s1 : Shared} {Q : Value → Shared → Prop} {E : Value → Shared → Prop} (hX : XOk X s1.heap) (k : Kps s s1) (hr : IsRange s1.heap r a b 1 t u v)
    (hsm : Builtin.Range.small a b 1 = true)
    (hQ : ∀ I fp wr P Sx s', Kps s s' → SrcD prog w X ((List.range (b - a).toNat).map fun i => D.int (a + (i : Nat))) s s' I fp wr P Sx → Q (.ref I) s') : wpAny (model prog w) A (pyIter (.ref r)) Q E s1 := by
  have e : Builtin.Range.rangeSize a b 1 = ((b - a).toNat : Int) := by rw [rangeSize_one]; split <;> omega
  refine wpAny_pyIter_range hr hsm (hQ _ [s1.heap.objs.size] [s1.heap.objs.size] (fun i v => i < (b - a).toNat ∧ ∃ t, v = .int (a + i * 1) t) (fun i h => IsRangeIter h s1.heap.objs.size (a + (i : Nat) * 1) (((b - a).toNat : Int) - (i : Nat)) 1) _ (k.tr keeps_push) ⟨fun A' hA => ?_, ?_, ?_, ?_, ?_, ?_, ?_, ?_⟩)
  · have W := Walks.range (prog := prog) (w := w) hA s1.heap.objs.size a 1 (b - a).toNat
    rw [List.length_map, List.length_range]
    exact ⟨W.sub, W.frame, fun i s Q E hi st hQ => W.item i s Q E hi st fun v h' tk hp => hQ v h' tk ⟨hi, hp⟩, W.done, W.self⟩
  · have : IsRangeIter (s1.heap.push { cls := .type "range_iterator", data := .fields #[rawInt a, rawInt (Builtin.Range.rangeSize a b 1), rawInt 1] }) s1.heap.objs.size a (Builtin.Range.rangeSize a b 1) 1 := Heap.get?_push_size _ rfl
    rw [e] at this ⊢
    simpa using this
  · intro b hb
    rcases List.mem_cons.mp hb with q | q
    · subst q; exact hX.off
    · cases q
  · rintro i h' hs b hb
    rcases List.mem_cons.mp hb with q | q
    · subst q; exact ⟨_, hs, notDC_fields rfl⟩
    · cases q
  · exact new_none k.kp (Nat.le_refl _)
  · rfl
  · rintro i v ⟨hi, t, rfl⟩
    exact ⟨.int (a + i), by rw [List.getElem?_map, List.getElem?_range hi]; rfl, t, by rw [Int.mul_one]⟩
  · rintro i h' hs
    exact ⟨_, _, _, hs, rfl, rfl, by decide⟩

theorem gi_range1 {f : Str} {np pos : Pos} {e : Expr} {b : Int} (eo : EnvOk env) (hx : env.kindOf f = some .globalImplicit) (g : Gl mg mb h) (hm : mg f = none) (hf : mb f = some (.type "range"))
    (he : Gv prog w A h X (eval e env) (.int b)) (h3 : -(2 ^ 62) ≤ b) (h4 : b < 2 ^ 62)
    (hs : starEach [e] env = (false, eval e env) :: starEach [] env := by rfl) (hdb : (f == ("__debug__" : Str)) = false := by decide) :
    Gi prog w A h X env (.Call (.Name f np) [e] [] pos) ((List.range b.toNat).map fun i => D.int (i : Nat)) := fun hX s Q E hk hQ => by
  refine wpAny_bind (wp_bltn eo hx (g.up hk) hm hf (PySem.callWith_type (by rw [hs]; rfl) (wp_args hX hk (gs_cons he gs_nil hs) (fun vs s1 k1 r1 => ?_) hs)) hdb)
  obtain ⟨v, rfl, t, rfl⟩ := r1.one
  · refine call_range_1 (range_src (a := 0) (b := b) (r := s1.heap.objs.size) (s := s) (((hX.up hk).up k1.kp).up kp_push) (k1.tr (keeps_heap kp_push)) (IsRange.new ..) (range_small (by omega) (by omega) h3 h4) ?_)
    intro I fp wr P Sx s' k' S
    refine hQ I fp wr P Sx s' k' ?_
    simpa using S
theorem gi_range2 {f : Str} {np pos : Pos} {e1 e2 : Expr} {a b : Int} (eo : EnvOk env) (hx : env.kindOf f = some .globalImplicit) (g : Gl mg mb h) (hm : mg f = none) (hf : mb f = some (.type "range"))
    (he1 : Gv prog w A h X (eval e1 env) (.int a)) (he2 : Gv prog w A h X (eval e2 env) (.int b)) (h1 : -(2 ^ 62) ≤ a) (h2 : a < 2 ^ 62) (h3 : -(2 ^ 62) ≤ b) (h4 : b < 2 ^ 62)
    (hs : starEach [e1, e2] env = (false, eval e1 env) :: starEach [e2] env := by rfl) (hs2 : starEach [e2] env = (false, eval e2 env) :: starEach [] env := by rfl) (hdb : (f == ("__debug__" : Str)) = false := by decide) :
    Gi prog w A h X env (.Call (.Name f np) [e1, e2] [] pos) ((List.range (b - a).toNat).map fun i => D.int (a + (i : Nat))) := fun hX s Q E hk hQ => by
  refine wpAny_bind (wp_bltn eo hx (g.up hk) hm hf (PySem.callWith_type (by rw [hs, hs2]; rfl) (wp_args hX hk (gs_cons he1 (gs_cons he2 gs_nil hs2) hs) (fun vs s1 k1 r1 => ?_) hs)) hdb)
  obtain ⟨v, v2, rfl, ⟨t, rfl⟩, ⟨u, rfl⟩⟩ := r1.two
  · exact call_range_2 (range_src (a := a) (b := b) (r := s1.heap.objs.size) (s := s) (((hX.up hk).up k1.kp).up kp_push) (k1.tr (keeps_heap kp_push)) (IsRange.new ..) (range_small h1 h2 h3 h4) hQ)

theorem gi_str {iter : Expr} {x : Str} (he : Gv prog w A h X (eval iter env) (.str x)) : Gi prog w A h X env iter (x.cps.toList.map fun c => D.str ⟨#[c]⟩) := fun hX s Q E hk hQ =>
  he hX s _ _ hk fun v s1 k1 r1 => by
    obtain ⟨t, rfl⟩ := r1
    cases ha : x.cps.all (· < 128)
    · refine wpAny_pyIter_wide ha (hQ _ [s1.heap.objs.size] [s1.heap.objs.size] (SignAt x) (fun i h => h.IsStrIter s1.heap.objs.size "str_iterator" x t i) _ (k1.tr keeps_push) ⟨fun A' hA => ?_, ⟨_, Heap.get?_push_size _ rfl, rfl, rfl⟩, ?_, ?_, ?_, ?_, ?_, ?_⟩)
      · have := Walks.strWide (prog := prog) (w := w) hA s1.heap.objs.size x t
        rw [List.length_map, Array.length_toList]
        exact this
      · intro b hb
        rcases List.mem_cons.mp hb with q | q
        · subst q; exact (hX.up (hk.trans k1.kp)).off
        · cases q
      · rintro i h' ⟨o, ho, hc, hd⟩ b hb
        rcases List.mem_cons.mp hb with q | q
        · subst q; exact ⟨o, ho, notDC_fields hd⟩
        · cases q
      · exact new_none k1.kp (Nat.le_refl _)
      · rfl
      · rintro i v ⟨c, u, hc, rfl⟩
        exact ⟨.str ⟨#[c]⟩, by rw [List.getElem?_map, Array.getElem?_toList, hc]; rfl, u, rfl⟩
      · rintro i h' ⟨o, ho, hc, hd⟩
        exact ⟨o, _, _, ho, hc, hd, by decide⟩
    · refine wpAny_pyIter_ascii ha (hQ _ [s1.heap.objs.size] [s1.heap.objs.size] (SignAt x) (fun i h => h.IsStrIter s1.heap.objs.size "str_ascii_iterator" x t i) _ (k1.tr keeps_push) ⟨fun A' hA => ?_, ⟨_, Heap.get?_push_size _ rfl, rfl, rfl⟩, ?_, ?_, ?_, ?_, ?_, ?_⟩)
      · have := Walks.strAscii (prog := prog) (w := w) hA s1.heap.objs.size x t
        rw [List.length_map, Array.length_toList]
        exact this
      · intro b hb
        rcases List.mem_cons.mp hb with q | q
        · subst q; exact (hX.up (hk.trans k1.kp)).off
        · cases q
      · rintro i h' ⟨o, ho, hc, hd⟩ b hb
        rcases List.mem_cons.mp hb with q | q
        · subst q; exact ⟨o, ho, notDC_fields hd⟩
        · cases q
      · exact new_none k1.kp (Nat.le_refl _)
      · rfl
      · rintro i v ⟨c, u, hc, rfl⟩
        exact ⟨.str ⟨#[c]⟩, by rw [List.getElem?_map, Array.getElem?_toList, hc]; rfl, u, rfl⟩
      · rintro i h' ⟨o, ho, hc, hd⟩
        exact ⟨o, _, _, ho, hc, hd, by decide⟩
end
end Mine
end
section
open PySem PySem.W PyProof.Rows
namespace Mine

noncomputable def IterOk (I : Addr) (h : Heap) : Prop := ∃ o T vs, h.get? I = some o ∧ o.cls = .type T ∧ o.data = .fields vs ∧ (["enumerate", "zip", "dict_itemiterator", "dict_reverseitemiterator", "odict_iterator", "itertools.zip_longest", "itertools.pairwise"].contains T) = false

section
variable {prog : Program} {w : World} {A : Around} {env : Env} {h hb : Heap} {X : List Addr} {mg mb : Str → Option Value} {σ : Sg} {s s0 : Shared}

theorem St.walk (q : St s0 hb env X σ s) {I : Addr} {h' : Heap} {tk : Nat} (hI : ∃ o vs, s.heap.get? I = some o ∧ o.data = .fields vs) (hbI : hb.get? I = none) (hIX : I ∉ X ∨ ∃ o, h'.get? I = some o)
    (hk : ∀ b o, b ≠ I → s.heap.get? b = some o → h'.get? b = some o) (hni : ∀ x I' l i ns, σ x = some (.iter I' l i ns) → I' ≠ I) : St s0 hb env X σ { s with heap := h', toks := tk } := by
  obtain ⟨oI, fs, hoI, hdI⟩ := hI
  have ns_ne : ∀ {a : Addr} {m : Str → Option Value}, s.heap.Ns a m → a ≠ I := by
    rintro a m ⟨o, es, ep, ho, hd, _⟩ rfl
    rw [hoI] at ho; cases ho; rw [hdI] at hd; cases hd
  have cell_ne : ∀ {a : Addr} {v : Option Value}, s.heap.IsCell a v → a ≠ I := by
    rintro a v ⟨o, ho, hd⟩ rfl
    rw [hoI] at ho; cases ho; rw [hdI] at hd; cases hd
  have ns_up : ∀ {a : Addr} {m : Str → Option Value}, s.heap.Ns a m → h'.Ns a m := fun n => n.at' fun o e => hk _ o (ns_ne n) e
  have cell_up : ∀ {a : Addr} {v : Option Value}, s.heap.IsCell a v → h'.IsCell a v := fun c => let ⟨o, ho, hd⟩ := c; ⟨o, hk _ o (cell_ne c) ho, hd⟩
  have seq_up : ∀ b o, b ∉ X → IsSeqO o → s.heap.get? b = some o → h'.get? b = some o := fun b o _ hq e => hk b o (by
    rintro rfl
    rw [hoI] at e; cases e
    obtain ⟨_, _, hq⟩ := hq
    rw [hdI] at hq; cases hq) e
  refine ⟨fun b o e => hk b o (by rintro rfl; rw [hbI] at e; cases e) (q.kp b o e), let ⟨m, n⟩ := q.nst; ⟨m, ns_up n⟩, fun n c e => let ⟨v, hv⟩ := q.cells n c e; ⟨v, cell_up hv⟩, fun x sl e => ?_, fun b hb => ?_, q.od, q.ob, q.rest, q.ib, q.oi⟩
  · obtain ⟨v, a, r⟩ := q.var x sl e
    refine ⟨v, ?_, ?_⟩
    · rcases a with ⟨k, m, hn, hm⟩ | ⟨k, c, hc, hv⟩
      · exact .inl ⟨k, m, ns_up hn, hm⟩
      · exact .inr ⟨k, c, hc, cell_up hv⟩
    · cases sl with
      | d d => exact Rd.go (fun _ x => x) seq_up d r
      | own a ds =>
        obtain ⟨e, ha, vs, n, hg, hr⟩ := r
        exact ⟨e, ha, vs, n, hk _ _ (fun ei => by subst ei; rw [hoI] at hg; cases hg; cases hdI) hg, Rds.go (fun _ x => x) seq_up ds hr⟩
      | val v0 => exact r
      | iter I' l i ns =>
        obtain ⟨e', hi, hl, vs, n, hg, hr⟩ := r
        exact ⟨e', hi.at fun o eo => hk _ o (hni x I' l i ns e) eo, hl, vs, n, seq_up l _ hl ⟨_, _, rfl⟩ hg, Rds.go (fun _ x => x) seq_up _ hr⟩
  · obtain ⟨o, ho⟩ := q.xok b hb
    by_cases ei : b = I
    · subst ei
      rcases hIX with h1 | h1
      · exact absurd hb h1
      · exact h1
    · exact ⟨o, hk b o ei ho⟩

/-- lists and tuples off X stay -/
noncomputable def KS (X : List Addr) (h h' : Heap) : Prop := ∀ b o, b ∉ X → IsSeqO o → h.get? b = some o → h'.get? b = some o
theorem isSeq_notDC {o : Obj} (q : IsSeqO o) : NotDC o := let ⟨_, _, e⟩ := q; notDC_seq e

theorem st_for {target iter : Expr} {body rest : List Stmt} {pos : Pos} {items : List D} {τ : Nat → Sg} {τ1 : Nat → D → Sg} {O : List Addr} {Rt : D → Prop} {Q : Flow → Shared → Prop} {E : Value → Shared → Prop}
    (hA : A.handled = none) (f : Fm hb env) (q : St s0 hb env X (τ 0) s) (hO : ∀ i x a ds, τ i x = some (.own a ds) → a ∈ O) (hOX : ∀ a ∈ O, a ∈ X) (hNI : ∀ i x I l k ns, τ i x ≠ some (.iter I l k ns))
    (hi : Gi prog w A s.heap X env iter items)
    (hasg : ∀ (hb' : Heap) (i : Nat) (d : D) (v : Value) (s : Shared) (I : Addr) (E' : Value → Shared → Prop), Reb hb hb' env → items[i]? = some d → St s0 hb' env X (τ i) s → Rd X s.heap v d → IterOk I s.heap →
      wpAny (model prog w) A (letOwnedTupleGo target (.ref I) v) (fun _ s1 => wpAny (model prog w) A (assign target env v) (fun _ s' => St s0 hb' env X (τ1 i d) s') E' s1) E' s)
    (hbody : ∀ (hb' : Heap) (i : Nat) (d : D) (s : Shared) (E' : Value → Shared → Prop), Reb hb hb' env → items[i]? = some d → St s0 hb' env X (τ1 i d) s →
      wpAny (model prog w) A (execs body env) (fun fl s' => match fl with
        | .next | .cont => St s0 hb' env X (τ (i + 1)) s'
        | .brk => False
        | .ret v => ∃ d, Rt d ∧ Rd X s'.heap v d ∧ Kp hb' s'.heap ∧ SR s0 s') E' s)
    (hn : ∀ s', St s0 hb env X (τ items.length) s' → wpAny (model prog w) A (execs rest env) Q E s')
    (hr : ∀ v d s', Rt d → Rd X s'.heap v d → Kp hb s'.heap → SR s0 s' → Q (.ret v) s')
    (hs : ∀ x, foldedSetIterable iter env x = pure x := by intro _; rfl) :
    wpAny (model prog w) A (execs (.For target iter body [] pos :: rest) env) Q E s := by
  refine wpAny_execs_cons (wpAny_For (hi q.xok s _ _ Kp.refl fun I fp wr P Sx s₂ k₂ S => ?_) hs)
  have q₂ := q.up k₂
  have hbI : hb.get? I = none := by
    cases e : hb.get? I with
    | none => rfl
    | some o => rw [← q.kp _ _ e, S.new]
  have W := S.W A hA
  have fpI : I ∉ X := by
    obtain ⟨o, T, vs, ho, _⟩ := S.cls 0 _ S.st
    intro hm
    obtain ⟨o', ho'⟩ := q.xok I hm
    rw [S.new] at ho'; cases ho'
  refine codeAny_forLoop_any (fun k s' => ∃ i, i ≤ items.length ∧ k = items.length + 1 - i ∧ Sx i s'.heap ∧ St s0 hb env X (τ i) s' ∧ KS X s₂.heap s'.heap) ?_ (items.length + 1)
    ⟨0, Nat.zero_le _, rfl, S.st, q₂, fun _ _ _ _ e => e⟩
  rintro k s' ⟨i, hle, rfl, hst, q', ks⟩
  obtain ⟨oI, T, fs, hoI, hcI, hdI, hTI⟩ := S.cls i _ hst
  have ksI : ∀ {h' : Heap}, (∀ b o, b ∉ wr → s'.heap.get? b = some o → h'.get? b = some o) → ∀ b o, b ≠ I → s'.heap.get? b = some o → h'.get? b = some o := fun hk b o hb e => hk b o (by rw [S.wrI]; simpa using hb) e
  rcases Nat.lt_or_ge i items.length with hlt | hge
  · refine W.item i s' _ _ hlt hst fun v h' tk hP hst' hk => ?_
    have q1 := q'.walk (tk := tk) ⟨oI, fs, hoI, hdI⟩ hbI (.inl fpI) (ksI hk) (fun x I' l k ns e => absurd e (hNI i x I' l k ns))
    have ks1 : KS X s₂.heap h' := fun b o hX hq e => ksI hk b o (by
      rintro rfl
      have := ks _ o hX hq e
      rw [hoI] at this; cases this
      obtain ⟨_, _, hq⟩ := hq
      rw [hdI] at hq; cases hq) (ks b o hX hq e)
    obtain ⟨hb', R, q2, hin⟩ := q1.rebase f O (hO i) (fun x I' l k ns e => absurd e (hNI i x I' l k ns))
    obtain ⟨d, hd, rd⟩ := S.val i v hP
    have hfp : ∀ b ∈ fp, ∀ o, h'.get? b = some o → hb'.get? b = some o := fun b hb o e => by
      obtain ⟨o', e', nd⟩ := S.nd (i + 1) h' hst' b hb
      rw [e] at e'; cases e'
      exact hin b o e (fun hm => S.fpx b hb (hOX b hm)) nd
    refine wpAny_mono (hasg hb' i d v _ I (notedBy (model prog w) A env fun e s' => match (Except.error e : Result) with | .ok f => (match f with | .next => wpAny (model prog w) A (execs rest env) Q E s' | f => Q f s') | .error e => cameBackBy (model prog w) A env E e s') R hd q2 (Rd.go (fun _ x => x) ks1 d rd) (S.cls (i + 1) h' hst')) (fun _ s1 h1 => ?_) fun _ _ e => e
    refine wpAny_mono h1 (fun _ s1' q3 => ?_) fun _ _ e => e
    refine wpAny_mono (hbody hb' i d s1' _ R hd q3) (fun fl s4 h4 => ?_) fun _ _ e => e
    have next : St s0 hb' env X (τ (i + 1)) s4 → ∃ m, m < items.length + 1 - i ∧ ∃ i, i ≤ items.length ∧ m = items.length + 1 - i ∧ Sx i s4.heap ∧ St s0 hb env X (τ i) s4 ∧ KS X s₂.heap s4.heap := fun q4 =>
      ⟨items.length + 1 - (i + 1), by omega, i + 1, hlt, rfl, W.frame _ _ _ hst' fun b hb o e => q4.kp b o (hfp b hb o e), q4.base R.kp, fun b o hX hq e => q4.kp b o (hin b o (ks1 b o hX hq e) (fun hm => hX (hOX b hm)) (isSeq_notDC hq))⟩
    cases fl with
    | next => exact next h4
    | cont => exact next h4
    | brk => exact h4.elim
    | ret v => obtain ⟨d', h1, h2, h3, h5⟩ := h4; exact hr v d' s4 h1 h2 (R.kp.trans h3) h5
  · have hin : i = items.length := Nat.le_antisymm hle hge
    subst hin
    refine W.done s' _ _ hst fun h' tk hk => ?_
    exact wpAny_execs_nil (hn _ (q'.walk (tk := tk) ⟨oI, fs, hoI, hdI⟩ hbI (.inl fpI) (ksI hk) (fun x I' l k ns e => absurd e (hNI _ x I' l k ns))))

theorem asg_name {x : Str} {px : Pos} {v : Value} {d : D} {I : Value} {E' : Value → Shared → Prop} (f : Fm hb env) (hx : Sto hb env x) (q : St s0 hb env X σ s) (r : Rd X s.heap v d) :
    wpAny (model prog w) A (letOwnedTupleGo (.Name x px) I v) (fun _ s1 => wpAny (model prog w) A (assign (.Name x px) env v) (fun _ s' => St s0 hb env X (upd σ x (.d d)) s') E' s1) E' s :=
  wpAny_pure (wpAny_assign_Name (st_store_d f q hx r fun _ q' => q'))

-- statements
theorem st_assign {x : Str} {px pos : Pos} {e : Expr} {rest : List Stmt} {d : D} {Q : Flow → Shared → Prop} {E : Value → Shared → Prop} (f : Fm hb env) (q : St s0 hb env X σ s) (hx : Sto hb env x) (he : Gv prog w A s.heap X (eval e env) d)
    (hn : ∀ s', St s0 hb env X (upd σ x (.d d)) s' → wpAny (model prog w) A (execs rest env) Q E s') (hs : swapsWith e (some (.Name x px)) pos.line env = pure false := by rfl) :
    wpAny (model prog w) A (execs (.Assign [.Name x px] e pos :: rest) env) Q E s :=
  wpAny_execs_cons (PySem.wpAny_Assign_Name (he q.xok s _ _ Kp.refl fun v s1 k1 r1 => st_store_d f (q.up k1) hx r1 fun s2 q2 => hn s2 q2) hs)
noncomputable def Flat : D → Prop
  | .tup _ => False
  | .lst _ => False
  | _ => True
theorem Rd.flat {Y : List Addr} {v : Value} : ∀ {d : D}, Flat d → Rd Y h v d → Rd X h v d
  | .none, _, r => r
  | .bool _, _, r => r
  | .int _, _, r => r
  | .str _, _, r => r
/-- a flat value, read by the owned lists too -/
theorem st_assign0 {x : Str} {px pos : Pos} {e : Expr} {rest : List Stmt} {d : D} {Q : Flow → Shared → Prop} {E : Value → Shared → Prop} (f : Fm hb env) (q : St s0 hb env X σ s) (hx : Sto hb env x) (he : Gv prog w A s.heap [] (eval e env) d) (hf : Flat d)
    (hn : ∀ s', St s0 hb env X (upd σ x (.d d)) s' → wpAny (model prog w) A (execs rest env) Q E s') (hs : swapsWith e (some (.Name x px)) pos.line env = pure false := by rfl) :
    wpAny (model prog w) A (execs (.Assign [.Name x px] e pos :: rest) env) Q E s :=
  wpAny_execs_cons (PySem.wpAny_Assign_Name (he XOk.nil s _ _ Kp.refl fun v s1 k1 r1 => st_store_d f (q.up k1) hx (Rd.flat hf r1) fun s2 q2 => hn s2 q2) hs)
theorem st_aug {x : Str} {px pos : Pos} {op : Operator} {e : Expr} {rest : List Stmt} {d1 d2 d : D} {Q : Flow → Shared → Prop} {E : Value → Shared → Prop} (f : Fm hb env) (q : St s0 hb env X σ s) (hx : Sto hb env x) (hd : σ x = some (.d d1))
    (he : Gv prog w A s.heap X (eval e env) d2) (ho : InpD prog w A X op d1 d2 d) (hn : ∀ s', St s0 hb env X (upd σ x (.d d)) s' → wpAny (model prog w) A (execs rest env) Q E s') (hdb : (x == ("__debug__" : Str)) = false := by decide) :
    wpAny (model prog w) A (execs (.AugAssign (.Name x px) op e pos :: rest) env) Q E s := by
  refine wpAny_execs_cons (PySem.wpAny_AugAssign_Name ?_)
  have hl := ev_name (prog := prog) (w := w) (A := A) (pos := px) f.eo (q.vd hd) hdb
  have he' : eval (.Name x px) env = (do standAt px; loadName env x) := eval_Name env x px hdb
  obtain ⟨v, a, r⟩ := q.vd hd
  have load : ∀ {Q' : Value → Shared → Prop} {E' : Value → Shared → Prop}, Q' v s → wpAny (model prog w) A (loadName env x) Q' E' s := fun h => by
    rcases a with ⟨hl, m, hn, hm⟩ | ⟨hl, c, hc, hv⟩
    · exact wpAny_loadName_local f.eo.kind hl hn hm h
    · rcases hl with hl | ⟨hl, hn⟩
      · exact wpAny_loadName_cell f.eo.kind hl hc hv h
      · exact wpAny_loadName_free f.eo.kind hl hc hv h hn
  exact load (he q.xok s _ _ Kp.refl fun v2 s1 k1 r1 => ho s1.heap v v2 (r.up k1.kp) r1 (q.xok.up k1.kp) s1 _ _ Kp.refl fun v3 s2 k2 r2 => st_store_d f (q.up (k1.tr k2)) hx r2 fun s3 q3 => hn s3 q3)
theorem st_if {t : Expr} {body orelse rest : List Stmt} {pos : Pos} {c : Bool} {Q : Flow → Shared → Prop} {E : Value → Shared → Prop} {Y : List Addr} (q : St s0 hb env X σ s) (hY : XOk Y s.heap) (ht : Gb prog w A s.heap Y (isTrue t env (eval t env)) c)
    (h1 : c = true → ∀ s', St s0 hb env X σ s' → wpAny (model prog w) A (execs body env) (fun fl s2 => match fl with | .next => wpAny (model prog w) A (execs rest env) Q E s2 | fl => Q fl s2) E s')
    (h2 : c = false → ∀ s', St s0 hb env X σ s' → wpAny (model prog w) A (execs orelse env) (fun fl s2 => match fl with | .next => wpAny (model prog w) A (execs rest env) Q E s2 | fl => Q fl s2) E s') :
    wpAny (model prog w) A (execs (.If t body orelse pos :: rest) env) Q E s :=
  wpAny_execs_cons (PySem.wpAny_If (ht hY s _ _ Kp.refl fun s1 k1 => by
    cases c with
    | true => exact h1 rfl s1 (q.up k1)
    | false => exact h2 rfl s1 (q.up k1)))
theorem st_ret {e : Expr} {rest : List Stmt} {pos : Pos} {d : D} {Q : Flow → Shared → Prop} {E : Value → Shared → Prop} (q : St s0 hb env X σ s) (he : Gv prog w A s.heap X (eval e env) d)
    (hQ : ∀ v s', Kps s s' → Rd X s'.heap v d → Q (.ret v) s') : wpAny (model prog w) A (execs (.Return (some e) pos :: rest) env) Q E s :=
  wpAny_execs_cons (PySem.wpAny_Return_some (he q.xok s _ _ Kp.refl fun v s1 k1 r1 => hQ v s1 k1 r1))
theorem st_ret0 {e : Expr} {rest : List Stmt} {pos : Pos} {d : D} {Q : Flow → Shared → Prop} {E : Value → Shared → Prop} (q : St s0 hb env X σ s) (he : Gv prog w A s.heap [] (eval e env) d) (hf : Flat d)
    (hQ : ∀ v s', Kps s s' → Rd X s'.heap v d → Q (.ret v) s') : wpAny (model prog w) A (execs (.Return (some e) pos :: rest) env) Q E s :=
  wpAny_execs_cons (PySem.wpAny_Return_some (he XOk.nil s _ _ Kp.refl fun v s1 k1 r1 => hQ v s1 k1 (Rd.flat hf r1)))
theorem st_end {Q : Flow → Shared → Prop} {E : Value → Shared → Prop} (h : Q .next s) : wpAny (model prog w) A (execs [] env) Q E s := wpAny_execs_nil h

/-- a while: the state by an index, falling by a measure -/
theorem st_while {ι : Type} {t : Expr} {body rest : List Stmt} {pos : Pos} (τ : ι → Sg) (c : ι → Bool) (mu : ι → Nat) {i0 : ι} {Y : ι → List Addr} {Q : Flow → Shared → Prop} {E : Value → Shared → Prop} (q : St s0 hb env X (τ i0) s)
    (ht : ∀ i s', St s0 hb env X (τ i) s' → XOk (Y i) s'.heap ∧ Gb prog w A s'.heap (Y i) (isTrue t env (eval t env)) (c i))
    (hbody : ∀ i s' E', c i = true → St s0 hb env X (τ i) s' → wpAny (model prog w) A (execs body env) (fun fl s2 => match fl with | .next | .cont => ∃ j, mu j < mu i ∧ St s0 hb env X (τ j) s2 | _ => False) E' s')
    (hn : ∀ i s', c i = false → St s0 hb env X (τ i) s' → wpAny (model prog w) A (execs rest env) Q E s') :
    wpAny (model prog w) A (execs (.While t body [] pos :: rest) env) Q E s := by
  refine wpAny_execs_cons (PySem.wpAny_While (codeAny_whileLoop (fun k s' => ∃ i, mu i = k ∧ St s0 hb env X (τ i) s') ?_ (mu i0) ⟨i0, rfl, q⟩))
  rintro k s' ⟨i, rfl, q'⟩
  obtain ⟨hY, hg⟩ := ht i s' q'
  refine hg hY s' _ _ Kp.refl fun s1 k1 => ?_
  cases hc : c i with
  | true =>
    simp only [if_true]
    refine wpAny_mono (hbody i s1 _ hc (q'.up k1)) (fun fl s2 h2 => ?_) fun _ _ e => e
    cases fl with
    | next => obtain ⟨j, hj, qj⟩ := h2; exact ⟨mu j, hj, j, rfl, qj⟩
    | cont => obtain ⟨j, hj, qj⟩ := h2; exact ⟨mu j, hj, j, rfl, qj⟩
    | brk => exact h2.elim
    | ret v => exact h2.elim
  | false =>
    simp only [Bool.false_eq_true, if_false]
    exact wpAny_execs_nil (hn i s1 hc (q'.up k1))
end
end Mine
end
section
open PySem PySem.W PyProof.Rows
namespace Mine

theorem cellsFrom_app : ∀ (names : List (Str × NameKind)) (n : Nat) (acc : List (Str × Addr)), cellsFrom n names acc = cellsFrom n names [] ++ acc
  | [], _, _ => rfl
  | (x, k) :: r, n, acc => by
    unfold cellsFrom
    split
    · rw [cellsFrom_app r (n + 1) ((x, n) :: acc), cellsFrom_app r (n + 1) [(x, n)], List.append_assoc]; rfl
    · exact cellsFrom_app r n acc
theorem own_mem : ∀ (names : List (Str × NameKind)) (n : Nat) {x : Str} {c : Addr}, (x, c) ∈ cellsFrom n names [] → (x, NameKind.cell) ∈ names
  | (y, k) :: r, n, x, c, hm => by
    unfold cellsFrom at hm
    split at hm
    · rename_i hk
      rw [cellsFrom_app] at hm
      rcases List.mem_append.mp hm with h1 | h1
      · exact List.mem_cons_of_mem _ (own_mem r _ h1)
      · simp at h1
        rw [h1.1, ← eq_of_beq hk]; exact List.mem_cons_self
    · exact List.mem_cons_of_mem _ (own_mem r _ hm)
theorem own_look : ∀ (names : List (Str × NameKind)) (n : Nat) {x : Str}, (x, NameKind.cell) ∈ names → ∃ c, (cellsFrom n names []).lookup x = some c
  | (y, k) :: r, n, x, hm => by
    unfold cellsFrom
    rcases List.mem_cons.mp hm with e | hm
    · cases e
      simp only [beq_self_eq_true, if_true]
      rw [cellsFrom_app, List.lookup_append]
      cases (cellsFrom (n + 1) r []).lookup y with
      | some c => exact ⟨c, rfl⟩
      | none => exact ⟨n, by simp⟩
    · split
      · rw [cellsFrom_app, List.lookup_append]
        obtain ⟨c, hc⟩ := own_look r (n + 1) hm
        exact ⟨c, by rw [hc]; rfl⟩
      · exact own_look r n hm

noncomputable def closOf (look : Str → Option Addr) : List (Str × NameKind) → List (Str × Addr) → List (Str × Addr)
  | [], acc => acc
  | (n, k) :: r, acc => if k == .free then closOf look r ((n, (look n).getD 0) :: acc) else closOf look r acc
theorem closureFor_eq {scope : Scope} {env : Env} (hl : ∀ x ∈ scope.names, x.2 = .free → ∃ c, env.cells.lookup x.1 = some c) : closureFor scope env = pure (closOf (fun n => env.cells.lookup n) scope.names []) := by
  unfold closureFor
  have key : ∀ (names : List (Str × NameKind)) (acc : List (Str × Addr)), (∀ x ∈ names, x.2 = .free → ∃ c, env.cells.lookup x.1 = some c) →
      (forIn names acc fun (x : Str × NameKind) cs => (do
        if x.2 == .free then
          let c ← cellOf env x.1
          pure (ForInStep.yield ((x.1, c) :: cs))
        else pure (ForInStep.yield cs) : Sem (ForInStep (List (Str × Addr))))) = pure (closOf (fun n => env.cells.lookup n) names acc) := by
    intro names
    induction names with
    | nil => intro acc _; rfl
    | cons y r ih =>
      intro acc h
      obtain ⟨n, k⟩ := y
      rw [List.forIn_cons]
      dsimp only
      unfold closOf
      by_cases hk : (k == NameKind.free) = true
      · rw [if_pos hk, if_pos hk]
        obtain ⟨c, hc⟩ := h (n, k) List.mem_cons_self (eq_of_beq hk)
        have : cellOf env n = pure c := by unfold cellOf; rw [hc]
        rw [this, hc]
        exact ih _ fun x hx => h x (List.mem_cons_of_mem _ hx)
      · rw [if_neg hk, if_neg hk]
        exact ih _ fun x hx => h x (List.mem_cons_of_mem _ hx)
  have := key scope.names [] hl
  exact Eq.trans (congrArg (fun t : Sem (List (Str × Addr)) => t >>= fun cs => (pure cs : Sem (List (Str × Addr))) >>= fun r => pure r) this) rfl
theorem clos_mem {look : Str → Option Addr} : ∀ (names : List (Str × NameKind)) (acc : List (Str × Addr)) {x : Str} {c : Addr}, (x, c) ∈ closOf look names acc → (x, c) ∈ acc ∨ ((x, NameKind.free) ∈ names ∧ c = (look x).getD 0)
  | [], _, _, _, hm => .inl hm
  | (n, k) :: r, acc, x, c, hm => by
    unfold closOf at hm
    split at hm
    · rename_i hk
      rcases clos_mem r _ hm with h1 | ⟨h1, h2⟩
      · rcases List.mem_cons.mp h1 with e | h1
        · cases e; exact .inr ⟨by rw [eq_of_beq hk]; exact List.mem_cons_self, rfl⟩
        · exact .inl h1
      · exact .inr ⟨List.mem_cons_of_mem _ h1, h2⟩
    · rcases clos_mem r _ hm with h1 | ⟨h1, h2⟩
      · exact .inl h1
      · exact .inr ⟨List.mem_cons_of_mem _ h1, h2⟩
theorem clos_in {look : Str → Option Addr} : ∀ (names : List (Str × NameKind)) (acc : List (Str × Addr)) {x : Str}, ((x, NameKind.free) ∈ names ∨ ∃ c, (x, c) ∈ acc) → ∃ c, (x, c) ∈ closOf look names acc
  | [], _, _, h => by
    rcases h with h | h
    · cases h
    · exact h
  | (n, k) :: r, acc, x, h => by
    unfold closOf
    split
    · refine clos_in r _ ?_
      rcases h with h | ⟨c, h⟩
      · rcases List.mem_cons.mp h with e | h
        · cases e; exact .inr ⟨_, List.mem_cons_self⟩
        · exact .inl h
      · exact .inr ⟨c, List.mem_cons_of_mem _ h⟩
    · rename_i hk
      refine clos_in r _ ?_
      rcases h with h | ⟨c, h⟩
      · rcases List.mem_cons.mp h with e | h
        · cases e; exact absurd rfl hk
        · exact .inl h
      · exact .inr ⟨c, h⟩
theorem lookup_of_mem {α : Type} : ∀ {l : List (Str × α)} {x : Str} {c : α}, (x, c) ∈ l → ∃ c', l.lookup x = some c'
  | (y, d) :: r, x, c, hm => by
    rw [List.lookup_cons]
    cases hb : x == y with
    | true => exact ⟨d, rfl⟩
    | false =>
      rcases List.mem_cons.mp hm with e | hm
      · cases e; simp at hb
      · exact lookup_of_mem hm
end Mine
end
section
open PySem PySem.W PyProof.Rows
namespace Mine

section
variable {prog : Program} {w : World} {A : Around} {env : Env} {h hb : Heap} {X : List Addr} {mg mb : Str → Option Value} {σ : Sg} {s s0 : Shared}

theorem St.other (q : St s0 hb env X σ s) {C : Addr} {h' : Heap} {tk : Nat} (hs : Heap.SameBut C s.heap h') (hC : C ≠ env.locals) (hcell : ∀ n, env.cells.lookup n ≠ some C) (hCo : ∀ x a ds, σ x = some (.own a ds) → a ≠ C)
    (hbC : hb.get? C = none) (hseq : C ∈ X ∨ ∃ o, s.heap.get? C = some o ∧ ¬ IsSeqO o) (hex : C ∈ X → ∃ o, h'.get? C = some o) (hCi : ∀ x I l i ns, σ x = some (.iter I l i ns) → I ≠ C) : St s0 hb env X σ { s with heap := h', toks := tk } := by
  refine ⟨fun b o e => hs.extBut b o (by rintro rfl; rw [hbC] at e; cases e) (q.kp b o e), let ⟨m, n⟩ := q.nst; ⟨m, n.sameBut hs hC.symm⟩,
    fun n c e => let ⟨v, hv⟩ := q.cells n c e; ⟨v, hv.sameBut hs (fun ec => hcell n (ec ▸ e))⟩, fun x sl e => ?_, (fun b hbX => by
      by_cases e : b = C
      · subst e; exact hex hbX
      · obtain ⟨o, ho⟩ := q.xok b hbX
        exact ⟨o, hs.extBut b o e ho⟩), q.od, q.ob, q.rest, q.ib, q.oi⟩
  obtain ⟨v, a, r⟩ := q.var x sl e
  refine ⟨v, ?_, ?_⟩
  · rcases a with ⟨k, m, hn, hm⟩ | ⟨k, c, hc, hv⟩
    · exact .inl ⟨k, m, hn.sameBut hs hC.symm, hm⟩
    · exact .inr ⟨k, c, hc, hv.sameBut hs fun ec => hcell x (ec ▸ hc)⟩
  · cases sl with
    | d d => exact Rd.same r hs hseq
    | own a ds =>
      obtain ⟨e', ha, vs, n, hg, hr⟩ := r
      exact ⟨e', ha, vs, n, hs.extBut _ _ (hCo x a ds e) hg, hr.same hs hseq⟩
    | val v0 => exact r
    | iter I l i ns =>
      obtain ⟨e', hi, hl, vs, n, hg, hr⟩ := r
      refine ⟨e', hi.at fun o eo => hs.extBut _ o (hCi x I l i ns e) eo, hl, vs, n, hs.extBut l _ (fun ec => ?_) hg, hr.same hs hseq⟩
      subst ec
      rcases hseq with h1 | ⟨o, e1, hn⟩
      · exact hl h1
      · rw [hg] at e1; cases e1; exact hn ⟨_, _, rfl⟩

theorem Kps.same {s s' : Shared} {C : Addr} {h' : Heap} (k : Kps s s') (hC : s.heap.get? C = none) (hs : Heap.SameBut C s'.heap h') : Kps s { s' with heap := h' } := by
  obtain ⟨h1, t1, rfl, hk⟩ := k
  exact ⟨h', t1, rfl, fun b o e => hs.extBut b o (by rintro rfl; rw [hC] at e; cases e) (hk b o e)⟩

/-- the tests of a comprehension -/
noncomputable def Gt (prog : Program) (w : World) (A : Around) (h : Heap) (X : List Addr) (env : Env) (ifs : List Expr) (b : Bool) : Prop := XOk X h →
  ∀ (s : Shared) (Q : Bool → Shared → Prop) (E : Value → Shared → Prop), Kp h s.heap → (∀ s', Kps s s' → Q b s') →
    wpAny (model prog w) A (forIn ifs true fun c r => if r = true then do let ok ← isTrue c env (eval c env); pure (ForInStep.yield ok) else pure (ForInStep.yield r)) Q E s
theorem gt_nil : Gt prog w A h X env [] true := fun hX s Q E hk hQ => wpAny_tests_nil (hQ _ keeps_refl)
theorem gt_one {c : Expr} {b : Bool} (hc : Gb prog w A h X (isTrue c env (eval c env)) b) : Gt prog w A h X env [c] b := fun hX s Q E hk hQ => wpAny_tests_one (hc hX s Q E hk hQ)

theorem newEnvC {scope : Scope} {globals : Addr} {cl : List (Str × Addr)} {qual : Str} {Q : Env → Shared → Prop} {E : Value → Shared → Prop}
    (hQ : Q (newEnv scope s.heap.objs.size globals (cellsFrom (s.heap.objs.size + 1) scope.names cl) qual none .none (some env) builtinsNs) { s with heap := pushCells (s.heap.push { cls := .type "dict", data := .dict #[] }) scope.names }) :
    wpAny (model prog w) A (newFunctionEnv scope globals cl [] qual none .none (some env)) Q E s := by
  simp only [newFunctionEnv, Option.isSome_some, if_true]
  refine wpAny_bind (wpAny_alloc ?_)
  refine wpAny_bind (wpAny_layCells _ (fun name kind cells => by cases hkc : kind == NameKind.cell <;> simp [hkc]) _ _ _ _ ?_)
  rw [show ({ s with heap := s.heap.push { cls := .type "dict", data := .dict #[] } } : Shared).heap.objs.size = s.heap.objs.size + 1 from Heap.size_push ..]
  exact wpAny_bind (wpAny_pure (wpAny_pure hQ))

/-- how the names of a comprehension's block are held -/
noncomputable def KN (scope : Scope) (cenv : Env) : Prop := ∀ n k, scope.names.lookup n = some k → cenv.kindOf n = some k ∨ (k = .free ∧ cenv.kindOf n = some .cell)
theorem kn_relabel {scope : Scope} {env cenv : Env} (hc : cenv.scope = relabel scope env) : KN scope cenv := by
  intro n k hl
  unfold Env.kindOf
  rw [hc]
  unfold relabel
  dsimp only
  revert hl
  induction scope.names with
  | nil => intro hl; cases hl
  | cons y r ih =>
    obtain ⟨m, j⟩ := y
    intro hl
    rw [List.lookup_cons] at hl
    rw [List.map_cons]
    cases hb : n == m with
    | true =>
      rw [hb] at hl
      have hl : j = k := Option.some.inj hl
      subst hl
      by_cases hq : (j == NameKind.free && env.scope.kind == .function && env.kindOf m == some .cell) = true
      · right
        rw [if_pos hq]
        simp only [Bool.and_eq_true] at hq
        exact ⟨eq_of_beq hq.1.1, by rw [List.lookup_cons, hb]⟩
      · left
        rw [if_neg hq, List.lookup_cons, hb]
    | false =>
      rw [hb] at hl
      have := ih hl
      by_cases hq : (j == NameKind.free && env.scope.kind == .function && env.kindOf m == some .cell) = true
      · rw [if_pos hq, List.lookup_cons, hb]; exact this
      · rw [if_neg hq, List.lookup_cons, hb]; exact this

noncomputable def sg0 (fv : List (Str × D)) : Sg := fun n => (fv.lookup n).map .d

theorem sg0_ni (fv : List (Str × D)) (x : Str) (I l : Addr) (i : Nat) (ns : List Int) : sg0 fv x ≠ some (.iter I l i ns) := fun e => by
  unfold sg0 at e
  cases hf : fv.lookup x <;> rw [hf] at e <;> cases e

theorem comp_core {elt target iter : Expr} {ifs : List Expr} {scope : Scope} {pos cpos : Pos} {items : List D} {use : Option (Value → Sem Unit)} {Q : Value → Shared → Prop} {E : Value → Shared → Prop} {p : D → Bool} {fe : D → D}
    {fv : List (Str × D)} {σ1 : D → Sg} (hA : A.handled = none) (eo : EnvOk env) (hX : XOk X s.heap) (hkind : scope.kind = .function) (hdist : ∀ y ∈ scope.names, scope.names.lookup y.1 = some y.2)
    (hfree : ∀ y ∈ scope.names, y.2 = .free → (y.1 == ("__classdict__" : Str)) = false ∧ ∃ c v d, env.cells.lookup y.1 = some c ∧ s.heap.IsCell c (some v) ∧ Rd X s.heap v d ∧ fv.lookup y.1 = some d)
    (hfv : ∀ n d, fv.lookup n = some d → scope.names.lookup n = some .free)
    (hi : Gi prog w A s.heap X env iter items) (hz : items.length ≤ sizeLine)
    (hasg : ∀ (cenv : Env) (hb' : Heap) (X' : List Addr) (s' s0 : Shared) (d : D) (v : Value) (I : Addr) (E' : Value → Shared → Prop), d ∈ items → Fm hb' cenv → (∀ x, scope.names.lookup x = some .local ∨ scope.names.lookup x = some .cell → Sto hb' cenv x) →
      St s0 hb' cenv X' (sg0 fv) s' → Rd X' s'.heap v d → IterOk I s'.heap →
      wpAny (model prog w) A (letOwnedTupleGo target (.ref I) v) (fun _ s1 => wpAny (model prog w) A (assign target cenv v) (fun _ s2 => St s0 hb' cenv X' (σ1 d) s2) E' s1) E' s')
    (hσ : ∀ d x sl, sg0 fv x = some sl → σ1 d x = some sl)
    (htest : ∀ (cenv : Env) (h' : Heap) (X' : List Addr) (d : D), d ∈ items → EnvOk cenv → KN scope cenv → Kp s.heap h' → (∀ x d', σ1 d x = some (.d d') → Var cenv h' X' x d') → Gt prog w A h' X' cenv ifs (p d))
    (helt : ∀ (cenv : Env) (h' : Heap) (X' : List Addr) (d : D), d ∈ items → p d = true → EnvOk cenv → KN scope cenv → Kp s.heap h' → (∀ x d', σ1 d x = some (.d d') → Var cenv h' X' x d') → Gv prog w A h' X' (eval elt cenv) (fe d))
    (hend : ∀ D' C s', Kps s s' → s.heap.get? C = none → C ∉ X → (∃ m, s'.heap.Ns C m) → Rd X s'.heap (.ref D') (.lst ((items.filter p).map fe)) → compPost (model prog w) A E use Q (.ref D') C (.ok .next) s')
    (hs : ∀ x, foldedSetIterable iter env x = pure x := by intro _; rfl) :
    wpAny (model prog w) A (comprehension (.ListComp elt [⟨target, iter, ifs, 0⟩] scope pos) scope env cpos (newList []) false (eval iter env) use) Q E s := by
  refine wpAny_comprehension_free (cl := closOf (fun n => env.cells.lookup n) scope.names []) rfl hs (closureFor_eq fun x hx hf => let ⟨_, c, _, _, hc, _⟩ := hfree x hx hf; ⟨c, hc⟩) hkind
    (fun x hx hl => by rw [hdist x hx, hl]) (hi hX s _ _ Kp.refl fun I fp wr P Sx s₂ k₂ S => ?_)
  have hX₂ : XOk X s₂.heap := hX.up k₂.kp
  refine wpAny_newList ?_
  refine newEnvC ?_
  -- names
  generalize hDa : s₂.heap.objs.size = Da
  generalize hH3 : s₂.heap.push { cls := .type "list", data := .seq ([] : List Value).toArray } = H3
  have hC : H3.objs.size = Da + 1 := by rw [← hH3, Heap.size_push, hDa]
  dsimp only
  rw [hC]
  generalize hH4 : pushCells (H3.push { cls := .type "dict", data := .dict #[] }) scope.names = H4
  generalize hcs : cellsFrom (Da + 1 + 1) scope.names (closOf (fun n => env.cells.lookup n) scope.names []) = cs
  generalize hce : ({ newEnv scope (Da + 1) env.globals cs env.qual none .none (some env) builtinsNs with scope := relabel scope env } : Env) = cenv
  have ce_loc : cenv.locals = Da + 1 := by rw [← hce]; rfl
  have ce_cells : cenv.cells = cs := by rw [← hce]; rfl
  have ce_scope : cenv.scope = relabel scope env := by rw [← hce]
  have loc0 : (newEnv scope (Da + 1) env.globals cs env.qual none .none (some env) builtinsNs).locals = Da + 1 := rfl
  rw [loc0]
  have k34 : Kp s₂.heap H4 := fun b o e => by
    rw [← hH4, ← hH3]
    exact pushCells_keeps _ _ b o (Heap.get?_push_of_some _ (Heap.get?_push_of_some _ e))
  have hD4 : H4.get? Da = some (LO [] 0) := by
    rw [← hH4]
    refine pushCells_keeps _ _ _ _ (Heap.get?_push_of_some _ ?_)
    rw [← hH3, ← hDa]
    exact Heap.get?_push_size _ rfl
  have hN4 : H4.Ns (Da + 1) fun _ => none := by
    rw [← hH4, ← hC]
    exact (Heap.Ns.new H3 (.type "dict")).keeps (pushCells_keeps _ _)
  have ok := cellsFrom_ok scope.names (H3.push { cls := .type "dict", data := .dict #[] }) (Da + 2) [] ⟨fun _ _ hm => (nomatch hm), List.Pairwise.nil⟩ (by rw [Heap.size_push, hC]; exact Nat.le_refl _)
  rw [hH4, Heap.size_push, hC] at ok
  have cs_app : cs = cellsFrom (Da + 1 + 1) scope.names [] ++ closOf (fun n => env.cells.lookup n) scope.names [] := by rw [← hcs]; exact cellsFrom_app _ _ _
  have fresh2 : ∀ a, Da ≤ a → s₂.heap.get? a = none := fun a ha => by
    cases e : s₂.heap.get? a with
    | none => rfl
    | some o => exact absurd (Heap.lt_size e) (by rw [hDa]; exact Nat.not_lt.mpr ha)
  have freshS : ∀ a, Da ≤ a → s.heap.get? a = none := fun a ha => by
    cases e : s.heap.get? a with
    | none => rfl
    | some o => rw [← k₂.kp _ _ e, fresh2 a ha]
  have offX : ∀ a, Da ≤ a → a ∉ X := fun a ha hm => by
    obtain ⟨o, e⟩ := hX a hm
    rw [freshS a ha] at e; cases e
  -- lookups in the cells
  have look : ∀ n c, cs.lookup n = some c → ((n, NameKind.cell) ∈ scope.names ∧ (cellsFrom (Da + 1 + 1) scope.names []).lookup n = some c ∧ H4.IsCell c none ∧ Da + 2 ≤ c) ∨
      ((n, NameKind.free) ∈ scope.names ∧ env.cells.lookup n = some c) := by
    intro n c hc
    rw [cs_app, List.lookup_append] at hc
    cases ho : (cellsFrom (Da + 1 + 1) scope.names []).lookup n with
    | some c' =>
      rw [ho] at hc; cases hc
      have hm := mem_of_lookup ho
      exact .inl ⟨own_mem _ _ hm, rfl, ok.empty _ _ hm⟩
    | none =>
      rw [ho] at hc
      have hm := mem_of_lookup (show (closOf (fun n => env.cells.lookup n) scope.names []).lookup n = some c from hc)
      rcases clos_mem _ _ hm with h1 | ⟨h1, h2⟩
      · cases h1
      · obtain ⟨_, c', _, _, hc', _⟩ := hfree _ h1 rfl
        rw [hc'] at h2
        subst h2
        exact .inr ⟨h1, hc'⟩
  have ceo : EnvOk cenv := by
    refine ⟨by rw [ce_scope]; exact hkind, by rw [← hce]; exact eo.gl, by rw [← hce]; exact eo.bl, fun n n' c h1 h2 => ?_⟩
    rw [ce_cells] at h1 h2
    rcases look n c h1 with ⟨a1, b1, c1, d1⟩ | ⟨a1, b1⟩ <;> rcases look n' c h2 with ⟨a2, b2, c2, d2⟩ | ⟨a2, b2⟩
    · exact name_of_addr ok.apart (mem_of_lookup b1) (mem_of_lookup b2)
    · obtain ⟨_, c', v, _, hc', hv, _⟩ := hfree _ a2 rfl
      rw [b2] at hc'; cases hc'
      have := hv.lt
      have e := freshS c (by omega)
      obtain ⟨o, ho, _⟩ := hv
      rw [e] at ho; cases ho
    · obtain ⟨_, c', v, _, hc', hv, _⟩ := hfree _ a1 rfl
      rw [b1] at hc'; cases hc'
      have e := freshS c (by omega)
      obtain ⟨o, ho, _⟩ := hv
      rw [e] at ho; cases ho
    · exact eo.apart _ _ _ b1 b2
  have ckn : KN scope cenv := kn_relabel ce_scope
  -- the base: all that stood, but the iterator
  obtain ⟨oI, TI, fsI, hoI, hcI, hdI, hTI⟩ := S.cls 0 _ S.st
  have hIs : I < Da := by rw [← hDa]; exact Heap.lt_size hoI
  let hbm := mask s₂.heap [I]
  have hbm_out : ∀ b, b ≠ I → hbm.get? b = s₂.heap.get? b := fun b hb => mask_out _ _ _ (by simpa using hb)
  have hbm_in : hbm.get? I = none := mask_in _ _ _ List.mem_cons_self
  have hbm_kp : Kp hbm s₂.heap := fun b o e => by
    by_cases hb : b = I
    · subst hb; rw [hbm_in] at e; cases e
    · rw [hbm_out b hb] at e; exact e
  have s_hbm : Kp s.heap hbm := fun b o e => by
    rw [hbm_out b (by rintro rfl; rw [S.new] at e; cases e)]
    exact k₂.kp b o e
  have hbm_fresh : ∀ a, Da ≤ a → hbm.get? a = none := fun a ha => by
    cases e : hbm.get? a with
    | none => rfl
    | some o => rw [← hbm_kp _ _ e, fresh2 a ha]
  have cfm : Fm hbm cenv := ⟨ceo, by rw [ce_loc]; exact hbm_fresh _ (by omega)⟩
  have csto : ∀ x, scope.names.lookup x = some .local ∨ scope.names.lookup x = some .cell → Sto hbm cenv x := by
    intro x hx
    rcases hx with hx | hx
    · rcases ckn x _ hx with h1 | ⟨h1, _⟩
      · exact .inl h1
      · cases h1
    · rcases ckn x _ hx with h1 | ⟨h1, _⟩
      · refine .inr ⟨h1, ?_⟩
        obtain ⟨c, hc⟩ := own_look scope.names (Da + 1 + 1) (mem_of_lookup hx)
        refine ⟨c, by rw [ce_cells, cs_app, List.lookup_append, hc]; rfl, hbm_fresh c ?_⟩
        have := (ok.empty _ _ (mem_of_lookup hc)).2
        omega
      · cases h1
  have hXD : XOk (Da :: X) H4 := fun a ha => by
    rcases List.mem_cons.mp ha with rfl | ha
    · exact ⟨_, hD4⟩
    · obtain ⟨o, e⟩ := hX₂ a ha
      exact ⟨o, k34 _ _ e⟩
  have hDmore : ∀ {v : Value} {d : D}, Rd X s₂.heap v d → Rd (Da :: X) hbm v d := fun {v d} r =>
    Rd.more (hbm_fresh Da (Nat.le_refl _)) d (Rd.go (fun _ x => x) (fun b o _ hq e => by
      rw [hbm_out b (by rintro rfl; rw [hoI] at e; cases e; obtain ⟨_, _, hq⟩ := hq; rw [hdI] at hq; cases hq)]; exact e) d r)
  generalize hs4 : ({ s₂ with heap := H4 } : Shared) = s₄
  have e4 : s₄.heap = H4 := by rw [← hs4]
  have q4 : St s₂ hbm cenv (Da :: X) (sg0 fv) s₄ := by
    refine ⟨fun b o e => by rw [e4]; exact k34 _ _ (hbm_kp b o e), ⟨_, by rw [e4, ce_loc]; exact hN4⟩, fun n c hc => ?_, fun x sl e => ?_, by rw [e4]; exact hXD, ?_, ?_, by rw [← hs4]; exact ⟨rfl, rfl, rfl⟩, ?_, ?_⟩
    · rw [ce_cells] at hc
      rw [e4]
      rcases look n c hc with ⟨_, _, h1, _⟩ | ⟨h1, h2⟩
      · exact ⟨_, h1⟩
      · obtain ⟨_, c', v, _, hc', hv, _⟩ := hfree _ h1 rfl
        rw [h2] at hc'; cases hc'
        exact ⟨_, (hv.keeps k₂.kp).keeps k34⟩
    · unfold sg0 at e
      cases hf : fv.lookup x with
      | none => rw [hf] at e; cases e
      | some d =>
        rw [hf] at e; cases e
        have hk := hfv x d hf
        obtain ⟨hcd, c, v, d', hc, hv, hr, hd'⟩ := hfree _ (mem_of_lookup hk) rfl
        dsimp only at hd' hc
        rw [hf] at hd'; cases hd'
        refine ⟨v, .inr ⟨?_, c, ?_, by rw [e4]; exact (hv.keeps k₂.kp).keeps k34⟩, ?_⟩
        · rcases ckn x _ hk with h1 | ⟨_, h1⟩
          · exact .inr ⟨h1, hcd⟩
          · exact .inl h1
        · rw [ce_cells, cs_app, List.lookup_append]
          have hno : (cellsFrom (Da + 1 + 1) scope.names []).lookup x = none := by
            cases ho : (cellsFrom (Da + 1 + 1) scope.names []).lookup x with
            | none => rfl
            | some c' =>
              have := hdist _ (own_mem _ _ (mem_of_lookup ho))
              dsimp only at this
              rw [hk] at this; cases this
          rw [hno]
          obtain ⟨c1, h1⟩ := clos_in (look := fun n => env.cells.lookup n) scope.names [] (x := x) (.inl (mem_of_lookup hk))
          obtain ⟨c2, h2⟩ := lookup_of_mem h1
          show (closOf (fun n => env.cells.lookup n) scope.names []).lookup x = some c
          rw [h2]
          rcases clos_mem _ _ (mem_of_lookup h2) with h3 | ⟨_, h3⟩
          · cases h3
          · rw [hc] at h3; rw [h3]; rfl
        · show Rd (Da :: X) s₄.heap v d
          rw [e4]
          exact ((hDmore (hr.up k₂.kp)).up hbm_kp).up k34
    · intro x y a ds a' ds' e1
      unfold sg0 at e1
      cases hf : fv.lookup x <;> rw [hf] at e1 <;> cases e1
    · intro x a ds e1
      unfold sg0 at e1
      cases hf : fv.lookup x <;> rw [hf] at e1 <;> cases e1
    · intro x I l i ns e1
      exact absurd e1 (sg0_ni fv x I l i ns)
    · intro x y I l i ns I' l' i' ns' e1
      exact absurd e1 (sg0_ni fv x I l i ns)
  -- the turns
  have W := S.W A hA
  have ksI : ∀ {h1 h' : Heap}, (∀ b o, b ∉ wr → h1.get? b = some o → h'.get? b = some o) → ∀ b o, b ≠ I → h1.get? b = some o → h'.get? b = some o := fun hk b o hb e => hk b o (by rw [S.wrI]; simpa using hb) e
  have IX : I ∉ Da :: X := fun hm => by
    rcases List.mem_cons.mp hm with e | hm
    · exact absurd e (Nat.ne_of_lt hIs)
    · obtain ⟨o, e⟩ := hX I hm
      rw [S.new] at e; cases e
  have loop : codeAny (model prog w) A (.compLoop (.ListComp elt [⟨target, iter, ifs, 0⟩] scope pos) 0 (.ref I) (.ref Da) cenv) (compPost (model prog w) A E use Q (.ref Da) (Da + 1)) s₄ := by
    refine codeAny_loop rfl (fun k s' => ∃ i, i ≤ items.length ∧ k = items.length + 1 - i ∧ Sx i s'.heap ∧ St s₂ hbm cenv (Da :: X) (sg0 fv) s' ∧ ∃ ys n, s'.heap.get? Da = some (LO ys n) ∧ Rds (Da :: X) s'.heap ys (((items.take i).filter p).map fe)) ?_ (items.length + 1)
      ⟨0, Nat.zero_le _, rfl, W.frame _ _ _ S.st fun b _ o e => by rw [e4]; exact k34 b o e, q4, [], 0, by rw [e4]; exact hD4, trivial⟩
    rintro k s' ⟨i, hle, rfl, hst, q', ys, n, hDs, hys⟩
    show wpAny _ A ((compTurn (.ListComp elt [⟨target, iter, ifs, 0⟩] scope pos) 0 (.ref I) (.ref Da) cenv).onRaise (fun x => do noteFrame x cenv; theTreesLotGoes x)) _ _ s'
    refine wpAny_noted ?_
    rw [compTurn_list]
    refine wpAny_bind (wpAny_standAt (wpAny_bind ?_))
    obtain ⟨oI, TI, fsI, hoI, hcI, hdI, hTI⟩ := S.cls i _ hst
    rcases Nat.lt_or_ge i items.length with hlt | hge
    · refine W.item i s' _ _ hlt hst fun v h' tk hP hst' hk => ?_
      have q1 := q'.walk (tk := tk) ⟨oI, fsI, hoI, hdI⟩ hbm_in (.inl IX) (ksI hk) (fun x I' l k ns e => absurd e (sg0_ni fv x I' l k ns))
      obtain ⟨hb', R, q2, hin⟩ := q1.rebase cfm [] (fun x a ds e => by
        unfold sg0 at e
        cases hf : fv.lookup x <;> rw [hf] at e <;> cases e) (fun x I' l k ns e => absurd e (sg0_ni fv x I' l k ns))
      obtain ⟨d, hd, rd⟩ := S.val i v hP
      have hdm : d ∈ items := List.mem_of_getElem? hd
      have hDh : h'.get? Da = some (LO ys n) := ksI hk _ _ (Nat.ne_of_gt hIs) hDs
      have hDb : hb'.get? Da = some (LO ys n) := hin _ _ hDh List.not_mem_nil (notDC_seq rfl)
      have hfp : ∀ b ∈ fp, ∀ o, h'.get? b = some o → hb'.get? b = some o := fun b hb o e => by
        obtain ⟨o', e', nd⟩ := S.nd (i + 1) h' hst' b hb
        rw [e] at e'; cases e'
        exact hin b o e List.not_mem_nil nd
      have rds' : Rds (Da :: X) hb' ys (((items.take i).filter p).map fe) := by
        refine Rds.go (fun _ x => x) (fun b o hbX hq e => ?_) _ hys
        refine hin b o ?_ List.not_mem_nil (isSeq_notDC hq)
        exact ksI hk b o (by rintro rfl; rw [hoI] at e; cases e; obtain ⟨_, _, hq⟩ := hq; rw [hdI] at hq; cases hq) e
      have hvd : Rd (Da :: X) h' v d := (hDmore rd).up q1.kp
      refine wpAny_bind (wpAny_mono (hasg cenv hb' (Da :: X) _ s₂ d v I _ hdm R.fm (fun x hx => R.sto x (csto x hx)) q2 hvd (S.cls (i + 1) h' hst')) (fun _ s1 h1 => wpAny_bind (wpAny_mono h1 (fun _ s3 q3 => ?_) fun _ _ e => e)) fun _ _ e => e)
      have Ks3 : Kp s.heap s3.heap := s_hbm.trans (R.kp.trans q3.kp)
      refine wpAny_bind (htest cenv s3.heap (Da :: X) d hdm ceo ckn Ks3 (fun x d' e => q3.vd e) q3.xok s3 _ _ Kp.refl fun s5 k5 => ?_)
      have q5 := q3.up k5
      have htake : items.take (i + 1) = items.take i ++ [d] := by
        rw [List.take_add_one, hd]; rfl
      have frame : ∀ {h6 : Heap}, Kp hb' h6 → Sx (i + 1) h6 := fun k6 => W.frame _ _ _ hst' fun b hb o e => k6 b o (hfp b hb o e)
      cases hp : p d with
      | false =>
        refine wpAny_pure ⟨rfl, items.length + 1 - (i + 1), by omega, i + 1, hlt, rfl, frame q5.kp, (q5.base R.kp).weak (hσ d), ys, n, q5.kp _ _ hDb, ?_⟩
        rw [htake, List.filter_append, List.filter_cons, hp]
        simp only [Bool.false_eq_true, if_false, List.filter_nil, List.append_nil]
        exact rds'.up q5.kp
      | true =>
        simp only [if_true]
        refine wpAny_bind (wpAny_bind (helt cenv s5.heap (Da :: X) d hdm hp ceo ckn (Ks3.trans k5.kp) (fun x d' e => q5.vd e) q5.xok s5 _ _ Kp.refl fun y s6 k6 r6 => ?_))
        have q6 := q5.up k6
        have hD6 := q6.kp _ _ hDb
        have hyl : ys.length ≤ sizeLine := by
          rw [hys.length, List.length_map]
          refine Nat.le_trans (List.length_filter_le _ _) (Nat.le_trans ?_ hz)
          rw [List.length_take]; omega
        refine wpAny_bind (wpAny_list_append_plain ⟨n, hD6⟩ (fun h7 hl7 hs7 => ?_) (by rw [List.size_toArray]; exact hyl))
        have hex7 : ∃ o, h7.get? Da = some o := let ⟨n7, ho⟩ := hl7; ⟨_, ho⟩
        have q7 : St s₂ hbm cenv (Da :: X) (sg0 fv) { s6 with heap := h7 } := St.other (tk := s6.toks) ((q6.base R.kp).weak (hσ d)) hs7 (by rw [ce_loc]; exact Nat.ne_of_lt (Nat.lt_succ_self _)) (fun n hn => by
            rw [ce_cells] at hn
            rcases look n Da hn with ⟨_, _, _, h1⟩ | ⟨h1, h2⟩
            · omega
            · obtain ⟨_, c', v', _, hc', hv', _⟩ := hfree _ h1 rfl
              rw [h2] at hc'; cases hc'
              obtain ⟨o, ho, _⟩ := hv'
              rw [freshS Da (Nat.le_refl _)] at ho; cases ho) (fun x a ds e => by
            unfold sg0 at e
            cases hf : fv.lookup x <;> rw [hf] at e <;> cases e) (hbm_fresh _ (Nat.le_refl _)) (.inl List.mem_cons_self) (fun _ => hex7) (fun x I' l k ns e => absurd e (sg0_ni fv x I' l k ns))
        refine wpAny_pure (wpAny_pure ⟨rfl, items.length + 1 - (i + 1), by omega, i + 1, hlt, rfl, W.frame _ _ _ (frame q6.kp) fun b hb o e => hs7.extBut b o ?_ e, q7, ?_⟩)
        · rintro rfl
          obtain ⟨o', e', _⟩ := S.nd 0 _ S.st _ hb
          rw [fresh2 _ (Nat.le_refl _)] at e'; cases e'
        · have hobj : ∃ n', h7.get? Da = some (LO (ys ++ [y]) n') := by
            obtain ⟨n7, e7⟩ := hl7
            rw [List.push_toArray] at e7
            exact ⟨n7, e7⟩
          obtain ⟨n', hg7⟩ := hobj
          refine ⟨ys ++ [y], n', hg7, ?_⟩
          rw [htake, List.filter_append, List.filter_cons, hp]
          simp only [if_true, List.filter_nil, List.map_append]
          exact Rds.app (Rds.same (rds'.up q6.kp) hs7 (.inl List.mem_cons_self)) ⟨Rd.same r6 hs7 (.inl List.mem_cons_self), trivial⟩
    · have hii : i = items.length := Nat.le_antisymm hle hge
      subst hii
      refine W.done s' _ _ hst fun h' tk hk => ?_
      have q1 := q'.walk (tk := tk) ⟨oI, fsI, hoI, hdI⟩ hbm_in (.inl IX) (ksI hk) (fun x I' l k ns e => absurd e (sg0_ni fv x I' l k ns))
      refine wpAny_pure ?_
      have hk1 : Kps s { s' with heap := h', toks := tk } := by
        have r1 := q1.rest
        have : SR s { s' with heap := h', toks := tk } := by
          obtain ⟨h2, t2, e2, _⟩ := k₂
          subst e2
          exact r1
        exact this.kps (s_hbm.trans q1.kp)
      refine hend Da (Da + 1) _ hk1 (freshS _ (by omega)) (offX _ (by omega)) ?_ ⟨Da, ys, n, rfl, offX _ (Nat.le_refl _), ksI hk _ _ (Nat.ne_of_gt hIs) hDs, ?_⟩
      · obtain ⟨m, hm⟩ := q1.nst
        rw [ce_loc] at hm
        exact ⟨m, hm⟩
      · rw [List.take_length] at hys
        refine Rds.go (fun a ha hm => ha (List.mem_cons_of_mem _ hm)) (fun b o hbX hq e => ?_) _ hys
        exact ksI hk b o (by rintro rfl; rw [hoI] at e; cases e; obtain ⟨_, _, hq⟩ := hq; rw [hdI] at hq; cases hq) e
  exact codeAny_compStart_list loop (W.self 0 _ _ _ (W.frame _ _ _ S.st fun b _ o e => by rw [e4]; exact k34 b o e) loop)

/-- the free names of a comprehension's block, out of the names at hand -/
theorem free_of {scope : Scope} {fv : List (Str × D)} (h : Heap) (hv : ∀ n d, fv.lookup n = some d → Var env h X n d ∧ env.kindOf n ≠ some .local) (hc : ∀ y ∈ scope.names, y.2 = .free → (y.1 == ("__classdict__" : Str)) = false ∧ ∃ d, fv.lookup y.1 = some d) :
    ∀ y ∈ scope.names, y.2 = .free → (y.1 == ("__classdict__" : Str)) = false ∧ ∃ c v d, env.cells.lookup y.1 = some c ∧ h.IsCell c (some v) ∧ Rd X h v d ∧ fv.lookup y.1 = some d := by
  intro y hy hf
  obtain ⟨h1, d, hd⟩ := hc y hy hf
  obtain ⟨⟨v, a, r⟩, hk⟩ := hv _ _ hd
  rcases a with ⟨k, _⟩ | ⟨_, c, hc, hv⟩
  · exact absurd k hk
  · exact ⟨h1, c, v, d, hc, hv, r, hd⟩

/-- a comprehension as a value -/
theorem ev_comp {elt target iter : Expr} {ifs : List Expr} {scope : Scope} {pos : Pos} {items : List D} {p : D → Bool} {fe : D → D}
    {fv : List (Str × D)} {σ1 : D → Sg} (hA : A.handled = none) (eo : EnvOk env)
    (hv : ∀ n d, fv.lookup n = some d → Var env h X n d ∧ env.kindOf n ≠ some .local)
    (hi : Gi prog w A h X env iter items) (hz : items.length ≤ sizeLine)
    (hasg : ∀ (cenv : Env) (hb' : Heap) (X' : List Addr) (s' s0 : Shared) (d : D) (v : Value) (I : Addr) (E' : Value → Shared → Prop), d ∈ items → Fm hb' cenv → (∀ x, scope.names.lookup x = some .local ∨ scope.names.lookup x = some .cell → Sto hb' cenv x) →
      St s0 hb' cenv X' (sg0 fv) s' → Rd X' s'.heap v d → IterOk I s'.heap →
      wpAny (model prog w) A (letOwnedTupleGo target (.ref I) v) (fun _ s1 => wpAny (model prog w) A (assign target cenv v) (fun _ s2 => St s0 hb' cenv X' (σ1 d) s2) E' s1) E' s')
    (hσ : ∀ d x sl, sg0 fv x = some sl → σ1 d x = some sl)
    (htest : ∀ (cenv : Env) (h' : Heap) (X' : List Addr) (d : D), d ∈ items → EnvOk cenv → KN scope cenv → Kp h h' → (∀ x d', σ1 d x = some (.d d') → Var cenv h' X' x d') → Gt prog w A h' X' cenv ifs (p d))
    (helt : ∀ (cenv : Env) (h' : Heap) (X' : List Addr) (d : D), d ∈ items → p d = true → EnvOk cenv → KN scope cenv → Kp h h' → (∀ x d', σ1 d x = some (.d d') → Var cenv h' X' x d') → Gv prog w A h' X' (eval elt cenv) (fe d))
    (hkind : scope.kind = .function := by rfl) (hdist : ∀ y ∈ scope.names, scope.names.lookup y.1 = some y.2 := by decide +kernel)
    (hc : ∀ y ∈ scope.names, y.2 = .free → (y.1 == ("__classdict__" : Str)) = false ∧ ∃ d, fv.lookup y.1 = some d)
    (hfv : ∀ n d, fv.lookup n = some d → scope.names.lookup n = some .free)
    (hs : ∀ x, foldedSetIterable iter env x = pure x := by intro _; rfl) :
    Gv prog w A h X (eval (.ListComp elt [⟨target, iter, ifs, 0⟩] scope pos) env) (.lst ((items.filter p).map fe)) := by
  intro hX s Q E hk hQ
  rw [eval_ListComp]
  refine comp_core (s := s) hA eo (hX.up hk) hkind hdist (free_of (scope := scope) s.heap (fun n d e => ⟨(hv n d e).1.up hk, (hv n d e).2⟩) hc) hfv (fun hX' s' Q' E' k' h' => hi hX s' Q' E' (hk.trans k') h') hz hasg hσ
    (fun cenv h' X' d h1 h2 h3 h4 => htest cenv h' X' d h1 h2 h3 (hk.trans h4)) (fun cenv h' X' d h1 h2 h3 h4 h5 => helt cenv h' X' d h1 h2 h3 h4 (hk.trans h5)) (fun D' C s' k1 hC hCX hN hR => ?_) hs
  obtain ⟨m, hn⟩ := hN
  exact ⟨m, hn, fun h' hs' => hQ _ _ (k1.same hC hs') (Rd.same hR hs' (.inr (ns_notSeq hn)))⟩

/-- a comprehension stored at once into a local name -/
theorem st_comp {elt target iter : Expr} {ifs : List Expr} {scope : Scope} {pos spos py : Pos} {y : Str} {rest : List Stmt} {items : List D} {p : D → Bool} {fe : D → D}
    {fv : List (Str × D)} {σ1 : D → Sg} {Q : Flow → Shared → Prop} {E : Value → Shared → Prop} (hA : A.handled = none) (f : Fm hb env) (q : St s0 hb env X σ s)
    (hv : ∀ n d, fv.lookup n = some d → Var env s.heap X n d ∧ env.kindOf n ≠ some .local)
    (hi : Gi prog w A s.heap X env iter items) (hz : items.length ≤ sizeLine)
    (hasg : ∀ (cenv : Env) (hb' : Heap) (X' : List Addr) (s' s0 : Shared) (d : D) (v : Value) (I : Addr) (E' : Value → Shared → Prop), d ∈ items → Fm hb' cenv → (∀ x, scope.names.lookup x = some .local ∨ scope.names.lookup x = some .cell → Sto hb' cenv x) →
      St s0 hb' cenv X' (sg0 fv) s' → Rd X' s'.heap v d → IterOk I s'.heap →
      wpAny (model prog w) A (letOwnedTupleGo target (.ref I) v) (fun _ s1 => wpAny (model prog w) A (assign target cenv v) (fun _ s2 => St s0 hb' cenv X' (σ1 d) s2) E' s1) E' s')
    (hσ : ∀ d x sl, sg0 fv x = some sl → σ1 d x = some sl)
    (htest : ∀ (cenv : Env) (h' : Heap) (X' : List Addr) (d : D), d ∈ items → EnvOk cenv → KN scope cenv → Kp s.heap h' → (∀ x d', σ1 d x = some (.d d') → Var cenv h' X' x d') → Gt prog w A h' X' cenv ifs (p d))
    (helt : ∀ (cenv : Env) (h' : Heap) (X' : List Addr) (d : D), d ∈ items → p d = true → EnvOk cenv → KN scope cenv → Kp s.heap h' → (∀ x d', σ1 d x = some (.d d') → Var cenv h' X' x d') → Gv prog w A h' X' (eval elt cenv) (fe d))
    (hy : env.kindOf y = some .local)
    (hn : ∀ s', St s0 hb env X (upd σ y (.d (.lst ((items.filter p).map fe)))) s' → wpAny (model prog w) A (execs rest env) Q E s')
    (hsw : swapsWith (.ListComp elt [⟨target, iter, ifs, 0⟩] scope pos) (some (.Name y py)) spos.line env = pure true)
    (hc : ∀ y ∈ scope.names, y.2 = .free → (y.1 == ("__classdict__" : Str)) = false ∧ ∃ d, fv.lookup y.1 = some d)
    (hfv : ∀ n d, fv.lookup n = some d → scope.names.lookup n = some .free)
    (hkind : scope.kind = .function := by rfl) (hdist : ∀ y ∈ scope.names, scope.names.lookup y.1 = some y.2 := by decide +kernel)
    (hs : ∀ x, foldedSetIterable iter env x = pure x := by intro _; rfl) :
    wpAny (model prog w) A (execs (.Assign [.Name y py] (.ListComp elt [⟨target, iter, ifs, 0⟩] scope pos) spos :: rest) env) Q E s := by
  refine wpAny_execs_cons ?_
  rw [exec_Assign_Name_used _ _ _ _ hsw]
  refine wpAny_bind (wpAny_standAt (wpAny_bind ?_))
  show wpAny _ A (do let _ ← comprehension (.ListComp elt [⟨target, iter, ifs, 0⟩] scope pos) scope env _ (newList []) false (eval iter env) (some (assign (.Name y py) env))) _ _ s
  refine wpAny_bind (wpAny_mono (Q := fun _ s' => wpAny (model prog w) A (execs rest env) Q E s') ?_ (fun _ s' hq => wpAny_pure (wpAny_pure hq)) fun _ _ e => e)
  refine comp_core (s := s) hA f.eo q.xok hkind hdist (free_of (scope := scope) s.heap hv hc) hfv hi hz hasg hσ htest helt (fun D' C s' k1 hC hCX hN hR => ?_) hs
  obtain ⟨m, hn'⟩ := hN
  show wpAny _ A (assign (.Name y py) env (.ref D')) _ _ _
  have q1 := q.up k1
  have hCL : C ≠ env.locals := by
    rintro rfl
    obtain ⟨m2, o, _, _, e, _⟩ := q.nst
    rw [hC] at e; cases e
  have hCc : ∀ n, env.cells.lookup n ≠ some C := fun n e => by
    obtain ⟨v, o, e2, _⟩ := q.cells n C e
    rw [hC] at e2; cases e2
  have hbC : hb.get? C = none := by
    cases e : hb.get? C with
    | none => rfl
    | some o => rw [← q.kp _ _ e, hC]
  refine wpAny_assign_Name (st_store_x (sl := .d (.lst ((items.filter p).map fe))) f q1 (.inl hy) hR (fun _ _ e => nomatch e) (fun _ _ _ _ e => nomatch e) fun s2 a ha hs2 q2 => ?_)
  have hCa : C ≠ a := by
    rcases ha with rfl | ⟨n, e⟩
    · exact hCL
    · rintro rfl; exact hCc n e
  have hN2 := hn'.sameBut hs2 hCa
  refine ⟨m, hN2, fun h3 hs3 => hn _ ?_⟩
  refine St.other (tk := s2.toks) q2 hs3 hCL hCc (fun x a' ds e => ?_) hbC (.inr (ns_notSeq hN2)) (fun hm => absurd hm hCX) (fun x I l i ns e => ?_)
  · rintro rfl
    obtain ⟨v, _, _, ha', _⟩ := q2.var x _ e
    exact hCX ha'
  · rintro rfl
    obtain ⟨v, _, _, ⟨o, ho, _, hd⟩, _⟩ := q2.var x _ e
    obtain ⟨o2, _, _, ho2, hd2, _⟩ := hN2
    rw [ho] at ho2; cases ho2
    rw [hd] at hd2; cases hd2
end
end Mine
end
section
open PySem PySem.W PyProof.Rows
namespace Mine

section
variable {prog : Program} {w : World} {A : Around} {env : Env} {h hb : Heap} {X : List Addr} {mg mb : Str → Option Value} {σ : Sg} {s s0 : Shared}

theorem upd_self_eq {σ : Sg} {x : Str} {sl : Sl} : upd σ x sl x = some sl := by unfold upd; rw [if_pos rfl]
theorem upd_ne {σ : Sg} {x y : Str} {sl : Sl} (h : y ≠ x) : upd σ x sl y = σ y := by unfold upd; rw [if_neg h]

theorem St.own_set (q : St s0 hb env X σ s) {x : Str} {a : Addr} {ds ds' : List D} {h' : Heap} {tk : Nat} {vs' : List Value} {n' : Nat} (hx : σ x = some (.own a ds)) (hs : Heap.SameBut a s.heap h') (hg : h'.get? a = some (LO vs' n'))
    (hr : Rds X s.heap vs' ds') : St s0 hb env X (upd σ x (.own a ds')) { s with heap := h', toks := tk } := by
  obtain ⟨v, at1, rfl, haX, vs, n, hgo, hro⟩ := q.var x _ hx
  have hloc : a ≠ env.locals := by obtain ⟨m, hm⟩ := q.nst; exact ns_list_ne hm hgo
  have hcel : ∀ n, env.cells.lookup n ≠ some a := fun k e => by obtain ⟨v, hv⟩ := q.cells k a e; exact cell_list_ne hv hgo rfl
  have hba := q.ob x a ds hx
  have q1 : St s0 hb env X (fun y => if y = x then none else σ y) s := q.weak fun y sl e => by
    by_cases hy : y = x
    · rw [if_pos hy] at e; cases e
    · rw [if_neg hy] at e; exact e
  have q2 := q1.other (tk := tk) hs hloc hcel (fun y a' ds'' e => by
    by_cases hy : y = x
    · rw [if_pos hy] at e; cases e
    · rw [if_neg hy] at e; exact (q.od x y a ds a' ds'' hx e fun ee => hy ee.symm).symm) hba (.inl haX) (fun _ => ⟨_, hg⟩) (fun y I l i ns e => by
    by_cases hy : y = x
    · rw [if_pos hy] at e; cases e
    · rw [if_neg hy] at e
      rintro rfl
      obtain ⟨v, _, _, ⟨o, ho, _, hd⟩, _⟩ := q.var y _ e
      rw [hgo] at ho; cases ho; cases hd)
  have updI : ∀ {y : Str} {I l : Addr} {i : Nat} {ns : List Int}, upd σ x (.own a ds') y = some (.iter I l i ns) → y ≠ x ∧ σ y = some (.iter I l i ns) := by
    intro y I l i ns e
    by_cases hy : y = x
    · subst hy; rw [upd_self_eq] at e; cases e
    · rw [upd_ne hy] at e; exact ⟨hy, e⟩
  refine ⟨q2.kp, q2.nst, q2.cells, fun y sl e => ?_, q2.xok, fun y z b es b' es' e1 e2 hne => ?_, fun y b es e => ?_, q2.rest, fun y I l i ns e => q.ib y I l i ns (updI e).2, fun y z I l i ns I' l' i' ns' e1 e2 => q.oi y z _ _ _ _ _ _ _ _ (updI e1).2 (updI e2).2⟩
  · by_cases hy : y = x
    · subst hy
      rw [upd_self_eq] at e; cases e
      refine ⟨.ref a, ?_, rfl, haX, vs', n', hg, hr.same hs (.inl haX)⟩
      rcases at1 with ⟨k, m, hn, hm⟩ | ⟨k, c, hc, hv⟩
      · exact .inl ⟨k, m, hn.sameBut hs hloc.symm, hm⟩
      · exact .inr ⟨k, c, hc, hv.sameBut hs fun ec => hcel y (ec ▸ hc)⟩
    · rw [upd_ne hy] at e
      exact q2.var y sl (by rw [if_neg hy]; exact e)
  · by_cases hy : y = x <;> by_cases hz : z = x
    · exact absurd (hy.trans hz.symm) hne
    · subst hy; rw [upd_self_eq] at e1; cases e1; rw [upd_ne hz] at e2
      exact q.od y z a ds b' es' hx e2 hne
    · subst hz; rw [upd_self_eq] at e2; cases e2; rw [upd_ne hy] at e1
      exact q.od y z b es a ds e1 hx hne
    · rw [upd_ne hy] at e1; rw [upd_ne hz] at e2
      exact q.od _ _ _ _ _ _ e1 e2 hne
  · by_cases hy : y = x
    · subst hy; rw [upd_self_eq] at e; cases e; exact hba
    · rw [upd_ne hy] at e; exact q.ob _ _ _ e

/-- the list stands no longer for itself: its items may be read as data -/
theorem St.disown (q : St s0 hb env X σ s) {x : Str} {a : Addr} {ds : List D} {X' : List Addr} (hx : σ x = some (.own a ds)) (hX' : ∀ b, b ∈ X' → b ∈ X) (ha : a ∉ X') (hoth : ∀ y b es, y ≠ x → σ y = some (.own b es) → b ∈ X') :
    St s0 hb env X' (upd σ x (.d (.lst ds))) s := by
  have less : ∀ b, b ∉ X → b ∉ X' := fun b hb hm => hb (hX' b hm)
  have updI : ∀ {y : Str} {I l : Addr} {i : Nat} {ns : List Int}, upd σ x (.d (.lst ds)) y = some (.iter I l i ns) → y ≠ x ∧ σ y = some (.iter I l i ns) := by
    intro y I l i ns e
    by_cases hy : y = x
    · subst hy; rw [upd_self_eq] at e; cases e
    · rw [upd_ne hy] at e; exact ⟨hy, e⟩
  refine ⟨q.kp, q.nst, q.cells, fun y sl e => ?_, fun b hb => q.xok b (hX' b hb), fun y z b es b' es' e1 e2 hne => ?_, fun y b es e => ?_, q.rest, fun y I l i ns e => q.ib y I l i ns (updI e).2, fun y z I l i ns I' l' i' ns' e1 e2 => q.oi y z _ _ _ _ _ _ _ _ (updI e1).2 (updI e2).2⟩
  · by_cases hy : y = x
    · subst hy
      rw [upd_self_eq] at e; cases e
      obtain ⟨v, at1, rfl, haX, vs, n, hgo, hro⟩ := q.var y _ hx
      exact ⟨_, at1, a, vs, n, rfl, ha, hgo, hro.less less⟩
    · rw [upd_ne hy] at e
      obtain ⟨v, at1, r⟩ := q.var y sl e
      refine ⟨v, at1, ?_⟩
      cases sl with
      | d d => exact Rd.less r less
      | own b es => obtain ⟨e', hb', vs, n, hg, hr⟩ := r; exact ⟨e', hoth y b es hy e, vs, n, hg, hr.less less⟩
      | val v0 => exact r
      | iter I l i ns => obtain ⟨e', hi, hl, vs, n, hg, hr⟩ := r; exact ⟨e', hi, less l hl, vs, n, hg, hr.less less⟩
  · by_cases hy : y = x
    · subst hy; rw [upd_self_eq] at e1; cases e1
    · by_cases hz : z = x
      · subst hz; rw [upd_self_eq] at e2; cases e2
      · rw [upd_ne hy] at e1; rw [upd_ne hz] at e2
        exact q.od _ _ _ _ _ _ e1 e2 hne
  · by_cases hy : y = x
    · subst hy; rw [upd_self_eq] at e; cases e
    · rw [upd_ne hy] at e; exact q.ob _ _ _ e

/-- x = [] -/
theorem st_own {x : Str} {px lp pos : Pos} {rest : List Stmt} {Q : Flow → Shared → Prop} {E : Value → Shared → Prop} (f : Fm hb env) (q : St s0 hb env X σ s) (hx : Sto hb env x)
    (hn : ∀ a s', a ∉ X → (∀ o, hb.get? a ≠ some o) → St s0 hb env (a :: X) (upd σ x (.own a [])) s' → wpAny (model prog w) A (execs rest env) Q E s') :
    wpAny (model prog w) A (execs (.Assign [.Name x px] (.List [] lp) pos :: rest) env) Q E s := by
  refine wpAny_execs_cons (PySem.wpAny_Assign_Name ?_ rfl)
  show wpAny _ A (do standAt lp; newList (← spliced (backTo lp (starEach [] env)))) _ _ s
  refine wpAny_bind (wpAny_standAt (wpAny_bind (spliced_none (wpAny_newList ?_))))
  have hnone : s.heap.get? s.heap.objs.size = none := by
    cases e : s.heap.get? s.heap.objs.size with
    | none => rfl
    | some o => exact absurd (Heap.lt_size e) (Nat.lt_irrefl _)
  have hbn : hb.get? s.heap.objs.size = none := by
    cases e : hb.get? s.heap.objs.size with
    | none => rfl
    | some o => rw [← q.kp _ _ e, hnone]
  have hg : (s.heap.push { cls := .type "list", data := .seq ([] : List Value).toArray }).get? s.heap.objs.size = some (LO [] 0) := Heap.get?_push_size _ rfl
  have hoff := q.xok.off
  have q1 : St s0 hb env (s.heap.objs.size :: X) σ { s with heap := s.heap.push { cls := .type "list", data := .seq ([] : List Value).toArray } } := by
    refine ⟨fun b o e => Heap.get?_push_of_some _ (q.kp b o e), let ⟨m, n⟩ := q.nst; ⟨m, n.keeps kp_push⟩, fun n c e => let ⟨v, hv⟩ := q.cells n c e; ⟨v, hv.keeps kp_push⟩, fun y sl e => ?_, fun b hb' => ?_, q.od, q.ob, q.rest, q.ib, q.oi⟩
    · obtain ⟨v, at1, r⟩ := q.var y sl e
      refine ⟨v, at1.up kp_push, ?_⟩
      cases sl with
      | d d => exact Rd.up (Rd.more hnone d r) kp_push
      | own b es => obtain ⟨e', hb', vs, n, hg', hr⟩ := r; exact ⟨e', List.mem_cons_of_mem _ hb', vs, n, kp_push _ _ hg', Rds.up (Rds.more hnone es hr) kp_push⟩
      | val v0 => exact r
      | iter I l i ns =>
        obtain ⟨e', hi, hl, vs, n, hg', hr⟩ := r
        refine ⟨e', hi.at fun o eo => kp_push _ o eo, fun hm => ?_, vs, n, kp_push _ _ hg', Rds.up (Rds.more hnone _ hr) kp_push⟩
        rcases List.mem_cons.mp hm with rfl | hm
        · rw [hnone] at hg'; cases hg'
        · exact hl hm
    · rcases List.mem_cons.mp hb' with rfl | hb'
      · exact ⟨_, hg⟩
      · obtain ⟨o, ho⟩ := q.xok b hb'; exact ⟨o, kp_push _ _ ho⟩
  refine st_store (sl := .own s.heap.objs.size []) f q1 hx ⟨rfl, List.mem_cons_self, [], 0, hg, trivial⟩ (fun a ds e => ?_) (fun _ _ _ _ e => nomatch e) fun s' q' => hn _ s' hoff (fun o e => by rw [hbn] at e; cases e) q'
  cases e
  refine ⟨hbn, fun y a' ds' hy e' ee => ?_⟩
  obtain ⟨v, _, rfl, ha', _⟩ := q.var y _ e'
  exact hoff (ee ▸ ha')

theorem intr_false (eo : EnvOk env) : interactive env = false := by unfold interactive; rw [eo.kind]; rfl

theorem own_none {x : Str} {a : Addr} {ds : List D} (q : St s0 hb env X σ s) (hx : σ x = some (.own a ds)) : ∃ vs n, At env s.heap x (.ref a) ∧ a ∈ X ∧ s.heap.get? a = some (LO vs n) ∧ Rds X s.heap vs ds := by
  obtain ⟨v, at1, rfl, haX, vs, n, hgo, hro⟩ := q.var x _ hx
  exact ⟨vs, n, at1, haX, hgo, hro⟩

theorem wp_append {x : Str} {px apos cpos : Pos} {e : Expr} {a : Addr} {ds : List D} {d : D} {Y : List Addr} {Q : Value → Shared → Prop} {E : Value → Shared → Prop} (f : Fm hb env) (q : St s0 hb env X σ s) (hx : σ x = some (.own a ds))
    (hY : XOk Y s.heap) (he : Gv prog w A s.heap Y (eval e env) d) (hYX : Y = X ∨ Flat d) (hz : ds.length ≤ sizeLine) (hQ : ∀ s', St s0 hb env X (upd σ x (.own a (ds ++ [d]))) s' → Q .none s')
    (hbase : attributeBase (.Name x px) (Str.ofString "append") env (eval (.Name x px) env) = eval (.Name x px) env := by rfl) (hs : starEach [e] env = [(false, eval e env)] := by rfl) (hline : (apos.endLine == cpos.line) = true := by rfl)
    (hdb : (x == ("__debug__" : Str)) = false := by decide) :
    wpAny (model prog w) A (eval (.Call (.Attribute (.Name x px) (Str.ofString "append") apos) [e] [] cpos) env) Q E s := by
  obtain ⟨vs, n, at1, haX, hg, hr⟩ := own_none q hx
  refine Call_method1 hbase hs hline (wp_at f.eo at1 ⟨"list", "list.append", PySem.F.plainAttrs_list, PySem.F.slot_list_append, PySem.F.type_list_append, (lo_isList hg).typeIs, fun b e => by cases e; exact ⟨_, hg, rfl⟩, ?_⟩ hdb)
  refine PySem.P.append_list (he hY s _ _ Kp.refl fun v s1 k1 r1 => ⟨vs.toArray, n, by rw [List.size_toArray, hr.length]; exact hz, k1.kp _ _ hg, ?_⟩)
  have q1 := q.up k1
  have r1' : Rd X s1.heap v d := by
    rcases hYX with rfl | hf
    · exact r1
    · exact Rd.flat hf r1
  have hg1 := k1.kp _ _ hg
  refine hQ _ (q1.own_set (tk := s1.toks) (vs' := vs ++ [v]) (n' := if vs.toArray.size + 1 == vs.toArray.size then n else n + 1) hx (Heap.SameBut.update ..) ?_ (Rds.app (hr.up k1.kp) ⟨r1', trivial⟩))
  rw [Heap.get?_update_self _ hg1 (by unfold LO Obj.mapSeq; rfl)]
  unfold LO Obj.mapSeq
  simp

theorem wp_pop {x : Str} {px apos cpos : Pos} {a : Addr} {ds : List D} {d : D} {Q : Value → Shared → Prop} {E : Value → Shared → Prop} (f : Fm hb env) (q : St s0 hb env X σ s) (hx : σ x = some (.own a (ds ++ [d])))
    (hz : ds.length + 1 ≤ sizeLine) (hQ : ∀ v s', St s0 hb env X (upd σ x (.own a ds)) s' → Rd X s'.heap v d → Q v s')
    (hbase : attributeBase (.Name x px) (Str.ofString "pop") env (eval (.Name x px) env) = eval (.Name x px) env := by rfl) (hline : (apos.endLine == cpos.line) = true := by rfl)
    (hdb : (x == ("__debug__" : Str)) = false := by decide) :
    wpAny (model prog w) A (eval (.Call (.Attribute (.Name x px) (Str.ofString "pop") apos) [] [] cpos) env) Q E s := by
  obtain ⟨vs, n, at1, haX, hg, hr⟩ := own_none q hx
  have hl := hr.length
  rw [List.length_append, List.length_singleton] at hl
  obtain ⟨v, hv, rv⟩ := hr.get (i := ds.length) (d := d) (by simp)
  refine Call_method0 hbase hline (wp_at f.eo at1 ⟨"list", "list.pop", PySem.F.plainAttrs_list, PySem.F.slot_list_pop, PySem.F.type_list_pop, (lo_isList hg).typeIs, fun b e => by cases e; exact ⟨_, hg, rfl⟩, ?_⟩ hdb)
  have htk : vs.eraseIdx (vs.length - 1) = vs.take ds.length := by
    rw [show vs.length - 1 = ds.length by omega, List.eraseIdx_eq_take_drop_succ, List.drop_of_length_le (by omega), List.append_nil]
  refine PySem.P.pop_list (items := vs.toArray) (n := n) hg (y := v) (by rw [List.size_toArray, show vs.length - 1 = ds.length by omega]; simpa using hv) ?_ (by rw [List.size_toArray, hl]; exact hz)
  refine hQ v _ (q.own_set (tk := s.toks) (vs' := vs.take ds.length) (n' := if (vs.toArray.eraseIdxIfInBounds (vs.toArray.size - 1)).size == vs.toArray.size then n else n + 1) hx (Heap.SameBut.update ..) ?_ ?_) ?_
  · rw [Heap.get?_update_self _ hg (by unfold LO Obj.mapSeq; rfl)]
    unfold LO Obj.mapSeq
    simp only [Option.some.injEq, Obj.mk.injEq, Data.seq.injEq, true_and, and_true]
    rw [← htk]
    simp
  · have := hr.take ds.length
    simpa using this
  · exact Rd.same rv (Heap.SameBut.update ..) (.inl haX)

theorem st_append {x : Str} {px apos cpos pos : Pos} {e : Expr} {rest : List Stmt} {a : Addr} {ds : List D} {d : D} {Q : Flow → Shared → Prop} {E : Value → Shared → Prop} (f : Fm hb env) (q : St s0 hb env X σ s) (hx : σ x = some (.own a ds))
    (he : Gv prog w A s.heap X (eval e env) d) (hz : ds.length ≤ sizeLine) (hn : ∀ s', St s0 hb env X (upd σ x (.own a (ds ++ [d]))) s' → wpAny (model prog w) A (execs rest env) Q E s')
    (hbase : attributeBase (.Name x px) (Str.ofString "append") env (eval (.Name x px) env) = eval (.Name x px) env := by rfl) (hs : starEach [e] env = [(false, eval e env)] := by rfl) (hline : (apos.endLine == cpos.line) = true := by rfl)
    (hdb : (x == ("__debug__" : Str)) = false := by decide) :
    wpAny (model prog w) A (execs (.Expr (.Call (.Attribute (.Name x px) (Str.ofString "append") apos) [e] [] cpos) pos :: rest) env) Q E s :=
  wpAny_execs_cons (PySem.wpAny_Expr (wp_append f q hx q.xok he (.inl rfl) hz (fun s' q' => hn s' q') hbase hs hline hdb) (intr_false f.eo) rfl)
theorem st_append0 {x : Str} {px apos cpos pos : Pos} {e : Expr} {rest : List Stmt} {a : Addr} {ds : List D} {d : D} {Q : Flow → Shared → Prop} {E : Value → Shared → Prop} (f : Fm hb env) (q : St s0 hb env X σ s) (hx : σ x = some (.own a ds))
    (he : Gv prog w A s.heap [] (eval e env) d) (hf : Flat d) (hz : ds.length ≤ sizeLine) (hn : ∀ s', St s0 hb env X (upd σ x (.own a (ds ++ [d]))) s' → wpAny (model prog w) A (execs rest env) Q E s')
    (hbase : attributeBase (.Name x px) (Str.ofString "append") env (eval (.Name x px) env) = eval (.Name x px) env := by rfl) (hs : starEach [e] env = [(false, eval e env)] := by rfl) (hline : (apos.endLine == cpos.line) = true := by rfl)
    (hdb : (x == ("__debug__" : Str)) = false := by decide) :
    wpAny (model prog w) A (execs (.Expr (.Call (.Attribute (.Name x px) (Str.ofString "append") apos) [e] [] cpos) pos :: rest) env) Q E s :=
  wpAny_execs_cons (PySem.wpAny_Expr (wp_append f q hx XOk.nil he (.inr hf) hz (fun s' q' => hn s' q') hbase hs hline hdb) (intr_false f.eo) rfl)
theorem st_pop {x y : Str} {px apos cpos py pos : Pos} {rest : List Stmt} {a : Addr} {ds : List D} {d : D} {Q : Flow → Shared → Prop} {E : Value → Shared → Prop} (f : Fm hb env) (q : St s0 hb env X σ s) (hx : σ x = some (.own a (ds ++ [d])))
    (hz : ds.length + 1 ≤ sizeLine) (hy : Sto hb env y) (hn : ∀ s', St s0 hb env X (upd (upd σ x (.own a ds)) y (.d d)) s' → wpAny (model prog w) A (execs rest env) Q E s')
    (hbase : attributeBase (.Name x px) (Str.ofString "pop") env (eval (.Name x px) env) = eval (.Name x px) env := by rfl) (hline : (apos.endLine == cpos.line) = true := by rfl)
    (hdb : (x == ("__debug__" : Str)) = false := by decide) :
    wpAny (model prog w) A (execs (.Assign [.Name y py] (.Call (.Attribute (.Name x px) (Str.ofString "pop") apos) [] [] cpos) pos :: rest) env) Q E s :=
  wpAny_execs_cons (PySem.wpAny_Assign_Name (wp_pop f q hx hz (fun v s1 q1 r1 => st_store_d f q1 hy r1 fun s2 q2 => hn s2 q2) hbase hline hdb) rfl)
theorem st_pop_drop {x : Str} {px apos cpos pos : Pos} {rest : List Stmt} {a : Addr} {ds : List D} {d : D} {Q : Flow → Shared → Prop} {E : Value → Shared → Prop} (f : Fm hb env) (q : St s0 hb env X σ s) (hx : σ x = some (.own a (ds ++ [d]))) (hf : Flat d)
    (hz : ds.length + 1 ≤ sizeLine) (hn : ∀ s', St s0 hb env X (upd σ x (.own a ds)) s' → wpAny (model prog w) A (execs rest env) Q E s')
    (hbase : attributeBase (.Name x px) (Str.ofString "pop") env (eval (.Name x px) env) = eval (.Name x px) env := by rfl) (hline : (apos.endLine == cpos.line) = true := by rfl)
    (hdb : (x == ("__debug__" : Str)) = false := by decide) :
    wpAny (model prog w) A (execs (.Expr (.Call (.Attribute (.Name x px) (Str.ofString "pop") apos) [] [] cpos) pos :: rest) env) Q E s :=
  wpAny_execs_cons (PySem.wpAny_Expr (wp_pop f q hx hz (fun v s1 q1 r1 => by
    cases d with
    | none => rw [show v = .none from r1]; exact hn _ q1
    | bool b => rw [show v = .bool b from r1]; exact hn _ q1
    | int i => obtain ⟨t, rfl⟩ := r1; exact hn _ q1
    | str x => obtain ⟨t, rfl⟩ := r1; exact hn _ q1
    | tup l => exact hf.elim
    | lst l => exact hf.elim) hbase hline hdb) (intr_false f.eo) rfl)

theorem asg_two {x y : Str} {p1 p2 tp : Pos} {k : Nat} {v : Value} {d1 d2 : D} {E' : Value → Shared → Prop} (hA : A.handled = none) (f : Fm hb env) (hx : Sto hb env x) (hy : Sto hb env y) (q : St s0 hb env X σ s) (r : Rd X s.heap v (.tup [d1, d2])) :
    wpAny (model prog w) A (assign (.Tuple [.Name x p1, .Name y p2] k tp) env v) (fun _ s' => St s0 hb env X (upd (upd σ x (.d d1)) y (.d d2)) s') E' s := by
  obtain ⟨a, vs, n, rfl, hn, hg, hr⟩ := r
  obtain ⟨v1, v2, rfl, r1, r2⟩ := Rds.two hr
  refine PySem.wpAny_assign_Tuple hA (items := #[v1, v2]) ⟨_, hg, rfl, n, rfl⟩ rfl rfl fun h' he => ?_
  have k1 : Kps s { s with heap := h' } := keeps_heap' fun b o e => he b o (Nat.ne_of_lt (Heap.lt_size e)) e
  have q1 := q.up k1
  show wpAny _ A (assignInOrder [assign (.Name x p1) env, assign (.Name y p2) env] [v1, v2]) _ _ _
  unfold assignInOrder
  refine wpAny_bind (wpAny_holding (wpAny_assign_Name (st_store_x (sl := .d d1) f q1 hx (Rd.up r1 k1.kp) (fun _ _ e => nomatch e) (fun _ _ _ _ e => nomatch e) fun s2 c hc hs2 q2 => ?_)))
  unfold assignInOrder
  refine wpAny_bind (wpAny_holding (wpAny_assign_Name (st_store_d f q2 hy (Rd.same (Rd.up r2 k1.kp) hs2 (.inr ?_)) fun s3 q3 => ?_)))
  · rcases hc with rfl | ⟨n, e⟩
    · obtain ⟨m, hm⟩ := q1.nst; exact ns_notSeq hm
    · obtain ⟨v, hv⟩ := q1.cells n c e; exact cell_notSeq hv
  · unfold assignInOrder
    exact wpAny_pure q3
theorem asg_pair {x y : Str} {p1 p2 tp : Pos} {k : Nat} {v : Value} {d1 d2 : D} {I : Addr} {E' : Value → Shared → Prop} (hA : A.handled = none) (f : Fm hb env) (hx : Sto hb env x) (hy : Sto hb env y) (q : St s0 hb env X σ s) (r : Rd X s.heap v (.tup [d1, d2])) (hI : IterOk I s.heap) :
    wpAny (model prog w) A (letOwnedTupleGo (.Tuple [.Name x p1, .Name y p2] k tp) (.ref I) v) (fun _ s1 => wpAny (model prog w) A (assign (.Tuple [.Name x p1, .Name y p2] k tp) env v) (fun _ s' => St s0 hb env X (upd (upd σ x (.d d1)) y (.d d2)) s') E' s1) E' s := by
  have r' := r
  obtain ⟨a, vs, n, rfl, _⟩ := r'
  obtain ⟨o, T, fs, ho, hc, hd, hT⟩ := hI
  unfold letOwnedTupleGo
  refine wpAny_bind (wpAny_load ho ?_)
  rw [hc, hd]
  simp only [hT, Bool.false_and, Bool.false_eq_true, if_false]
  exact wpAny_pure (asg_two hA f hx hy q r)
theorem st_two {x y : Str} {p1 p2 tp pos : Pos} {k : Nat} {e : Expr} {rest : List Stmt} {d1 d2 : D} {Q : Flow → Shared → Prop} {E : Value → Shared → Prop} (hA : A.handled = none) (f : Fm hb env) (q : St s0 hb env X σ s) (hx : Sto hb env x) (hy : Sto hb env y)
    (he : Gv prog w A s.heap X (eval e env) (.tup [d1, d2])) (hn : ∀ s', St s0 hb env X (upd (upd σ x (.d d1)) y (.d d2)) s' → wpAny (model prog w) A (execs rest env) Q E s')
    (hs : swapsWithSole [.Tuple [.Name x p1, .Name y p2] k tp] e pos.line env = pure false := by rfl)
    (hw : swappedStores [.Tuple [.Name x p1, .Name y p2] k tp] e env = pure none := by rfl) :
    wpAny (model prog w) A (execs (.Assign [.Tuple [.Name x p1, .Name y p2] k tp] e pos :: rest) env) Q E s :=
  wpAny_execs_cons (PyProof.Rows.Assign_Tuple (he q.xok s _ _ Kp.refl fun v s1 k1 r1 => wpAny_mono (asg_two hA f hx hy (q.up k1) r1) (fun _ s2 q2 => hn s2 q2) fun _ _ e => e) hs hw)
theorem st_pop_two {x y z : Str} {px apos cpos py pz tp pos : Pos} {k : Nat} {rest : List Stmt} {a : Addr} {ds : List D} {d1 d2 : D} {Q : Flow → Shared → Prop} {E : Value → Shared → Prop} (hA : A.handled = none) (f : Fm hb env) (q : St s0 hb env X σ s)
    (hx : σ x = some (.own a (ds ++ [.tup [d1, d2]]))) (hz : ds.length + 1 ≤ sizeLine) (hy : Sto hb env y) (hzz : Sto hb env z)
    (hn : ∀ s', St s0 hb env X (upd (upd (upd σ x (.own a ds)) y (.d d1)) z (.d d2)) s' → wpAny (model prog w) A (execs rest env) Q E s')
    (hbase : attributeBase (.Name x px) (Str.ofString "pop") env (eval (.Name x px) env) = eval (.Name x px) env := by rfl) (hline : (apos.endLine == cpos.line) = true := by rfl)
    (hdb : (x == ("__debug__" : Str)) = false := by decide) :
    wpAny (model prog w) A (execs (.Assign [.Tuple [.Name y py, .Name z pz] k tp] (.Call (.Attribute (.Name x px) (Str.ofString "pop") apos) [] [] cpos) pos :: rest) env) Q E s :=
  wpAny_execs_cons (PyProof.Rows.Assign_Tuple (wp_pop f q hx hz (fun v s1 q1 r1 => wpAny_mono (asg_two hA f hy hzz q1 r1) (fun _ s2 q2 => hn s2 q2) fun _ _ e => e) hbase hline hdb) rfl rfl)
end
end Mine
end
section
open PySem PySem.W PyProof.Rows
namespace Mine

section
variable {prog : Program} {w : World} {A : Around} {env : Env} {h hb : Heap} {X : List Addr} {mg mb : Str → Option Value} {σ : Sg} {s s0 : Shared}

/-- a def of the text, as the heap bears it -/
structure FnAt (h : Heap) (mg : Str → Option Value) (name : Str) (params : Arguments) (body : List Stmt) (scope : Scope) (fa : Addr) : Prop where
  glob : mg name = some (.ref fa)
  obj : ∃ o pm cd doc, h.get? fa = some o ∧ o.data = .func (Calls.docDef name params body scope pm cd doc) ∧ h.CodeRec cd name
theorem FnAt.up {name : Str} {params : Arguments} {body : List Stmt} {scope : Scope} {fa : Addr} {h' : Heap} (x : FnAt h mg name params body scope fa) (k : Kp h h') : FnAt h' mg name params body scope fa :=
  ⟨x.glob, let ⟨o, pm, cd, doc, h1, h2, h3⟩ := x.obj; ⟨o, pm, cd, doc, k _ _ h1, h2, h3.keeps k⟩⟩

/-- what a called def's frame is -/
structure Fr1 (s0 : Shared) (env : Env) (scope : Scope) : Prop where
  fm : Fm s0.heap env
  kind : ∀ x k, scope.names.lookup x = some k → env.kindOf x = some k
  sto : ∀ x, scope.names.lookup x = some .local ∨ scope.names.lookup x = some .cell → Sto s0.heap env x

/-- the names of the parameters, with their data -/
noncomputable def args1 (x : Str) (d : D) : Sg := fun y => if y = x then some (.d d) else none
noncomputable def args2 (x1 : Str) (d1 : D) (x2 : Str) (d2 : D) : Sg := fun y => if y = x2 then some (.d d2) else if y = x1 then some (.d d1) else none

theorem enter_raw {name : Str} {params : Arguments} {body : List Stmt} {scope : Scope} {fa : Addr} {vals : List Value} {binds : List (Str × Value)} {σ : Sg} {Q : Value → Shared → Prop} {E : Value → Shared → Prop} (hd : A.depth < recursionLimit) (hX : XOk X s.heap) (g' : Gl mg mb s.heap) (F : FnAt s.heap mg name params body scope fa)
    (hbind : ∀ pm cd doc, bindArgs (Calls.docDef name params body scope pm cd doc) ⟨vals, []⟩ = pure binds)
    (hkind : ∀ x ∈ binds, scope.names.lookup x.1 = some .local ∨ scope.names.lookup x.1 = some .cell)
    (hσ : ∀ x sl, σ x = some sl → (∀ a ds, sl ≠ .own a ds) ∧ (∀ I l i ns, sl ≠ .iter I l i ns) ∧ ((scope.names.lookup x = some .local ∧ ∃ v, RS X s.heap v sl ∧ ∀ kf : Str → Option NameKind, (∀ y ∈ binds, kf y.1 = scope.names.lookup y.1) → bindL kf binds (fun _ => none) x = some v) ∨
      (scope.names.lookup x = some .cell ∧ ∃ v, RS X s.heap v sl ∧ ∀ kf : Str → Option NameKind, (∀ y ∈ binds, kf y.1 = scope.names.lookup y.1) → bindC kf binds (fun _ => none) x = some v)))
    (hbody : ∀ (env : Env) (s1 : Shared) (E' : Value → Shared → Prop), Fr1 s env scope → St s s.heap env X σ s1 →
      wpAny (model prog w) (A.deeper env) (execs body env) (fun fl s' => ∃ v, fl = .ret v ∧ Q v s') E' s1)
    (hco : scope.isCoroutine = false := by rfl) (hgen : scope.isGenerator = false := by rfl) (hk : scope.kind = .function := by rfl) :
    wpAny (model prog w) A (call (.ref fa) vals) Q E s := by
  obtain ⟨o, pm, cd, doc, ho, hdata, hcode⟩ := F.obj
  refine wpAny_call (codeAny_call_cells hd ho hdata g'.nolimit hcode rfl (hbind pm cd doc) rfl (fun x hx => ?_) (fun s₁ IC => ?_) hco hgen hk)
  · rcases hkind x hx with h1 | h1
    · exact .inl h1
    · obtain ⟨c, hc⟩ := own_look scope.names (s.heap.objs.size + 1) (mem_of_lookup h1)
      exact .inr ⟨h1, by show ((cellsFrom (s.heap.objs.size + 1) scope.names []).lookup x.1).isSome = true; rw [hc]; rfl⟩
  · generalize hce : callEnvC (Calls.docDef name params body scope pm cd doc) s.heap.objs.size fa = cenv at IC ⊢
    have ce_scope : cenv.scope = scope := by rw [← hce]; rfl
    have ce_loc : cenv.locals = s.heap.objs.size := by rw [← hce]; rfl
    have ce_cells : cenv.cells = cellsFrom (s.heap.objs.size + 1) scope.names [] := by rw [← hce]; rfl
    have kf : ∀ x k, scope.names.lookup x = some k → cenv.kindOf x = some k := fun x k e => by unfold Env.kindOf; rw [ce_scope]; exact e
    have sz : s.heap.get? s.heap.objs.size = none := by
      cases e : s.heap.get? s.heap.objs.size with
      | none => rfl
      | some o => exact absurd (Heap.lt_size e) (Nat.lt_irrefl _)
    have fresh : ∀ a, s.heap.objs.size ≤ a → s.heap.get? a = none := fun a ha => by
      cases e : s.heap.get? a with
      | none => rfl
      | some o => exact absurd (Heap.lt_size e) (Nat.not_lt.mpr ha)
    have eo : EnvOk cenv := ⟨by rw [ce_scope]; exact hk, by rw [← hce]; rfl, by rw [← hce]; rfl, fun n n' c h1 h2 => name_of_addr IC.apart (mem_of_lookup h1) (mem_of_lookup h2)⟩
    have fm : Fm s.heap cenv := ⟨eo, by rw [ce_loc]; exact sz⟩
    have fr : Fr1 s cenv scope := ⟨fm, kf, fun x hx => by
      rcases hx with h1 | h1
      · exact .inl (kf x _ h1)
      · obtain ⟨c, hc⟩ := own_look scope.names (s.heap.objs.size + 1) (mem_of_lookup h1)
        have hc' : cenv.cells.lookup x = some c := by rw [ce_cells]; exact hc
        refine .inr ⟨kf x _ h1, c, hc', fresh c ?_⟩
        have := IC.above x c (mem_of_lookup hc')
        rw [ce_loc] at this
        exact Nat.le_of_lt this⟩
    obtain ⟨h₁, tk, e1⟩ := IC.toInCall.same
    have kp1 : Kp s.heap s₁.heap := IC.toInCall.keep
    have st : St s s.heap cenv X σ s₁ := by
      refine ⟨kp1, ⟨_, IC.toInCall.ns⟩, fun n c e => ⟨_, IC.cell n c e⟩, fun x sl e => ?_, hX.up kp1, fun x y a ds a' ds' e1 => absurd rfl ((hσ x _ e1).1 a ds), fun x a ds e1 => absurd rfl ((hσ x _ e1).1 a ds), by rw [e1]; exact ⟨rfl, rfl, rfl⟩,
        fun x I l i ns e1 => absurd rfl ((hσ x _ e1).2.1 I l i ns), fun x y I l i ns I' l' i' ns' e1 => absurd rfl ((hσ x _ e1).2.1 I l i ns)⟩
      have h1 := (hσ x sl e).2.2
      have hkf : ∀ y ∈ binds, cenv.kindOf y.1 = scope.names.lookup y.1 := fun y hy => by unfold Env.kindOf; rw [ce_scope]
      rcases h1 with ⟨hl, v, r, hb⟩ | ⟨hl, v, r, hb⟩
      · exact ⟨v, .inl ⟨kf x _ hl, _, IC.toInCall.ns, hb _ hkf⟩, r.up kp1⟩
      · obtain ⟨c, hc⟩ := own_look scope.names (s.heap.objs.size + 1) (mem_of_lookup hl)
        have hc' : cenv.cells.lookup x = some c := by rw [ce_cells]; exact hc
        refine ⟨v, .inr ⟨.inl (kf x _ hl), c, hc', ?_⟩, r.up kp1⟩
        have := IC.cell x c hc'
        rw [hb _ hkf] at this
        exact this
    refine wpAny_mono (hbody cenv s₁ (fun e s' => wpAny (model prog w) (A.deeper cenv) (leaving cenv e) (fun _ s'' => match (Except.error e : Result) with | .ok (.ret v) => Q v s'' | .ok _ => False | .error e => E e s'') (fun e' s'' => match (Except.error e' : Result) with | .ok (.ret v) => Q v s'' | .ok _ => False | .error e => E e s'') s') fr st) (fun fl s' hq => ?_) fun _ _ e => e
    obtain ⟨v, rfl, r⟩ := hq
    exact r
theorem enter {name : Str} {params : Arguments} {body : List Stmt} {scope : Scope} {fa : Addr} {vals : List Value} {binds : List (Str × Value)} {d : D} {σ : Sg} (hd : A.depth < recursionLimit) (g : Gl mg mb h) (F : FnAt h mg name params body scope fa)
    (hbind : ∀ pm cd doc, bindArgs (Calls.docDef name params body scope pm cd doc) ⟨vals, []⟩ = pure binds)
    (hkind : ∀ x ∈ binds, scope.names.lookup x.1 = some .local ∨ scope.names.lookup x.1 = some .cell)
    (hσ : ∀ x sl, σ x = some sl → ∃ d', sl = .d d' ∧ ((scope.names.lookup x = some .local ∧ ∃ v, Rd X h v d' ∧ ∀ kf : Str → Option NameKind, (∀ y ∈ binds, kf y.1 = scope.names.lookup y.1) → bindL kf binds (fun _ => none) x = some v) ∨
      (scope.names.lookup x = some .cell ∧ ∃ v, Rd X h v d' ∧ ∀ kf : Str → Option NameKind, (∀ y ∈ binds, kf y.1 = scope.names.lookup y.1) → bindC kf binds (fun _ => none) x = some v)))
    (hbody : ∀ (env : Env) (s0 s1 : Shared) (E' : Value → Shared → Prop), Kp h s0.heap → Fr1 s0 env scope → St s0 s0.heap env X σ s1 →
      wpAny (model prog w) (A.deeper env) (execs body env) (fun fl s' => ∃ v, fl = .ret v ∧ Rd X s'.heap v d ∧ Kps s0 s') E' s1)
    (hco : scope.isCoroutine = false := by rfl) (hgen : scope.isGenerator = false := by rfl) (hk : scope.kind = .function := by rfl) :
    Gv prog w A h X (call (.ref fa) vals) d := by
  intro hX s Q E hks hQ
  refine enter_raw (σ := σ) hd (hX.up hks) (g.up hks) (F.up hks) hbind hkind (fun x sl e => ?_) (fun env s1 E' fr st => wpAny_mono (hbody env s s1 E' hks fr st) (fun fl s' ⟨v, e, r, k⟩ => ⟨v, e, hQ v s' k r⟩) fun _ _ e => e) hco hgen hk
  obtain ⟨d', rfl, h1⟩ := hσ x sl e
  refine ⟨(fun _ _ e => nomatch e), (fun _ _ _ _ e => nomatch e), ?_⟩
  rcases h1 with ⟨hl, v, r, hb⟩ | ⟨hl, v, r, hb⟩
  · exact .inl ⟨hl, v, r.up hks, hb⟩
  · exact .inr ⟨hl, v, r.up hks, hb⟩

theorem enter1 {name x : Str} {ap : Arguments} {body : List Stmt} {scope : Scope} {fa : Addr} {vs : List Value} {d1 d : D} (hd : A.depth < recursionLimit) (g : Gl mg mb h) (F : FnAt h mg name ap body scope fa) (r : Rds X h vs [d1])
    (hbind : ∀ v pm cd doc, bindArgs (Calls.docDef name ap body scope pm cd doc) ⟨[v], []⟩ = pure [(x, v)])
    (hkind : scope.names.lookup x = some .local ∨ scope.names.lookup x = some .cell)
    (hbody : ∀ (env : Env) (s0 s1 : Shared) (E' : Value → Shared → Prop), Kp h s0.heap → Fr1 s0 env scope → St s0 s0.heap env X (args1 x d1) s1 →
      wpAny (model prog w) (A.deeper env) (execs body env) (fun fl s' => ∃ v, fl = .ret v ∧ Rd X s'.heap v d ∧ Kps s0 s') E' s1)
    (hco : scope.isCoroutine = false := by rfl) (hgen : scope.isGenerator = false := by rfl) (hk : scope.kind = .function := by rfl) : Gv prog w A h X (call (.ref fa) vs) d := by
  obtain ⟨v, rfl, rv⟩ := r.one
  refine enter (binds := [(x, v)]) hd g F (hbind v) (fun y hy => ?_) (fun y sl e => ?_) hbody hco hgen hk
  · simp at hy; subst hy; exact hkind
  · unfold args1 at e
    by_cases hy : y = x
    · subst hy
      rw [if_pos rfl] at e; cases e
      refine ⟨d1, rfl, ?_⟩
      rcases hkind with h1 | h1
      · refine .inl ⟨h1, v, rv, fun kf hkf => ?_⟩
        have := hkf (y, v) List.mem_cons_self
        dsimp only at this
        rw [h1] at this
        simp [bindL, this]
      · refine .inr ⟨h1, v, rv, fun kf hkf => ?_⟩
        have := hkf (y, v) List.mem_cons_self
        dsimp only at this
        rw [h1] at this
        simp [bindC, this]
    · rw [if_neg hy] at e; cases e

theorem enter2 {name x1 x2 : Str} {ap : Arguments} {body : List Stmt} {scope : Scope} {fa : Addr} {vs : List Value} {d1 d2 d : D} (hd : A.depth < recursionLimit) (g : Gl mg mb h) (F : FnAt h mg name ap body scope fa) (r : Rds X h vs [d1, d2])
    (hbind : ∀ v u pm cd doc, bindArgs (Calls.docDef name ap body scope pm cd doc) ⟨[v, u], []⟩ = pure [(x1, v), (x2, u)])
    (hne : x1 ≠ x2)
    (hkind1 : scope.names.lookup x1 = some .local ∨ scope.names.lookup x1 = some .cell) (hkind2 : scope.names.lookup x2 = some .local ∨ scope.names.lookup x2 = some .cell)
    (hbody : ∀ (env : Env) (s0 s1 : Shared) (E' : Value → Shared → Prop), Kp h s0.heap → Fr1 s0 env scope → St s0 s0.heap env X (args2 x1 d1 x2 d2) s1 →
      wpAny (model prog w) (A.deeper env) (execs body env) (fun fl s' => ∃ v, fl = .ret v ∧ Rd X s'.heap v d ∧ Kps s0 s') E' s1)
    (hco : scope.isCoroutine = false := by rfl) (hgen : scope.isGenerator = false := by rfl) (hk : scope.kind = .function := by rfl) : Gv prog w A h X (call (.ref fa) vs) d := by
  obtain ⟨v, u, rfl, rv, ru⟩ := r.two
  refine enter (binds := [(x1, v), (x2, u)]) hd g F (hbind v u) (fun y hy => ?_) (fun y sl e => ?_) hbody hco hgen hk
  · simp at hy
    rcases hy with rfl | rfl
    · exact hkind1
    · exact hkind2
  · unfold args2 at e
    by_cases hy : y = x2
    · subst hy
      rw [if_pos rfl] at e; cases e
      refine ⟨d2, rfl, ?_⟩
      rcases hkind2 with h1 | h1
      · refine .inl ⟨h1, u, ru, fun kf hkf => ?_⟩
        have := hkf (y, u) (by simp)
        dsimp only at this
        rw [h1] at this
        simp [bindL, this]
      · refine .inr ⟨h1, u, ru, fun kf hkf => ?_⟩
        have := hkf (y, u) (by simp)
        dsimp only at this
        rw [h1] at this
        simp [bindC, this]
    · rw [if_neg hy] at e
      by_cases hy1 : y = x1
      · subst hy1
        rw [if_pos rfl] at e; cases e
        refine ⟨d1, rfl, ?_⟩
        rcases hkind1 with h1 | h1
        · refine .inl ⟨h1, v, rv, fun kf hkf => ?_⟩
          have := hkf (y, v) (by simp)
          dsimp only at this
          rw [h1] at this
          by_cases h2 : kf x2 = some .local
          · simp [bindL, this, h2, hy]
          · simp [bindL, this, h2]
        · refine .inr ⟨h1, v, rv, fun kf hkf => ?_⟩
          have := hkf (y, v) (by simp)
          dsimp only at this
          rw [h1] at this
          by_cases h2 : kf x2 = some .local
          · simp [bindC, this, h2]
          · simp [bindC, this, h2, hy]
      · rw [if_neg hy1] at e; cases e
end
end Mine
end
section
open PySem PySem.W PyProof.Rows
namespace Mine

noncomputable def vloop : List Int → Int → Int → Option (Int × List Int)
  | [], b, val => if Builtin.bitAnd b 64 != 0 then none else some (val, [])
  | c :: r, b, val => if Builtin.bitAnd b 64 != 0 then (if val.natAbs < 2 ^ 64 then vloop r c (Builtin.bitOr (val * 2 ^ (6 : Int).toNat) (Builtin.bitAnd c 63)) else none) else some (val, c :: r)
noncomputable def vread : List Int → Option (Int × List Int)
  | [] => none
  | b :: r => vloop r b (Builtin.bitAnd b 63)

section
variable {prog : Program} {w : World} {A : Around} {env : Env} {h hb : Heap} {X : List Addr} {mg mb : Str → Option Value} {σ : Sg} {s s0 : Shared}

theorem wp_next {I l : Addr} {i : Nat} {items : Array Value} {x : Value} {Q : Value → Shared → Prop} {E : Value → Shared → Prop} (hit : s.heap.IsListIter I l i) (hl : s.heap.IsList l items) (hx : items[i]? = some x)
    (hQ : ∀ h', h'.IsListIter I l (i + 1) → Heap.SameBut I s.heap h' → Q x { s with heap := h' }) : wpAny (model prog w) A (call (.builtin "next") [.ref I]) Q E s := by
  refine Calls.call_function_entry (by decide +kernel) (by decide +kernel) kdk_entry_next (kdk_args_next _) ?_
  unfold Builtin.«next»
  refine wpAny_bind (m := someArgs "next" 1 2 _) (wpAny_of_eq (a := [Value.ref I]) (by first | rfl | kernel_rfl!) ?_)
  dsimp only
  refine wpAny_bind (wpAny_specialOf (name := Str.ofString "__next__") hit.typeIs slot_listiter_next.lookup ?_)
  refine wpAny_ite_split (fun hab => absurd hab (by decide)) (fun _ => ?_)
  obtain ⟨o, ho, hc, hd⟩ := id hit
  obtain ⟨ol, hol, _, nl, hdl⟩ := hl
  refine wpAny_bind (wpAny_callSpecial?_slot (name := Str.ofString "__next__") hit.typeIs slot_listiter_next
    (wpAny_call_entry slot_listiter_next hit.typeIs entry_listiter_next ?_ (args_listiter_next _)))
  show wpAny _ _ (field (.ref I) 0 >>= _) _ _ s
  refine wpAny_bind (wpAny_field ho hd (x := .ref l) rfl ?_)
  show wpAny _ _ (if (Value.ref l == Value.none) = true then _ else _) _ _ s
  rw [if_neg (show ¬ ((Value.ref l == Value.none) = true) from Bool.false_ne_true)]
  show wpAny _ _ (field (.ref I) 1 >>= _) _ _ s
  refine wpAny_bind (wpAny_field ho hd (x := .int i 0) rfl ?_)
  show wpAny _ _ (seqItems? (.ref l) >>= _) _ _ s
  refine wpAny_bind (wpAny_seqItems hol hdl ?_)
  simp only [Int.toNat_natCast, hx]
  refine wpAny_bind (wpAny_setField ho hd (by simp) (wpAny_pure ⟨x, rfl, wpAny_pure ⟨_, rfl, hQ _ ?_ (Heap.SameBut.update ..)⟩⟩))
  exact ⟨_, Heap.get?_update_self _ ho (Obj.isFreed_of_fields (Obj.data_mapFields hd _)), (Obj.cls_mapFields ..).trans hc, by
    rw [Obj.data_mapFields hd]; simp [rawInt]⟩

theorem wp_iter {l : Addr} {items : Array Value} {Q : Value → Shared → Prop} {E : Value → Shared → Prop} (hl : s.heap.IsList l items)
    (hQ : Q (.ref s.heap.objs.size) { s with heap := s.heap.push { cls := .type "list_iterator", data := .fields #[.ref l, .int 0 0] } }) : wpAny (model prog w) A (call (.builtin "iter") [.ref l]) Q E s := by
  refine Calls.call_function_entry (by decide +kernel) (by decide +kernel) kdk_entry_iter (kdk_args_iter _) ?_
  unfold Builtin.«iter»
  refine wpAny_bind (m := someArgs "iter" 1 2 _) (wpAny_of_eq (a := [Value.ref l]) (by first | rfl | kernel_rfl!) ?_)
  show wpAny _ _ (pyIter (.ref l) >>= _) _ _ _
  exact wpAny_bind (wpAny_pyIter_list hl (wpAny_pure ⟨_, rfl, hQ⟩))

theorem St.iter_set (q : St s0 hb env X σ s) {x : Str} {I l : Addr} {i j : Nat} {ns : List Int} {h' : Heap} {tk : Nat} (hx : σ x = some (.iter I l i ns)) (hk : ∀ b o, b ≠ I → s.heap.get? b = some o → h'.get? b = some o) (hit : h'.IsListIter I l j) :
    St s0 hb env X (upd σ x (.iter I l j ns)) { s with heap := h', toks := tk } := by
  obtain ⟨v, at1, rfl, hi, hl, vs, n, hg, hr⟩ := q.var x _ hx
  have q1 : St s0 hb env X (fun y => if y = x then none else σ y) s := q.weak fun y sl e => by
    by_cases hy : y = x
    · rw [if_pos hy] at e; cases e
    · rw [if_neg hy] at e; exact e
  obtain ⟨oi, hoi, hci, hdi⟩ := id hi
  have q2 := q1.walk (tk := tk) (I := I) (h' := h') ⟨oi, _, hoi, hdi⟩ (q.ib x I l i ns hx) (.inr (let ⟨o, ho, _⟩ := hit; ⟨o, ho⟩)) hk (fun y I' l' i' ns' e => by
    by_cases hy : y = x
    · rw [if_pos hy] at e; cases e
    · rw [if_neg hy] at e; exact absurd (q.oi y x _ _ _ _ _ _ _ _ e hx) hy)
  have hlI : l ≠ I := by rintro rfl; rw [hoi] at hg; cases hg; cases hdi
  have seq_up : ∀ b o, b ∉ X → IsSeqO o → s.heap.get? b = some o → h'.get? b = some o := fun b o _ hq e => hk b o (by
    rintro rfl
    rw [hoi] at e; cases e
    obtain ⟨_, _, hq⟩ := hq
    rw [hdi] at hq; cases hq) e
  have updO : ∀ {y : Str} {a : Addr} {ds : List D}, upd σ x (.iter I l j ns) y = some (.own a ds) → y ≠ x ∧ σ y = some (.own a ds) := by
    intro y a ds e
    by_cases hy : y = x
    · subst hy; rw [upd_self_eq] at e; cases e
    · rw [upd_ne hy] at e; exact ⟨hy, e⟩
  refine ⟨q2.kp, q2.nst, q2.cells, fun y sl e => ?_, q2.xok, fun y z a ds a' ds' e1 e2 => q.od y z _ _ _ _ (updO e1).2 (updO e2).2, fun y a ds e => q.ob y a ds (updO e).2, q2.rest, fun y I' l' i' ns' e => ?_, fun y z I1 l1 i1 ns1 I2 l2 i2 ns2 e1 e2 => ?_⟩
  · by_cases hy : y = x
    · subst hy
      rw [upd_self_eq] at e; cases e
      refine ⟨.ref I, ?_, rfl, hit, hl, vs, n, hk _ _ hlI hg, Rds.go (fun _ x => x) seq_up _ hr⟩
      rcases at1 with ⟨k, m, hn, hm⟩ | ⟨k, c, hc, hv⟩
      · refine .inl ⟨k, m, hn.at' fun o e => hk _ o ?_ e, hm⟩
        rintro rfl
        obtain ⟨o, es, ep, ho, hd, _⟩ := hn
        rw [hoi] at ho; cases ho; rw [hdi] at hd; cases hd
      · refine .inr ⟨k, c, hc, ?_⟩
        obtain ⟨o, ho, hd⟩ := hv
        exact ⟨o, hk _ o (by rintro rfl; rw [hoi] at ho; cases ho; rw [hdi] at hd; cases hd) ho, hd⟩
    · rw [upd_ne hy] at e
      exact q2.var y sl (by rw [if_neg hy]; exact e)
  · by_cases hy : y = x
    · subst hy; rw [upd_self_eq] at e; cases e; exact q.ib _ _ _ _ _ hx
    · rw [upd_ne hy] at e; exact q.ib _ _ _ _ _ e
  · by_cases hy : y = x <;> by_cases hz : z = x
    · exact hy.trans hz.symm
    · subst hy; rw [upd_ne hz] at e2; exact absurd (q.oi _ _ _ _ _ _ _ _ _ _ e2 hx) hz
    · subst hz; rw [upd_ne hy] at e1; exact absurd (q.oi _ _ _ _ _ _ _ _ _ _ e1 hx) hy
    · rw [upd_ne hy] at e1; rw [upd_ne hz] at e2; exact q.oi _ _ _ _ _ _ _ _ _ _ e1 e2

/-- y = next(x) -/
theorem st_next {x y f : Str} {px pn cpos py pos : Pos} {rest : List Stmt} {I l : Addr} {i : Nat} {ns : List Int} {b : Int} {Q : Flow → Shared → Prop} {E : Value → Shared → Prop} (fm : Fm hb env) (g : Gl mg mb hb) (q : St s0 hb env X σ s) (hx : σ x = some (.iter I l i ns)) (hxy : x ≠ y)
    (hb' : ns[i]? = some b) (hf : env.kindOf f = some .globalImplicit) (hm : mg f = none) (hbf : mb f = some (.builtin "next")) (hy : Sto hb env y)
    (hn : ∀ s', St s0 hb env X (upd (upd σ x (.iter I l (i + 1) ns)) y (.d (.int b))) s' → wpAny (model prog w) A (execs rest env) Q E s')
    (hdb : (x == ("__debug__" : Str)) = false := by decide) (hdf : (f == ("__debug__" : Str)) = false := by decide) :
    wpAny (model prog w) A (execs (.Assign [.Name y py] (.Call (.Name f pn) [.Name x px] [] cpos) pos :: rest) env) Q E s := by
  obtain ⟨v, at1, rfl, hi, hl, vs, n, hg, hr⟩ := q.var x _ hx
  refine wpAny_execs_cons (PySem.wpAny_Assign_Name (wpAny_bind (wp_bltn fm.eo hf (g.up q.kp) hm hbf (Calls.callWith_builtin rfl (Calls.evalArgs_plain (Calls.spliced_cons (wp_at fm.eo at1 (Calls.spliced_nil ?_) hdb)))) hdf)) rfl)
  obtain ⟨v, hv, t, rfl⟩ := hr.get (i := i) (d := .int b) (by rw [List.getElem?_map, hb']; rfl)
  refine wp_next hi (lo_isList hg) (x := .int b t) (by simpa using hv) fun h' hit' hs' => ?_
  exact st_store_d (d := .int b) fm (q.iter_set (tk := s.toks) hx (fun b o hb e => hs'.extBut b o hb e) hit') hy ⟨t, rfl⟩ fun s2 q2 => hn s2 q2

/-- a name that holds an iterator -/
theorem St.to_iter (q : St s0 hb env X σ s) {x : Str} {I l : Addr} {i : Nat} {ns : List Int} {vs : List Value} {n : Nat} (hx : σ x = some (.val (.ref I))) (hi : s.heap.IsListIter I l i) (hl : l ∉ X) (hg : s.heap.get? l = some (LO vs n)) (hr : Rds X s.heap vs (ns.map .int))
    (hbI : hb.get? I = none) (hno : ∀ y I l i ns, σ y ≠ some (.iter I l i ns)) : St s0 hb env X (upd σ x (.iter I l i ns)) s := by
  have updO : ∀ {y : Str} {a : Addr} {ds : List D}, upd σ x (.iter I l i ns) y = some (.own a ds) → y ≠ x ∧ σ y = some (.own a ds) := by
    intro y a ds e
    by_cases hy : y = x
    · subst hy; rw [upd_self_eq] at e; cases e
    · rw [upd_ne hy] at e; exact ⟨hy, e⟩
  refine ⟨q.kp, q.nst, q.cells, fun y sl e => ?_, q.xok, fun y z a ds a' ds' e1 e2 => q.od y z _ _ _ _ (updO e1).2 (updO e2).2, fun y a ds e => q.ob y a ds (updO e).2, q.rest, fun y I' l' i' ns' e => ?_, fun y z I1 l1 i1 ns1 I2 l2 i2 ns2 e1 e2 => ?_⟩
  · by_cases hy : y = x
    · subst hy
      rw [upd_self_eq] at e; cases e
      obtain ⟨v, at1, rfl⟩ := q.var y _ hx
      exact ⟨_, at1, rfl, hi, hl, vs, n, hg, hr⟩
    · rw [upd_ne hy] at e
      exact q.var y sl e
  · by_cases hy : y = x
    · subst hy; rw [upd_self_eq] at e; cases e; exact hbI
    · rw [upd_ne hy] at e; exact absurd e (hno _ _ _ _ _)
  · by_cases hy : y = x <;> by_cases hz : z = x
    · exact hy.trans hz.symm
    · rw [upd_ne hz] at e2; exact absurd e2 (hno _ _ _ _ _)
    · rw [upd_ne hy] at e1; exact absurd e1 (hno _ _ _ _ _)
    · rw [upd_ne hy] at e1; exact absurd e1 (hno _ _ _ _ _)
end
end Mine
end
section
open PySem PySem.W PyProof.Rows PySem.SeqAt
namespace Mine

mutual
noncomputable def toP : D → PyData
  | .none => .none
  | .bool b => .bool b
  | .int i => .int i
  | .str x => .str x
  | .tup ds => .tuple (toPs ds)
  | .lst ds => .list (toPs ds)
noncomputable def toPs : List D → List PyData
  | [] => []
  | d :: ds => toP d :: toPs ds
end
mutual
theorem Rd.reads {X : List Addr} {h : Heap} : ∀ {v : Value} (d : D), Rd X h v d → ∃ as, Reads h v (toP d) as
  | _, .none, r => by rw [show _ = Value.none from r]; exact ⟨_, .none⟩
  | _, .bool b, r => by rw [show _ = Value.bool b from r]; exact ⟨_, .bool b⟩
  | _, .int i, ⟨t, e⟩ => by rw [e]; exact ⟨_, .int i t⟩
  | _, .str x, ⟨t, e⟩ => by rw [e]; exact ⟨_, .str x t⟩
  | _, .tup ds, ⟨a, vs, n, e, hn, hg, hr⟩ => by
    obtain ⟨as, q⟩ := Rds.reads ds hr
    rw [e, toP]; exact ⟨_, .tuple hg rfl rfl (by simpa using q)⟩
  | _, .lst ds, ⟨a, vs, n, e, hn, hg, hr⟩ => by
    obtain ⟨as, q⟩ := Rds.reads ds hr
    rw [e, toP]; exact ⟨_, .list hg rfl rfl (by simpa using q)⟩
theorem Rds.reads {X : List Addr} {h : Heap} : ∀ {vs : List Value} (ds : List D), Rds X h vs ds → ∃ as, ReadsAll h vs (toPs ds) as
  | [], [], _ => ⟨_, .nil⟩
  | _ :: _, d :: ds, r => by
    obtain ⟨as, q⟩ := Rd.reads d r.1
    obtain ⟨bs, p⟩ := Rds.reads ds r.2
    rw [toPs]; exact ⟨_, .cons q p⟩
  | [], _ :: _, r => r.elim
  | _ :: _, [], r => r.elim
end
/-- data that may be compared: texts of real signs, depth told -/
noncomputable def Lay (d : D) (k : Nat) : Prop := (toP d).canLay0 = true ∧ (toP d).depth ≤ k

section
variable {prog : Program} {w : World} {A : Around} {env : Env} {h hb : Heap} {X : List Addr} {mg mb : Str → Option Value} {σ : Sg} {s s0 : Shared}

theorem eq_dd {a b : D} {k : Nat} (ha : Lay a k) (hb : (toP b).canLay0 = true) (hu : A.units + k < cLine) : CmpD prog w A X .Eq a b (PyData.eqv (toP a) (toP b)) := by
  intro h v1 v2 r1 r2 hX s Q E hk hQ
  obtain ⟨as, q1⟩ := Rd.reads a (r1.up hk)
  obtain ⟨bs, q2⟩ := Rd.reads b (r2.up hk)
  exact compareEq_reads q1 q2 ha.1 hb (by have := ha.2; omega) (hQ _ _ keeps_refl rfl)
theorem ne_dd {a b : D} {k : Nat} (ha : Lay a k) (hb : (toP b).canLay0 = true) (hu : A.units + k < cLine) : CmpD prog w A X .NotEq a b (!PyData.eqv (toP a) (toP b)) := by
  intro h v1 v2 r1 r2 hX s Q E hk hQ
  obtain ⟨as, q1⟩ := Rd.reads a (r1.up hk)
  obtain ⟨bs, q2⟩ := Rd.reads b (r2.up hk)
  exact compareNe_reads q1 q2 ha.1 hb (by have := ha.2; omega) (hQ _ _ keeps_refl rfl)
theorem eq_same {a : D} {k : Nat} (ha : Lay a k) (hu : A.units + k < cLine) : CmpD prog w A X .Eq a a true := by
  have := eq_dd (prog := prog) (w := w) (X := X) ha ha.1 hu
  rwa [eqv_refl _ ha.1] at this
theorem ne_same {a : D} {k : Nat} (ha : Lay a k) (hu : A.units + k < cLine) : CmpD prog w A X .NotEq a a false := by
  have := ne_dd (prog := prog) (w := w) (X := X) ha ha.1 hu
  rwa [eqv_refl _ ha.1] at this

theorem ord_c {c : Nat} (h' : Heap) (vs : List Value) (r : Rds X h' vs [.str ⟨#[c]⟩]) : Gv prog w A h' X (call (.builtin "ord") vs) (.int c) := by
  obtain ⟨v, rfl, t, rfl⟩ := r.one
  intro hX s Q E hk hQ
  exact PySem.P.ord_of_char (hQ _ _ keeps_tok ⟨_, rfl⟩)
theorem chr_i {i : Int} (h0 : 0 ≤ i) (h1 : i ≤ 1114111) (h' : Heap) (vs : List Value) (r : Rds X h' vs [.int i]) : Gv prog w A h' X (call (.builtin "chr") vs) (.str ⟨#[i.toNat]⟩) := by
  obtain ⟨v, rfl, t, rfl⟩ := r.one
  intro hX s Q E hk hQ
  exact chr_of_range h0 h1 (hQ _ _ keeps_tok ⟨_, rfl⟩)
theorem sum_l {ns : List Int} (hA : A.handled = none) (h' : Heap) (vs : List Value) (r : Rds X h' vs [.lst (ns.map .int)]) : Gv prog w A h' X (call (.builtin "sum") vs) (.int ns.sum) := by
  obtain ⟨v, rfl, a, us, n, rfl, hn, hg, hr⟩ := r.one
  intro hX s Q E hk hQ
  have hg' := hk _ _ hg
  have hlen : us.length = ns.length := by rw [hr.length, List.length_map]
  have val : ∀ (i : Nat) (v : Value), us.toArray[i]? = some v → ∃ t, v = Value.int (ns.getD i 0) t := fun i v e => by
    have e' : us[i]? = some v := by rw [List.getElem?_toArray] at e; exact e
    obtain ⟨d, hd, rd⟩ := hr.getV (i := i) (v := v) e'
    rw [List.getElem?_map] at hd
    cases hi : ns[i]? with
    | none => rw [hi] at hd; cases hd
    | some k =>
      rw [hi] at hd; cases hd
      obtain ⟨t, rfl⟩ := rd
      exact ⟨t, by rw [List.getD_eq_getElem?_getD, hi]; rfl⟩
  refine call_sum_walkG (wpAny_pyIter_list (lo_isList hg') ⟨s.heap.objs.size, [s.heap.objs.size, a], [s.heap.objs.size], us.toArray.size, _, _, fun i => ns.getD i 0, rfl, Walks.list (A := A.in1) hA s.heap.objs.size a (Nat.ne_of_lt (Heap.lt_size hg')) us.toArray,
    ⟨⟨_, Heap.get?_push_size _ rfl, rfl, rfl⟩, lo_isList (n := n) (Heap.get?_push_of_some _ hg')⟩, fun b hb => ?_, val, fun h2 tk t' hk2 => ?_⟩)
  · have := Heap.lt_size hg'
    rw [Heap.size_push]
    simp at hb
    rcases hb with rfl | rfl
    · exact Nat.lt_succ_self _
    · exact Nat.lt_succ_of_lt this
  · have e : preSum (fun i => ns.getD i 0) us.toArray.size = ns.sum := by
      rw [List.size_toArray, hlen, preSum_getD, List.take_length]
    rw [e]
    exact hQ _ _ (keeps_heap fun b o eb => hk2 b o (by
      intro hm
      simp at hm
      subst hm
      exact Nat.lt_irrefl _ (Heap.lt_size eb)) (kp_push _ _ eb)) ⟨_, rfl⟩
theorem in_ss {x y : Str} : CmpD prog w A X .In (.str y) (.str x) (!(Builtin.Str.occurrences x y 0 x.length 1).isEmpty) := by
  rintro h _ _ ⟨t, rfl⟩ ⟨u, rfl⟩ hX s Q E hk hQ
  exact PyProof.Rows.in_str (hQ _ _ keeps_refl rfl)
/-- text.index(text) -/
theorem ev_index {o e : Expr} {apos pos : Pos} {x y : Str} {i : Nat} {rest : List Nat} (ho : Gv prog w A h X (eval o env) (.str x)) (he : Gv prog w A h X (eval e env) (.str y)) (hi : Builtin.Str.occurrences x y 0 x.length 1 = i :: rest)
    (hbase : attributeBase o (Str.ofString "index") env (eval o env) = eval o env := by rfl) (hs : starEach [e] env = [(false, eval e env)] := by rfl) (hline : (apos.endLine == pos.line) = true := by rfl) :
    Gv prog w A h X (eval (.Call (.Attribute o (Str.ofString "index") apos) [e] [] pos) env) (.int i) := fun hX s Q E hk hQ =>
  Call_method1 hbase hs hline (ho hX s _ _ hk fun v s1 k1 r1 => by
    obtain ⟨t, rfl⟩ := r1
    refine ⟨"str", "str.index", PySem.F.plainAttrs_str, PySem.F.slot_str_index, PySem.F.type_str_index, typeIs_str _ _ _, (fun _ e => nomatch e), ?_⟩
    refine Calls.callWith_builtin rfl (Calls.evalArgs_plain (Calls.spliced_cons (he hX s1 _ _ (hk.trans k1.kp) fun v2 s2 k2 r2 => Calls.spliced_nil ?_)))
    obtain ⟨u, rfl⟩ := r2
    exact SC.index hi (hQ _ _ (k1.tr (k2.tr keeps_tok)) ⟨_, rfl⟩))
end
end Mine
end
section
open PySem PySem.W PyProof.Rows
namespace Mine

noncomputable def cd1 : Array Nat := #[14, 4, 0, 1, 1, 6, 1, 16, 46, 1]
/-- the first machine, about to try at place s -/
noncomputable def S1 (text : Array Nat) (lim s : Nat) (must outer : Bool) (seen : Sre.Seen) : Sre.M :=
  { code := cd1, text, lim, start := s, lastStart := lim, wholeText := false, mustAdvance := must, pc := 5, pos := s, handed := s, outermost := outer, marks := #[], lastmark := -1, lastindex := -1, loops := #[], inner := none,
    frames := [{ wait := .nextStart, pc := 5, pos := s, outermost := outer }], weight := 1, answer := none, seen := seen, outcome := none }
/-- the machine comes to an end, in n steps or fewer -/
noncomputable def Ends (n : Nat) (m F : Sre.M) : Prop := ∃ k, k ≤ n ∧ Sre.M.runFor k m = F ∧ F.outcome.isSome = true
theorem Ends.done {n : Nat} {m : Sre.M} (h : m.outcome.isSome = true) : Ends n m m := ⟨0, Nat.zero_le _, rfl, h⟩
theorem Ends.next {n : Nat} {m F : Sre.M} (h : m.outcome = none) (e : Ends n m.step F) : Ends (n + 1) m F := by
  obtain ⟨k, h0, h1, h2⟩ := e
  refine ⟨k + 1, Nat.succ_le_succ h0, ?_, h2⟩
  show (if m.outcome.isSome then m else Sre.M.runFor k m.step) = F
  rw [h]; exact h1
theorem Ends.of {n : Nat} {m m' F : Sre.M} (h : m.outcome = none) (hs : m.step = m') (e : Ends n m' F) : Ends (n + 1) m F := .next h (hs ▸ e)
theorem Ends.weak {n n' : Nat} {m F : Sre.M} (e : Ends n m F) (h : n ≤ n') : Ends n' m F := let ⟨k, h0, h1⟩ := e; ⟨k, Nat.le_trans h0 h, h1⟩
theorem runFor_done : ∀ (k : Nat) {m : Sre.M}, m.outcome.isSome = true → Sre.M.runFor k m = m
  | 0, _, _ => rfl
  | k + 1, m, h => by show (if m.outcome.isSome then m else _) = m; rw [h]; rfl
theorem runFor_add : ∀ (a b : Nat) (m : Sre.M), Sre.M.runFor (a + b) m = Sre.M.runFor b (Sre.M.runFor a m)
  | 0, b, m => by rw [Nat.zero_add]; rfl
  | a + 1, b, m => by
    rw [Nat.add_right_comm]
    show (if m.outcome.isSome then m else Sre.M.runFor (a + b) m.step) = Sre.M.runFor b (if m.outcome.isSome then m else Sre.M.runFor a m.step)
    cases h : m.outcome.isSome
    · simp only [Bool.false_eq_true, if_false]; exact runFor_add a b _
    · simp only [if_true]; exact (runFor_done b h).symm

theorem step1a (text : Array Nat) (lim s : Nat) (must outer : Bool) (seen : Sre.Seen) :
    (S1 text lim s must outer seen).step = if (s == 0 || text.getD (s - 1) 0 == 10) = true then { S1 text lim s must outer ((seen.add 6).add 44) with pc := 7 } else { S1 text lim s must outer ((seen.add 6).add 44) with answer := some false } := by
  rfl
theorem step1b (text : Array Nat) (lim s : Nat) (must outer : Bool) (seen : Sre.Seen) :
    ({ S1 text lim s must outer seen with pc := 7 } : Sre.M).step = if s ≥ lim then { S1 text lim s must outer (seen.add 16) with pc := 7, answer := some false } else
      (match (text.getD s 0 == 46) with
        | false => { S1 text lim s must outer (seen.add 16) with pc := 7, answer := some false }
        | true => { S1 text lim s must outer (seen.add 16) with pc := 9, pos := s + 1 }) := by
  show (if s ≥ lim then _ else _) = _
  split
  · rfl
  · cases hq : (text.getD s 0 == 46)
    · show (match (Except.ok ((text.getD s 0 == 46), seen.add 16) : Except String (Bool × Sre.Seen)) with | .error why => _ | .ok (false, seen) => _ | .ok (true, seen) => _) = _
      rw [hq]; rfl
    · show (match (Except.ok ((text.getD s 0 == 46), seen.add 16) : Except String (Bool × Sre.Seen)) with | .error why => _ | .ok (false, seen) => _ | .ok (true, seen) => _) = _
      rw [hq]; rfl
theorem step1c (text : Array Nat) (lim s : Nat) (must outer : Bool) (seen : Sre.Seen) :
    ({ S1 text lim s must outer seen with pc := 9, pos := s + 1 } : Sre.M).step = { S1 text lim s must outer (seen.add 1) with pc := 9, pos := s + 1, handed := s + 1, answer := some true } := by
  show (if (outer && ((false && (s + 1 != lim)) || (must && (s + 1 == s)))) = true then _ else _) = _
  have : (s + 1 == s) = false := by simp
  rw [this, Bool.and_false, Bool.false_and, Bool.or_false, Bool.and_false, if_neg Bool.false_ne_true]
  rfl
/-- an attempt that said no: on to the next place, or the end -/
theorem step1f (text : Array Nat) (lim s pc : Nat) (must outer : Bool) (seen : Sre.Seen) :
    ({ S1 text lim s must outer seen with pc := pc, answer := some false } : Sre.M).step = if s < lim then S1 text lim (s + 1) false false seen else { S1 text lim s must outer seen with frames := [], weight := 0, answer := some false } := by
  show (if s < lim then _ else _) = _
  split <;> rfl
theorem step1t (text : Array Nat) (lim s : Nat) (must outer : Bool) (seen : Sre.Seen) :
    ({ S1 text lim s must outer seen with pc := 9, pos := s + 1, handed := s + 1, answer := some true } : Sre.M).step = { S1 text lim s must outer seen with handed := s + 1, frames := [], weight := 0, answer := some true } := rfl
theorem step1e (text : Array Nat) (lim s : Nat) (must outer : Bool) (seen : Sre.Seen) :
    ({ S1 text lim s must outer seen with handed := s + 1, frames := [], weight := 0, answer := some true } : Sre.M).step = { S1 text lim s must outer seen with handed := s + 1, frames := [], weight := 0, answer := some true, outcome := some .matched } := rfl
theorem step1g (text : Array Nat) (lim s : Nat) (must outer : Bool) (seen : Sre.Seen) :
    ({ S1 text lim s must outer seen with frames := [], weight := 0, answer := some false } : Sre.M).step = { S1 text lim s must outer seen with frames := [], weight := 0, answer := some false, outcome := some .failed } := rfl

noncomputable def ok1 (text : Array Nat) (s : Nat) : Bool := (s == 0 || text.getD (s - 1) 0 == 10) && text.getD s 0 == 46
noncomputable def find1 (text : Array Nat) : Nat → Nat → Option Nat
  | 0, _ => none
  | k + 1, s => if ok1 text s then some s else find1 text k (s + 1)
noncomputable def Said (F : Sre.M) : Option (Nat × Nat) → Prop
  | some (p, e) => F.outcome = some .matched ∧ F.start = p ∧ F.handed = e
  | none => F.outcome = some .failed

theorem run1 (text : Array Nat) (lim : Nat) : ∀ (k s : Nat) (must outer : Bool) (seen : Sre.Seen), s + k = lim → ∃ F, Ends (3 * k + 9) (S1 text lim s must outer seen) F ∧ Said F ((find1 text k s).map fun p => (p, p + 1))
  | 0, s, must, outer, seen, hk => by
    show ∃ F, Ends 9 _ F ∧ _
    have no : ∀ (pc : Nat) (seen : Sre.Seen), ∃ F, Ends 7 ({ S1 text lim s must outer seen with pc := pc, answer := some false } : Sre.M) F ∧ Said F none := fun pc seen =>
      ⟨{ S1 text lim s must outer seen with frames := [], weight := 0, answer := some false, outcome := some .failed }, .of rfl (step1f text lim s pc must outer seen) (by
        rw [if_neg (by omega)]
        exact .of rfl (step1g text lim s must outer seen) (.done rfl)), rfl⟩
    by_cases ha : (s == 0 || text.getD (s - 1) 0 == 10) = true
    · obtain ⟨F, hF, hS⟩ := no 7 ((seen.add 6).add 44 |>.add 16)
      refine ⟨F, .of rfl (step1a text lim s must outer seen) ?_, hS⟩
      rw [if_pos ha]
      refine .of rfl (step1b text lim s must outer _) ?_
      rw [if_pos (by omega)]
      exact hF
    · obtain ⟨F, hF, hS⟩ := no 5 ((seen.add 6).add 44)
      refine ⟨F, .of rfl (step1a text lim s must outer seen) ?_, hS⟩
      rw [if_neg ha]
      exact hF.weak (by omega)
  | k + 1, s, must, outer, seen, hk => by
    show ∃ F, Ends (3 * k + 12) _ F ∧ _
    have no : ∀ (pc : Nat) (seen : Sre.Seen), ok1 text s = false → ∃ F, Ends (3 * k + 10) ({ S1 text lim s must outer seen with pc := pc, answer := some false } : Sre.M) F ∧ Said F ((find1 text (k + 1) s).map fun p => (p, p + 1)) := fun pc seen hno => by
      obtain ⟨F, hF, hS⟩ := run1 text lim k (s + 1) false false seen (by omega)
      refine ⟨F, .of rfl (step1f text lim s pc must outer seen) ?_, ?_⟩
      · rw [if_pos (by omega)]; exact hF
      · unfold find1; rw [hno]; exact hS
    by_cases ha : (s == 0 || text.getD (s - 1) 0 == 10) = true
    · cases hb : (text.getD s 0 == 46) with
      | false =>
        obtain ⟨F, hF, hS⟩ := no 7 ((seen.add 6).add 44 |>.add 16) (by unfold ok1; rw [hb, Bool.and_false])
        refine ⟨F, .of rfl (step1a text lim s must outer seen) ?_, hS⟩
        rw [if_pos ha]
        refine .of rfl (step1b text lim s must outer _) ?_
        rw [if_neg (by omega), hb]
        exact hF
      | true =>
        have hok : ok1 text s = true := by unfold ok1; rw [ha, hb]; rfl
        refine ⟨{ S1 text lim s must outer ((((seen.add 6).add 44).add 16).add 1) with handed := s + 1, frames := [], weight := 0, answer := some true, outcome := some .matched }, .of rfl (step1a text lim s must outer seen) ?_, ?_⟩
        · rw [if_pos ha]
          refine .of rfl (step1b text lim s must outer _) ?_
          rw [if_neg (by omega), hb]
          exact .of rfl (step1c text lim s must outer _) (.of rfl (step1t text lim s must outer _) (.of rfl (step1e text lim s must outer _) (.done rfl)))
        · unfold find1; rw [hok]; exact ⟨rfl, rfl, rfl⟩
    · obtain ⟨F, hF, hS⟩ := no 5 ((seen.add 6).add 44) (by unfold ok1; rw [Bool.eq_false_iff.mpr ha]; rfl)
      refine ⟨F, .of rfl (step1a text lim s must outer seen) ?_, hS⟩
      rw [if_neg ha]
      exact hF.weak (by omega)
theorem search1 (text : Array Nat) (start : Nat) (must : Bool) (h : start ≤ text.size) : ∃ F, Ends (3 * text.size + 20) (Sre.forSearch cd1 text 0 start text.size must) F ∧ Said F ((find1 text (text.size - start) start).map fun p => (p, p + 1)) := by
  have e : Sre.forSearch cd1 text 0 start text.size must = if (decide (start > text.size) || decide (text.size - start < 1)) = true then { S1 text text.size start must true (({} : Sre.Seen).add 14) with frames := [], weight := 0, lastStart := 0, answer := some false } else S1 text text.size start must true (({} : Sre.Seen).add 14) := by
    rfl
  rw [e]
  by_cases hs : text.size - start < 1
  · rw [if_pos (by simp [hs])]
    refine ⟨_, .next rfl (.done rfl), ?_⟩
    rw [show text.size - start = 0 by omega]
    rfl
  · rw [if_neg (by simp; omega)]
    obtain ⟨F, hF, hS⟩ := run1 text text.size (text.size - start) start must true (({} : Sre.Seen).add 14) (by omega)
    exact ⟨F, hF.weak (by omega), hS⟩
end Mine
end
section
open PySem PySem.W PyProof.Rows
namespace Mine

noncomputable def cd2 : Array Nat := #[14, 9, 4, 1, 2, 16, 10, 16, 13, 0, 7, 7, 16, 13, 16, 10, 15, 18, 5, 16, 10, 15, 13, 11, 16, 13, 5, 5, 0, 16, 10, 1, 15, 2, 0, 1]
/-- the second machine at work on place s -/
noncomputable def S2 (text : Array Nat) (lim s pc pos handed : Nat) (outer : Bool) (frames : List Sre.Frame) (weight : Nat) (answer : Option Bool) (seen : Sre.Seen) : Sre.M :=
  { code := cd2, text, lim, start := s, lastStart := lim, wholeText := false, mustAdvance := false, pc, pos, handed, outermost := outer, marks := #[], lastmark := -1, lastindex := -1, loops := #[], inner := none, frames, weight, answer, seen, outcome := none }
noncomputable def fStart (s : Nat) (outer : Bool) : Sre.Frame := { wait := .nextStart, pc := 10, pos := s, outermost := outer }
noncomputable def fBr (s alt : Nat) (outer : Bool) : Sre.Frame := { wait := .nextBranch, pc := alt, pos := s, outermost := outer }
noncomputable def fLook (p : Nat) (outer : Bool) : Sre.Frame := { wait := .lookNot, pc := 26, pos := p, outermost := outer }

section
variable (text : Array Nat) (lim s pos handed : Nat) (outer : Bool) (frames : List Sre.Frame) (weight : Nat) (seen : Sre.Seen)
theorem lit2 (pc c : Nat) (h : (pc, c) ∈ [(12, 13), (14, 10), (19, 10), (24, 13), (29, 10)]) :
    (S2 text lim s pc pos handed outer frames weight none seen).step = if pos < lim ∧ text.getD pos 0 = c then S2 text lim s (pc + 2) (pos + 1) handed outer frames weight none (seen.add 16) else S2 text lim s pc pos handed outer frames weight (some false) (seen.add 16) := by
  simp only [List.mem_cons, Prod.mk.injEq, List.not_mem_nil, or_false] at h
  rcases h with ⟨rfl, rfl⟩ | ⟨rfl, rfl⟩ | ⟨rfl, rfl⟩ | ⟨rfl, rfl⟩ | ⟨rfl, rfl⟩ <;> by_cases hp : pos ≥ lim
  all_goals first
    | (rw [if_neg (by omega)]
       show (if pos ≥ lim then _ else _) = _
       rw [if_pos hp]; rfl)
    | (show (if pos ≥ lim then _ else _) = _
       rw [if_neg hp]
       first
       | (cases hq : (text.getD pos 0 == 13)
          · rw [if_neg (by simp at hq; simp [hq])]
            show (match (Except.ok ((text.getD pos 0 == 13), seen.add 16) : Except String (Bool × Sre.Seen)) with | .error why => _ | .ok (false, seen) => _ | .ok (true, seen) => _) = _
            rw [hq]; rfl
          · rw [if_pos (by simp at hq; exact ⟨by omega, by simpa using hq⟩)]
            show (match (Except.ok ((text.getD pos 0 == 13), seen.add 16) : Except String (Bool × Sre.Seen)) with | .error why => _ | .ok (false, seen) => _ | .ok (true, seen) => _) = _
            rw [hq]; rfl)
       | (cases hq : (text.getD pos 0 == 10)
          · rw [if_neg (by simp at hq; simp [hq])]
            show (match (Except.ok ((text.getD pos 0 == 10), seen.add 16) : Except String (Bool × Sre.Seen)) with | .error why => _ | .ok (false, seen) => _ | .ok (true, seen) => _) = _
            rw [hq]; rfl
          · rw [if_pos (by simp at hq; exact ⟨by omega, by simpa using hq⟩)]
            show (match (Except.ok ((text.getD pos 0 == 10), seen.add 16) : Except String (Bool × Sre.Seen)) with | .error why => _ | .ok (false, seen) => _ | .ok (true, seen) => _) = _
            rw [hq]; rfl))
theorem br2 : (S2 text lim s 10 s s outer [fStart s outer] 1 none seen).step = S2 text lim s 12 s s outer [fBr s 11 outer, fStart s outer] 2 none (seen.add 7) := rfl
theorem jmp2 (pc : Nat) (h : pc = 16 ∨ pc = 21 ∨ pc = 32) : (S2 text lim s pc pos handed outer frames weight none seen).step = S2 text lim s 35 pos handed outer frames weight none (seen.add 15) := by
  rcases h with rfl | rfl | rfl <;> rfl
theorem suc2 : (S2 text lim s 35 pos handed outer frames weight none seen).step = S2 text lim s 35 pos pos outer frames weight (some true) (seen.add 1) := by
  show (if (outer && ((false && (pos != lim)) || (false && (pos == s)))) = true then _ else _) = _
  rw [Bool.false_and, Bool.false_and, Bool.or_false, Bool.and_false, if_neg Bool.false_ne_true]
  rfl
theorem yes2 (pc alt : Nat) : (S2 text lim s pc pos handed outer [fBr s alt outer, fStart s outer] 2 (some true) seen).step = S2 text lim s alt s handed outer [fStart s outer] 1 (some true) seen := rfl
theorem yess2 (pc : Nat) : (S2 text lim s pc pos handed outer [fStart s outer] 1 (some true) seen).step = S2 text lim s 10 s handed outer [] 0 (some true) seen := rfl
theorem no2a (pc : Nat) : (S2 text lim s pc pos handed outer [fBr s 11 outer, fStart s outer] 2 (some false) seen).step = S2 text lim s 19 s s outer [fBr s 18 outer, fStart s outer] 2 none seen := rfl
theorem no2b (pc : Nat) : (S2 text lim s pc pos handed outer [fBr s 18 outer, fStart s outer] 2 (some false) seen).step = S2 text lim s 24 s s outer [fBr s 23 outer, fStart s outer] 2 none seen := rfl
theorem not2 : (S2 text lim s 26 pos handed outer [fBr s 23 outer, fStart s outer] 2 none seen).step = S2 text lim s 29 pos pos false [fLook pos outer, fBr s 23 outer, fStart s outer] 3 none (seen.add 5) := rfl
theorem look2 (pc p : Nat) : (S2 text lim s pc p handed false [fLook pos outer, fBr s 23 outer, fStart s outer] 3 (some false) seen).step = S2 text lim s 32 pos handed outer [fBr s 23 outer, fStart s outer] 2 none seen := rfl
end
noncomputable def find2 (text : Array Nat) : Nat → Nat → Option (Nat × Nat)
  | 0, _ => none
  | k + 1, s => if text.getD s 0 = 10 then some (s, s + 1) else if text.getD s 0 = 13 then some (s, if 1 ≤ k ∧ text.getD (s + 1) 0 = 10 then s + 2 else s + 1) else find2 text k (s + 1)
theorem end2 (text : Array Nat) (lim s pos handed alt : Nat) (outer : Bool) (seen : Sre.Seen) : ∃ F, Ends 20 (S2 text lim s 35 pos handed outer [fBr s alt outer, fStart s outer] 2 none seen) F ∧ Said F (some (s, pos)) :=
  ⟨{ S2 text lim s 10 s pos outer [] 0 (some true) (seen.add 1) with outcome := some .matched },
    .of rfl (suc2 ..) (.of rfl (yes2 ..) (.of rfl (yess2 ..) (.next rfl (.done rfl)))), rfl, rfl, rfl⟩
theorem try2 (text : Array Nat) (lim s k : Nat) (outer : Bool) (seen : Sre.Seen) (hk : s + (k + 1) = lim) (hs : text.getD s 0 = 10 ∨ text.getD s 0 = 13) :
    ∃ F, Ends 40 (S2 text lim s 10 s s outer [fStart s outer] 1 none seen) F ∧ Said F (find2 text (k + 1) s) := by
  rcases hs with hs | hs
  · obtain ⟨F, hF, hS⟩ := end2 text lim s (s + 1) s 18 outer ((((seen.add 7).add 16).add 16).add 15)
    refine ⟨F, .of rfl (br2 ..) (.of rfl (lit2 _ _ _ _ _ _ _ _ _ 12 13 (by simp)) ?_), by unfold find2; rw [if_pos hs]; exact hS⟩
    rw [if_neg (by rw [hs]; simp)]
    refine .of rfl (no2a ..) (.of rfl (lit2 _ _ _ _ _ _ _ _ _ 19 10 (by simp)) ?_)
    rw [if_pos ⟨by omega, hs⟩]
    exact .of rfl (jmp2 _ _ _ _ _ _ _ _ _ 21 (by simp)) (hF.weak (by omega))
  · by_cases hn : 1 ≤ k ∧ text.getD (s + 1) 0 = 10
    · obtain ⟨F, hF, hS⟩ := end2 text lim s (s + 2) s 11 outer ((((seen.add 7).add 16).add 16).add 15)
      refine ⟨F, .of rfl (br2 ..) (.of rfl (lit2 _ _ _ _ _ _ _ _ _ 12 13 (by simp)) ?_), by unfold find2; rw [if_neg (by rw [hs]; simp), if_pos hs, if_pos hn]; exact hS⟩
      rw [if_pos ⟨by omega, hs⟩]
      refine .of rfl (lit2 _ _ _ _ _ _ _ _ _ 14 10 (by simp)) ?_
      rw [if_pos ⟨by omega, hn.2⟩]
      exact .of rfl (jmp2 _ _ _ _ _ _ _ _ _ 16 (by simp)) (hF.weak (by omega))
    · have hm : ¬(s + 1 < lim ∧ text.getD (s + 1) 0 = 10) := fun hh => hn ⟨by omega, hh.2⟩
      obtain ⟨F, hF, hS⟩ := end2 text lim s (s + 1) (s + 1) 23 outer ((((((((seen.add 7).add 16).add 16).add 16).add 16).add 5).add 16).add 15)
      refine ⟨F, .of rfl (br2 ..) (.of rfl (lit2 _ _ _ _ _ _ _ _ _ 12 13 (by simp)) ?_), by unfold find2; rw [if_neg (by rw [hs]; simp), if_pos hs, if_neg hn]; exact hS⟩
      rw [if_pos ⟨by omega, hs⟩]
      refine .of rfl (lit2 _ _ _ _ _ _ _ _ _ 14 10 (by simp)) ?_
      rw [if_neg hm]
      refine .of rfl (no2a ..) (.of rfl (lit2 _ _ _ _ _ _ _ _ _ 19 10 (by simp)) ?_)
      rw [if_neg (by rw [hs]; simp)]
      refine .of rfl (no2b ..) (.of rfl (lit2 _ _ _ _ _ _ _ _ _ 24 13 (by simp)) ?_)
      rw [if_pos ⟨by omega, hs⟩]
      refine .of rfl (not2 ..) (.of rfl (lit2 _ _ _ _ _ _ _ _ _ 29 10 (by simp)) ?_)
      rw [if_neg hm]
      exact .of rfl (look2 ..) (.of rfl (jmp2 _ _ _ _ _ _ _ _ _ 32 (by simp)) (hF.weak (by omega)))

/-- the first place that the set lets in -/
noncomputable def adm2 (text : Array Nat) : Nat → Nat → Option Nat
  | 0, _ => none
  | k + 1, s => if text.getD s 0 = 10 ∨ text.getD s 0 = 13 then some s else adm2 text k (s + 1)
theorem inSet2 (c : Nat) (seen : Sre.Seen) : ∃ seen', Sre.inSet cd2 c cd2.size 5 true seen = .ok (decide (c = 10 ∨ c = 13), seen') := by
  have e : Sre.inSet cd2 c cd2.size 5 true seen = if (c == 10) = true then .ok (true, seen.add 16) else if (c == 13) = true then .ok (true, (seen.add 16).add 16) else .ok (false, ((seen.add 16).add 16).add 0) := rfl
  rw [e]
  by_cases h1 : c = 10
  · subst h1; exact ⟨_, rfl⟩
  · by_cases h2 : c = 13
    · subst h2; exact ⟨_, rfl⟩
    · rw [if_neg (by simpa using h1), if_neg (by simpa using h2)]
      exact ⟨((seen.add 16).add 16).add 0, by simp [h1, h2]⟩
theorem admitted2 (m : Sre.M) (hc : m.code = cd2) : ∀ (k s : Nat) (seen : Sre.Seen), s + k = m.lim → ∃ seen', Sre.M.admitted m (k + 1) s seen = .ok (adm2 m.text k s, seen')
  | 0, s, seen, hk => ⟨seen, by unfold Sre.M.admitted; rw [if_pos (by omega)]; rfl⟩
  | k + 1, s, seen, hk => by
    obtain ⟨seen', e⟩ := inSet2 (m.text.getD s 0) seen
    unfold Sre.M.admitted
    rw [if_neg (by omega), hc, e]
    by_cases hq : m.text.getD s 0 = 10 ∨ m.text.getD s 0 = 13
    · refine ⟨seen', ?_⟩
      rw [decide_eq_true hq]; unfold adm2; rw [if_pos hq]
    · obtain ⟨seen'', e'⟩ := admitted2 m hc k (s + 1) seen' (by omega)
      refine ⟨seen'', ?_⟩
      rw [decide_eq_false hq]; unfold adm2; rw [if_neg hq]; exact e'
theorem adm_find (text : Array Nat) : ∀ (k s : Nat), (adm2 text k s = none ∧ find2 text k s = none) ∨ ∃ p j, adm2 text k s = some p ∧ p + (j + 1) = s + k ∧ (text.getD p 0 = 10 ∨ text.getD p 0 = 13) ∧ find2 text k s = find2 text (j + 1) p
  | 0, s => .inl ⟨rfl, rfl⟩
  | k + 1, s => by
    by_cases hq : text.getD s 0 = 10 ∨ text.getD s 0 = 13
    · exact .inr ⟨s, k, by unfold adm2; rw [if_pos hq], rfl, hq, rfl⟩
    · have e1 : adm2 text (k + 1) s = adm2 text k (s + 1) := by rw [adm2, if_neg hq]
      have e2 : find2 text (k + 1) s = find2 text k (s + 1) := by rw [find2, if_neg (fun h => hq (.inl h)), if_neg (fun h => hq (.inr h))]
      rcases adm_find text k (s + 1) with ⟨a, b⟩ | ⟨p, j, a, b, c, d⟩
      · exact .inl ⟨e1.trans a, e2.trans b⟩
      · exact .inr ⟨p, j, e1.trans a, by omega, c, e2.trans d⟩
theorem search2 (text : Array Nat) (start : Nat) (must : Bool) (h : start ≤ text.size) : ∃ F, Ends (3 * text.size + 40) (Sre.forSearch cd2 text 0 start text.size must) F ∧ Said F (find2 text (text.size - start) start) := by
  have e : Sre.forSearch cd2 text 0 start text.size must = if (decide (start > text.size) || decide (text.size - start < 1)) = true then { S2 text text.size start 10 start start true [] 0 (some false) (({} : Sre.Seen).add 14) with lastStart := 0, mustAdvance := must } else
      Sre.M.attemptFrom { S2 text text.size start 10 start start true [] 0 none (({} : Sre.Seen).add 14) with mustAdvance := must } start true := rfl
  rw [e]
  by_cases hs : text.size - start < 1
  · rw [if_pos (by simp [hs])]
    refine ⟨_, .next rfl (.done rfl), ?_⟩
    rw [show text.size - start = 0 by omega]
    rfl
  · rw [if_neg (by simp; omega)]
    obtain ⟨seen', ha⟩ := admitted2 ({ S2 text text.size start 10 start start true [] 0 none (({} : Sre.Seen).add 14) with mustAdvance := must } : Sre.M) rfl (text.size - start) start (({} : Sre.Seen).add 14) (by show start + (text.size - start) = text.size; omega)
    have e2 : Sre.M.attemptFrom { S2 text text.size start 10 start start true [] 0 none (({} : Sre.Seen).add 14) with mustAdvance := must } start true =
        (match adm2 text (text.size - start) start with
        | some s => S2 text text.size s 10 s s true [fStart s true] 1 none seen'
        | none => { S2 text text.size start 10 start start true [] 0 (some false) seen' with mustAdvance := must }) := by
      show (match Sre.M.admitted _ (text.size + 1 - start) start (({} : Sre.Seen).add 14) with | .ok (some s, seen) => _ | .ok (none, seen) => _ | .error why => _) = _
      rw [show text.size + 1 - start = text.size - start + 1 by omega, ha]
      show (match (Except.ok (adm2 text (text.size - start) start, seen') : Except String (Option Nat × Sre.Seen)) with | .ok (some s, seen) => _ | .ok (none, seen) => _ | .error why => _) = _
      cases adm2 text (text.size - start) start <;> rfl
    rw [e2]
    rcases adm_find text (text.size - start) start with ⟨a, b⟩ | ⟨p, j, a, b, c, d⟩
    · rw [a, b]
      exact ⟨_, .next rfl (.done rfl), rfl⟩
    · rw [a, d]
      obtain ⟨F, hF, hS⟩ := try2 text text.size p j true seen' (by omega) c
      exact ⟨F, hF.weak (by omega), hS⟩
end Mine
end
section
open PySem PySem.W PyProof.Rows
open PySem.Builtin PySem.Builtin.Re
namespace Mine
section
variable {M : Model} {A : Around} {E : Value → Shared → Prop} {s : Shared}
theorem wp_drive {F : Sre.M} {Q : Sre.M → Shared → Prop} (hq : Q F s) : ∀ (turns n : Nat) (m : Sre.M), Ends n m F → n < 4 * turns → wpAny M A (reDrive turns m) Q E s
  | 0, n, m, _, h => by omega
  | turns + 1, n, m, e, h => by
    obtain ⟨k, hk, h1, h2⟩ := e
    unfold reDrive
    show wpAny M A (if (Sre.M.runFor 4 m).outcome.isSome = true then pure (Sre.M.runFor 4 m) else do rule "sre.turn"; reDrive turns (Sre.M.runFor 4 m)) Q E s
    by_cases h4 : k ≤ 4
    · have : Sre.M.runFor 4 m = F := by
        have := runFor_add k (4 - k) m
        rw [h1, runFor_done _ h2, show k + (4 - k) = 4 by omega] at this
        exact this
      rw [this, if_pos h2]
      exact wpAny_pure hq
    · have e2 : Sre.M.runFor (k - 4) (Sre.M.runFor 4 m) = F := by rw [← runFor_add, show 4 + (k - 4) = k by omega, h1]
      by_cases ho : (Sre.M.runFor 4 m).outcome.isSome = true
      · rw [runFor_done _ ho] at e2
        rw [e2, if_pos h2]
        exact wpAny_pure hq
      · rw [if_neg ho]
        exact wpAny_bind (wpAny_rule (wp_drive hq turns (n - 4) _ ⟨k - 4, by omega, e2, h2⟩ (by omega)))
theorem wp_runToEnd {n : Nat} {m F : Sre.M} {r : Option (Nat × Nat)} {Q : Option Sre.M → Shared → Prop} (e : Ends n m F) (hn : n < 2 ^ 60) (hS : Said F r)
    (hn' : r = none → Q none s) (hq : ∀ p q, r = some (p, q) → ∀ F : Sre.M, F.start = p → F.handed = q → Q (some F) s) : wpAny M A (reRunToEnd m) Q E s := by
  unfold reRunToEnd
  refine wpAny_bind (wp_drive ?_ _ _ _ e (by omega))
  refine wpAny_bind (wpAny_forIn_list _ (fun _ _ s' => s' = s) _ (fun x rest b s₁ hI => ?_) (fun b s₁ hI => ?_) _ _ rfl)
  · subst hI
    by_cases hh : F.seen.has x = true
    · rw [if_pos hh]; exact wpAny_bind (wpAny_rule (wpAny_pure rfl))
    · rw [if_neg hh]; exact wpAny_pure rfl
  · subst hI
    cases r with
    | none => rw [show F.outcome = _ from hS]; exact wpAny_pure (hn' rfl)
    | some pq => obtain ⟨p, q⟩ := pq; rw [hS.1]; exact wpAny_pure (hq p q rfl F hS.2.1 hS.2.2)
end

structure PatAt (h : Heap) (a : Addr) (cd : Array Nat) : Prop where
  ex : ∃ (o : Obj) (fs : Array Value) (c : Addr) (oc : Obj) (items : Array Value) (n : Nat), h.get? a = some o ∧ o.cls = .type "re.Pattern" ∧ o.data = .fields fs ∧ fs.getD 6 .none = rawInt 0 ∧ fs.getD 2 .none = rawInt 0 ∧ fs.getD 5 .none = .ref c ∧
    h.get? c = some oc ∧ oc.data = .seq items n ∧ (items.map reRawOf).map (·.toNat) = cd
theorem PatAt.up {h h' : Heap} {a : Addr} {cd : Array Nat} (p : PatAt h a cd) (k : Kp h h') : PatAt h' a cd :=
  let ⟨o, fs, c, oc, items, n, h1, h2, h3, h4, h5, h6, h7, h8⟩ := p.ex; ⟨o, fs, c, oc, items, n, k _ _ h1, h2, h3, h4, h5, h6, k _ _ h7, h8⟩
section
variable {M : Model} {A : Around} {E : Value → Shared → Prop} {s : Shared}
theorem wp_target {a : Addr} {cd : Array Nat} {x : Str} {t : Tok} {Q : ReTarget → Shared → Prop} (p : PatAt s.heap a cd) (hq : Q { pattern := .ref a, string := .str x t, code := cd, text := x.cps, kind := 0, groups := 0, pos := 0, lim := x.cps.size } s) :
    wpAny M A (reWholeTarget (.ref a) (.str x t)) Q E s := by
  obtain ⟨o, fs, c, oc, items, n, h1, h2, h3, h4, h5, h6, h7, h8, h9⟩ := p.ex
  unfold reWholeTarget
  refine wpAny_bind (wpAny_fieldsOf h1 h3 ?_)
  show wpAny M A (reTextOf (.str x t) >>= _) Q E s
  refine wpAny_bind (wpAny_pure ?_)
  rw [h4, h6]
  show wpAny M A (reRawItems (.ref c) >>= _) Q E s
  refine wpAny_bind (wpAny_bind (wpAny_seqItems h7 h8 ?_))
  refine wpAny_pure (wpAny_pure ?_)
  show Q { pattern := .ref a, string := .str x t, code := (items.map reRawOf).map (·.toNat), text := x.cps, kind := 0, groups := reRawNat (fs.getD 2 .none), pos := 0, lim := x.cps.size } s
  rw [h9, h5]
  exact hq
end
/-- what the search finds -/
structure Finds (cd : Array Nat) (find : Array Nat → Nat → Nat → Option (Nat × Nat)) : Prop where
  run : ∀ (text : Array Nat) (start : Nat) (must : Bool), start ≤ text.size → ∃ F, Ends (3 * text.size + 40) (Sre.forSearch cd text 0 start text.size must) F ∧ Said F (find text (text.size - start) start)
  ok : ∀ (text : Array Nat) (k s p e : Nat), find text k s = some (p, e) → s ≤ p ∧ p < e ∧ e ≤ s + k
noncomputable def subGo (find : Array Nat → Nat → Nat → Option (Nat × Nat)) (text : Array Nat) (repl : List Nat) : Nat → Nat → List Nat
  | 0, d => text.toList.drop d
  | f + 1, d => match find text (text.size - d) d with
    | none => text.toList.drop d
    | some (p, e) => (text.toList.drop d).take (p - d) ++ repl ++ subGo find text repl f e

noncomputable def flat (l : List (Str × Tok)) : List Nat := l.flatMap fun p => p.1.cps.toList
theorem flat_snoc (l : List (Str × Tok)) (x : Str) (t : Tok) : flat (l ++ [(x, t)]) = flat l ++ x.cps.toList := by simp [flat]
theorem ext_drop (text : Array Nat) (d e : Nat) : (text.extract d e).toList = (text.toList.drop d).take (e - d) := by
  simp [Array.toList_extract, List.extract_eq_take_drop]
/-- all but the object L as it was -/
noncomputable def Off (L : Addr) (s s' : Shared) : Prop := SR s s' ∧ ∀ b o, b ≠ L → s.heap.get? b = some o → s'.heap.get? b = some o
theorem Off.refl {L : Addr} {s : Shared} : Off L s s := ⟨⟨rfl, rfl, rfl⟩, fun _ _ _ e => e⟩
theorem Off.tr {L : Addr} {s s' s'' : Shared} (a : Off L s s') (b : Off L s' s'') : Off L s s'' := ⟨⟨b.1.1.trans a.1.1, b.1.2.1.trans a.1.2.1, b.1.2.2.trans a.1.2.2⟩, fun c o h e => b.2 c o h (a.2 c o h e)⟩
theorem Off.tok {L : Addr} {s : Shared} {k : Nat} : Off L s { s with toks := k } := ⟨⟨rfl, rfl, rfl⟩, fun _ _ _ e => e⟩
theorem Off.write {L : Addr} {s : Shared} {f : Obj → Obj} : Off L s { s with heap := s.heap.update L f } := ⟨⟨rfl, rfl, rfl⟩, fun b o h e => by
  rw [(Heap.SameBut.update ..).2 b h]; exact e⟩
theorem Off.kp {L : Addr} {s s' : Shared} {h0 : Heap} (k : Off L s s') (h : h0.get? L = none) (q : Kp h0 s.heap) : Kp h0 s'.heap := fun b o e => k.2 b o (fun hb => by subst hb; rw [h] at e; cases e) (q b o e)
theorem lo_push {h : Heap} {L : Addr} {vs : List Value} {n : Nat} {v : Value} (hg : h.get? L = some (LO vs n)) : ∃ n', (h.update L (Obj.mapSeq (·.push v))).get? L = some (LO (vs ++ [v]) n') := by
  refine ⟨if vs.toArray.size + 1 == vs.toArray.size then n else n + 1, ?_⟩
  rw [Heap.get?_update_self _ hg (by unfold LO Obj.mapSeq; rfl)]
  unfold LO Obj.mapSeq
  simp
theorem strValues_snoc (acc : List (Str × Tok)) (x : Str) (t : Tok) : strValues acc ++ [.str x t] = strValues (acc ++ [(x, t)]) := by simp [strValues]
theorem join_flat (acc : List (Str × Tok)) : Txt.join ⟨#[]⟩ (acc.map (·.1)) = ⟨(flat acc).toArray⟩ := by
  show Builtin.Str.glued _ _ = _
  unfold Builtin.Str.glued
  cases acc with
  | nil => rfl
  | cons p r =>
    have : ∀ (r : List (Str × Tok)) (a : Array Nat), (r.map (·.1)).foldl (fun acc p => acc ++ (#[] : Array Nat) ++ p.cps) a = a ++ (flat r).toArray := by
      intro r
      induction r with
      | nil => intro a; simp [flat]
      | cons q r ih => intro a; simp only [List.map_cons, List.foldl_cons]; rw [ih]; apply Array.toList_inj.mp; simp [flat]
    simp only [List.map_cons, List.drop_succ_cons, List.drop_zero, List.headD_cons]
    rw [this]
    simp [flat]
theorem join_ok (acc : List (Str × Tok)) (h : (flat acc).length ≤ sizeLine) : JoinOk ⟨#[]⟩ (acc.map (·.1)) = true := by
  have : ∀ (l : List (Str × Tok)) (k : Nat), (l.map (·.1)).foldl (fun a (p : Str) => a + p.length + Str.length ⟨#[]⟩) k = k + (flat l).length := by
    intro l
    induction l with
    | nil => intro k; simp [flat]
    | cons q r ih => intro k; simp only [List.map_cons, List.foldl_cons]; rw [ih]; simp [flat, Str.length]; omega
  unfold JoinOk Builtin.Str.tooLong
  rw [List.foldl_toArray', this]
  simp; omega
  all_goals simp
theorem drop_take (text : Array Nat) {d e : Nat} : ((text.toList.drop d).take (e - d)).length ≤ e - d := by simp; omega

theorem plain_sub_loop : plainId "re.Pattern.sub.loop" = true := by decide +kernel
theorem entry_sub_loop : entryFor table "re.Pattern.sub.loop" = some Builtin.«re.Pattern.sub.loop» := entryFor_of_tree (by kernel_rfl)
theorem sub_loop {cd : Array Nat} {find : Array Nat → Nat → Nat → Option (Nat × Nat)} (fd : Finds cd find) {h0 : Heap} {a L : Addr} (P : PatAt h0 a cd) (hL : h0.get? L = none) (x repl : Str) (t u : Tok) (hx : x.cps.size ≤ 100000) (hr : repl.cps.size ≤ 2) :
    ∀ (f d : Nat) (n : Int) (must : Bool) (acc : List (Str × Tok)) (m : Nat), x.cps.size - d < f → d ≤ x.cps.size → (flat acc).length ≤ 3 * d → acc.length ≤ 2 * d →
    Meets (Builtin.«re.Pattern.sub.loop» ⟨[.ref a, .str x t, .str repl u, rawInt 0, rawInt 0, rawInt n, rawInt d, rawInt d, .bool must, .ref L, .bool false], []⟩)
      (fun A R s => Kp h0 s.heap ∧ s.heap.get? L = some (LO (strValues acc) m) ∧ ∀ t' s', Off L s s' → R (.ok (.ret (.str ⟨(flat acc ++ subGo find x.cps repl.cps.toList f d).toArray⟩ t'))) s')
  | 0, d, n, must, acc, m, hf, _, _, _ => by omega
  | f + 1, d, n, must, acc, m, hf, hd, hl, hc => by
    rintro prog w A R s ⟨hk, hg, hq⟩
    obtain ⟨F, hF, hS⟩ := fd.run x.cps d must hd
    unfold Builtin.«re.Pattern.sub.loop»
    refine wpAny_bind (wp_target (P.up hk) ?_)
    refine wpAny_bind (wpAny_bind (wpAny_pure (wpAny_pure ?_)))
    show wpAny _ _ (reNextFound _ ((d : Nat) : Int).toNat must >>= _) _ _ s
    have hsz : (strValues acc).toArray.size = acc.length := by simp [strValues]
    refine wpAny_bind (wp_runToEnd hF (by omega) hS (fun hr2 => ?_) fun p e hr2 => ?_)
    · --
      have e2 : subGo find x.cps repl.cps.toList (f + 1) d = x.cps.toList.drop d := by rw [subGo, hr2]
      rw [e2] at hq
      have fin : ∀ (acc' : List (Str × Tok)) (m' : Nat) (s1 : Shared), Off L s s1 → s1.heap.get? L = some (LO (strValues acc') m') → flat acc' = flat acc ++ x.cps.toList.drop d →
          wpAny (model prog w) A.in1 (do
            let joiner ← reSlice x.cps 0 0 0
            let text ← if ((← seqItems? (.ref L)).getD #[]).isEmpty then pure joiner else call (.builtin "str.join") [joiner, .ref L]
            ret text) (fun fin s' => match fin with | .done f => R (.ok f) s' | .again c' => c'.quiet = true ∧ codeAny (model prog w) A c' R s') (fun e s' => R (.error e) s') s1 := by
        intro acc' m' s1 ho hg1 hfl
        rw [← hfl] at hq
        refine wpAny_bind (wpAny_mkStr ?_ (by show (x.cps.extract 0 0).size ≤ _; simp))
        refine wpAny_bind (wpAny_seqItems hg1 rfl ?_)
        have hempty : (⟨x.cps.extract 0 0⟩ : Str) = ⟨#[]⟩ := by simp
        rw [hempty]
        cases acc' with
        | nil =>
          show wpAny _ _ (pure (Value.str ⟨#[]⟩ s1.toks) >>= _) _ _ _
          refine wpAny_bind (wpAny_pure (wpAny_pure ?_))
          exact hq _ _ (ho.tr .tok)
        | cons p r =>
          show wpAny _ _ (call (.builtin "str.join") [.str ⟨#[]⟩ s1.toks, .ref L] >>= _) _ _ _
          refine wpAny_bind (SC.join (l := p :: r) (lo_isList (vs := strValues (p :: r)) hg1) rfl (join_ok _ ?_) fun t' k => wpAny_pure ?_)
          · rw [hfl]; simp; have := sizeLine; unfold sizeLine; omega
          · rw [join_flat]
            exact hq _ _ ((ho.tr .tok).tr .tok)
      by_cases hdl : d < x.cps.size
      · show wpAny _ _ (if ((d : Nat) : Int).toNat < x.cps.size then (do let v ← reSlice x.cps 0 ((d : Nat) : Int).toNat x.cps.size; let _ ← updateSeq L (·.push v); _) else _) _ _ s
        rw [if_pos (show ((d : Nat) : Int).toNat < x.cps.size from hdl)]
        refine wpAny_bind (wpAny_mkStr ?_ (by show (x.cps.extract d x.cps.size).size ≤ _; simp; unfold sizeLine; omega))
        refine wpAny_bind (wpAny_updateSeq hg rfl ?_ (by rw [hsz]; unfold sizeLine; omega) (by rw [Array.size_push, hsz]; unfold sizeLine; omega))
        obtain ⟨m', hg'⟩ := lo_push (v := .str ⟨x.cps.extract d x.cps.size⟩ s.toks) hg
        rw [strValues_snoc] at hg'
        refine fin _ m' _ ((Off.tok (k := s.toks + 1)).tr (.write (f := Obj.mapSeq (·.push (.str ⟨x.cps.extract d x.cps.size⟩ s.toks))))) hg' ?_
        rw [flat_snoc, ext_drop]
        rw [List.take_of_length_le (by simp)]
      · show wpAny _ _ (if ((d : Nat) : Int).toNat < x.cps.size then _ else _) _ _ s
        rw [if_neg (show ¬((d : Nat) : Int).toNat < x.cps.size from hdl)]
        refine fin acc m s .refl hg ?_
        rw [List.drop_of_length_le (by simpa using hdl)]; simp
    · intro F' hp he
      obtain ⟨o1, o2, o3⟩ := fd.ok _ _ _ _ _ hr2
      have e2 : subGo find x.cps repl.cps.toList (f + 1) d = (x.cps.toList.drop d).take (p - d) ++ repl.cps.toList ++ subGo find x.cps repl.cps.toList f e := by rw [subGo, hr2]
      rw [e2] at hq
      have fin : ∀ (acc' : List (Str × Tok)) (m' : Nat) (s1 : Shared), Off L s s1 → s1.heap.get? L = some (LO (strValues acc') m') → flat acc' = flat acc ++ (x.cps.toList.drop d).take (p - d) → acc'.length ≤ acc.length + 1 →
          wpAny (model prog w) A.in1 (do
            let _ ← updateSeq L (·.push (.str repl u))
            again (.builtin "re.Pattern.sub.loop" ⟨[.ref a, .str x t, .str repl u, rawInt 0, rawInt 0, rawInt (n + 1), rawInt (F'.handed : Nat), rawInt (F'.handed : Nat), .bool (F'.handed == F'.start), .ref L, .bool false], []⟩))
            (fun fin s' => match fin with | .done f => R (.ok f) s' | .again c' => c'.quiet = true ∧ codeAny (model prog w) A c' R s') (fun e s' => R (.error e) s') s1 := by
        intro acc' m' s1 ho hg1 hfl hln
        have hsz' : (strValues acc').toArray.size = acc'.length := by simp [strValues]
        have hdt := drop_take x.cps (d := d) (e := p)
        refine wpAny_bind (wpAny_updateSeq hg1 rfl ?_ (by rw [hsz']; unfold sizeLine; omega) (by rw [Array.size_push, hsz']; unfold sizeLine; omega))
        obtain ⟨m2, hg2⟩ := lo_push (v := .str repl u) hg1
        rw [strValues_snoc] at hg2
        rw [he]
        refine wpAny_pure ⟨plainId_quiet plain_sub_loop _, codeAny_builtin entry_sub_loop ?_⟩
        rw [Around.under_plainId plain_sub_loop]
        have ho2 : Off L s { s1 with heap := s1.heap.update L (Obj.mapSeq (·.push (.str repl u))) } := ho.tr .write
        refine sub_loop fd P hL x repl t u hx hr f e (n + 1) _ (acc' ++ [(repl, u)]) m2 (by omega) (by omega) ?_ ?_ prog w A R _ ⟨ho2.kp hL hk, hg2, fun t' s' ho3 => ?_⟩
        · have hrl : repl.cps.toList.length ≤ 2 := by simpa using hr
          rw [flat_snoc, hfl, List.length_append, List.length_append]; omega
        · rw [List.length_append, List.length_singleton]; omega
        · have := hq t' s' (ho2.tr ho3)
          rw [flat_snoc, hfl, List.append_assoc, List.append_assoc]
          rw [List.append_assoc] at this
          exact this
      by_cases hdl : d < p
      · show wpAny _ _ (if ((d : Nat) : Int).toNat < F'.start then (do let v ← reSlice x.cps 0 ((d : Nat) : Int).toNat F'.start; let _ ← updateSeq L (·.push v); _) else _) _ _ s
        rw [hp, if_pos (show ((d : Nat) : Int).toNat < p from hdl)]
        refine wpAny_bind (wpAny_mkStr ?_ (by show (x.cps.extract d p).size ≤ _; simp; unfold sizeLine; omega))
        refine wpAny_bind (wpAny_updateSeq hg rfl ?_ (by rw [hsz]; unfold sizeLine; omega) (by rw [Array.size_push, hsz]; unfold sizeLine; omega))
        obtain ⟨m', hg'⟩ := lo_push (v := .str ⟨x.cps.extract d p⟩ s.toks) hg
        rw [strValues_snoc] at hg'
        have := fin _ m' { s with toks := s.toks + 1, heap := s.heap.update L (Obj.mapSeq (·.push (.str ⟨x.cps.extract d p⟩ s.toks))) } ((Off.tok (k := s.toks + 1)).tr (.write (f := Obj.mapSeq (·.push (.str ⟨x.cps.extract d p⟩ s.toks))))) hg' (by rw [flat_snoc, ext_drop]) (by simp)
        rw [hp] at this
        exact this
      · show wpAny _ _ (if ((d : Nat) : Int).toNat < F'.start then _ else _) _ _ s
        rw [hp, if_neg (show ¬((d : Nat) : Int).toNat < p from hdl)]
        have := fin acc m s .refl hg (by rw [show p - d = 0 by omega]; simp) (by omega)
        rw [hp] at this
        exact this
end Mine
end
section
open PySem PySem.W PyProof.Rows
open PySem.Builtin PySem.Builtin.Re
namespace Mine
theorem plainAttrs_pat : PlainAttrs "re.Pattern" :=
  ⟨⟨"object.__getattribute__", by rw [typeLookup_type, builtinLookup_eq_fast]; kernel_rfl, by decide +kernel⟩, by rw [typeLookup_type, builtinLookup_eq_fast]; kernel_rfl⟩
theorem slot_sub : Slot "re.Pattern" (Str.ofString "sub") "re.Pattern.sub" :=
  .of (owner := "re.Pattern") (n := "sub") (by rw [typeLookup_type, builtinLookup_eq_fast]; kernel_rfl) (by decide +kernel) (by decide +kernel) (by decide +kernel)
    (by first | exact .inl (by decide +kernel) | exact .inr (by decide +kernel)) (by rw [isSubtype_type]; kernel_rfl)
theorem type_sub : typeOf (.builtin "re.Pattern.sub") = pure (.type "method_descriptor") := by show builtinType _ = _; rw [builtinType_eq_fast]; kernel_rfl
theorem entry_sub : entryFor table "re.Pattern.sub" = some Builtin.«re.Pattern.sub» := entryFor_of_tree (by kernel_rfl)
theorem args_sub (a b c : Value) : argsOk "re.Pattern.sub" ⟨[a, b, c], []⟩ := by
  unfold argsOk
  kernel_rfl
theorem look_call_str : typeLookup (.type "str") (Str.ofString "__call__") = pure none := by rw [typeLookup_type, builtinLookup_eq_fast]; kernel_rfl
theorem named_sub (r x : Value) : reNamed "re.Pattern.sub" "sub" ["repl", "string", "count"] 2 [r, x] [] = pure [some r, some x, none] := rfl

theorem sub_meets {cd : Array Nat} {find : Array Nat → Nat → Nat → Option (Nat × Nat)} (fd : Finds cd find) {h0 : Heap} {a : Addr} (P : PatAt h0 a cd) (x repl : Str) (t u : Tok) (hx : x.cps.size ≤ 100000) (hr : repl.cps.size ≤ 2) (hb : repl.cps.contains 92 = false) :
    Meets (Builtin.«re.Pattern.sub» ⟨[.ref a, .str repl u, .str x t], []⟩)
      (fun A R s => Kp h0 s.heap ∧ ∀ t' s', Kps s s' → R (.ok (.ret (.str ⟨(subGo find x.cps repl.cps.toList (x.cps.size + 1) 0).toArray⟩ t'))) s') := by
  rintro prog w A R s ⟨hk, hq⟩
  show wpAny _ _ (reNamed "re.Pattern.sub" "sub" ["repl", "string", "count"] 2 [.str repl u, .str x t] [] >>= _) _ _ s
  rw [named_sub]
  refine wpAny_bind (wpAny_pure ?_)
  refine wpAny_bind (wpAny_pure ?_)
  refine wpAny_bind (wpAny_specialOf (typeIs_str _ _ _) look_call_str ?_)
  show wpAny _ _ (asStr? (.str repl u) >>= _) _ _ s
  refine wpAny_bind (wpAny_pure ?_)
  refine wpAny_bind (wpAny_pure ?_)
  rw [hb]
  refine wpAny_bind (wpAny_pure ?_)
  refine wpAny_bind (wpAny_holding (wp_target (P.up hk) ?_))
  refine wpAny_bind (wpAny_newList ?_)
  refine wpAny_pure ⟨plainId_quiet plain_sub_loop _, codeAny_builtin entry_sub_loop ?_⟩
  rw [Around.under_plainId plain_sub_loop]
  have hLn : s.heap.get? s.heap.objs.size = none := by simp [Heap.get?]
  have hk1 : Kp s.heap (s.heap.push { cls := .type "list", data := .seq #[] }) := kp_push
  refine sub_loop fd (P.up hk) (L := s.heap.objs.size) hLn x repl t u hx hr (x.cps.size + 1) 0 0 false [] 0 (by omega) (by omega) (by simp [flat]) (by simp) prog w A R _ ⟨hk1, Heap.get?_push_size _ rfl, fun t' s' ho => ?_⟩
  refine hq t' s' (SR.kps (s := s) ⟨ho.1.1, ho.1.2.1, ho.1.2.2⟩ fun b o e => ho.2 b o (fun hb => by subst hb; rw [hLn] at e; cases e) (hk1 b o e))

/-- each line's end made a return and a feed -/
noncomputable def crlf : List Nat → List Nat
  | [] => []
  | 13 :: 10 :: r => 13 :: 10 :: crlf r
  | 13 :: r => 13 :: 10 :: crlf r
  | 10 :: r => 13 :: 10 :: crlf r
  | c :: r => c :: crlf r
/-- a dot more for each dot that opens a line -/
noncomputable def dots : Bool → List Nat → List Nat
  | _, [] => []
  | b, c :: r => (if b && c == 46 then [46, 46] else [c]) ++ dots (c == 10) r
noncomputable def quoted (l : List Nat) : List Nat := dots true (crlf l)

noncomputable def f1 (text : Array Nat) (k s : Nat) : Option (Nat × Nat) := (find1 text k s).map fun p => (p, p + 1)
theorem find1_ok (text : Array Nat) : ∀ (k s p : Nat), find1 text k s = some p → s ≤ p ∧ p < s + k ∧ ok1 text p = true
  | 0, s, p, h => by cases h
  | k + 1, s, p, h => by
    unfold find1 at h
    split at h
    · cases h; exact ⟨by omega, by omega, by assumption⟩
    · have := find1_ok text k (s + 1) p h
      exact ⟨by omega, by omega, this.2.2⟩
theorem finds1 : Finds cd1 f1 := ⟨fun text start must h => let ⟨F, a, b⟩ := search1 text start must h; ⟨F, a.weak (by omega), b⟩, fun text k s p e h => by
  unfold f1 at h
  cases hf : find1 text k s with
  | none => rw [hf] at h; cases h
  | some q =>
    rw [hf] at h; cases h
    have := find1_ok text k s _ hf
    omega⟩
theorem find2_ok (text : Array Nat) : ∀ (k s p e : Nat), find2 text k s = some (p, e) → s ≤ p ∧ p < e ∧ e ≤ s + k
  | 0, s, p, e, h => by cases h
  | k + 1, s, p, e, h => by
    unfold find2 at h
    split at h
    · cases h; omega
    · split at h
      · split at h <;> cases h <;> omega
      · have := find2_ok text k (s + 1) p e h
        omega
theorem finds2 : Finds cd2 find2 := ⟨fun text start must h => search2 text start must h, find2_ok⟩

theorem getD_drop (text : Array Nat) {s k : Nat} (h : s + (k + 1) = text.size) : text.toList.drop s = text.getD s 0 :: text.toList.drop (s + 1) := by
  have hs : s < text.toList.length := by simp; omega
  rw [List.drop_eq_getElem_cons hs]
  simp [Array.getD, show s < text.size by omega]
theorem crlf_find (text : Array Nat) : ∀ (k s : Nat), s + k = text.size → crlf (text.toList.drop s) = match find2 text k s with
    | none => text.toList.drop s
    | some (p, e) => (text.toList.drop s).take (p - s) ++ [13, 10] ++ crlf (text.toList.drop e)
  | 0, s, h => by rw [List.drop_of_length_le (by simp; omega)]; rfl
  | k + 1, s, h => by
    have e1 := getD_drop text h
    by_cases h10 : text.getD s 0 = 10
    · rw [find2, if_pos h10, e1, h10]; simp [crlf]
    · by_cases h13 : text.getD s 0 = 13
      · rw [find2, if_neg h10, if_pos h13]
        by_cases hn : 1 ≤ k ∧ text.getD (s + 1) 0 = 10
        · obtain ⟨k', rfl⟩ : ∃ k', k = k' + 1 := ⟨k - 1, by omega⟩
          have e2 := getD_drop text (s := s + 1) (k := k') (by omega)
          rw [if_pos hn, e1, h13, e2, hn.2]
          simp [crlf]
        · rw [if_neg hn, e1, h13]
          show crlf (13 :: text.toList.drop (s + 1)) = (13 :: text.toList.drop (s + 1)).take (s - s) ++ [13, 10] ++ crlf (text.toList.drop (s + 1))
          rw [Nat.sub_self]
          by_cases hk : k = 0
          · rw [List.drop_of_length_le (by simp; omega)]; rfl
          · obtain ⟨k', rfl⟩ : ∃ k', k = k' + 1 := ⟨k - 1, by omega⟩
            have e2 := getD_drop text (s := s + 1) (k := k') (by omega)
            rw [e2, crlf]
            · rfl
            · intro r he
              exact hn ⟨by omega, (List.cons.inj he).1⟩
      · rw [find2, if_neg h10, if_neg h13, e1]
        have ih := crlf_find text k (s + 1) (by omega)
        have : crlf (text.getD s 0 :: text.toList.drop (s + 1)) = text.getD s 0 :: crlf (text.toList.drop (s + 1)) := by
          rw [crlf]
          · intro r he; exact fun _ => h13 he
          · exact h13
          · exact h10
        rw [this, ih]
        cases hf : find2 text k (s + 1) with
        | none => rfl
        | some pe =>
          obtain ⟨p, e⟩ := pe
          have := find2_ok text k (s + 1) p e hf
          show _ = (text.getD s 0 :: text.toList.drop (s + 1)).take (p - s) ++ [13, 10] ++ crlf (text.toList.drop e)
          rw [show p - s = p - (s + 1) + 1 by omega]
          rfl
noncomputable def lineAt (text : Array Nat) (s : Nat) : Bool := s == 0 || text.getD (s - 1) 0 == 10
theorem dots_find (text : Array Nat) : ∀ (k s : Nat), s + k = text.size → dots (lineAt text s) (text.toList.drop s) = match f1 text k s with
    | none => text.toList.drop s
    | some (p, e) => (text.toList.drop s).take (p - s) ++ [46, 46] ++ dots (lineAt text e) (text.toList.drop e)
  | 0, s, h => by rw [List.drop_of_length_le (by simp; omega)]; rfl
  | k + 1, s, h => by
    have e1 := getD_drop text h
    have e3 : (text.getD s 0 == 10) = lineAt text (s + 1) := by simp [lineAt]
    rw [e1]
    by_cases hk : ok1 text s = true
    · have hk' := hk
      unfold ok1 at hk'
      rw [Bool.and_eq_true] at hk'
      rw [f1, find1, if_pos hk, dots, lineAt, hk'.1, hk'.2, e3]
      simp
    · have hc : (lineAt text s && text.getD s 0 == 46) = false := by simpa [ok1, lineAt] using hk
      have ih := dots_find text k (s + 1) (by omega)
      rw [f1, find1, if_neg hk, dots, hc, e3, ih]
      show _ = match f1 text k (s + 1) with | none => _ | some (p, e) => _
      cases hf : f1 text k (s + 1) with
      | none => rfl
      | some pe =>
        obtain ⟨p, e⟩ := pe
        have := finds1.ok text k (s + 1) p e hf
        show _ = (text.getD s 0 :: text.toList.drop (s + 1)).take (p - s) ++ [46, 46] ++ dots (lineAt text e) (text.toList.drop e)
        rw [show p - s = p - (s + 1) + 1 by omega]
        rfl
theorem sub_crlf (text : Array Nat) : ∀ (f d : Nat), d ≤ text.size → text.size - d < f → subGo find2 text [13, 10] f d = crlf (text.toList.drop d)
  | 0, d, _, h => by omega
  | f + 1, d, hd, h => by
    rw [subGo, crlf_find text (text.size - d) d (by omega)]
    cases hf : find2 text (text.size - d) d with
    | none => rfl
    | some pe =>
      obtain ⟨p, e⟩ := pe
      have := find2_ok _ _ _ _ _ hf
      show _ ++ subGo find2 text [13, 10] f e = _
      rw [sub_crlf text f e (by omega) (by omega)]
theorem sub_dots (text : Array Nat) : ∀ (f d : Nat), d ≤ text.size → text.size - d < f → subGo f1 text [46, 46] f d = dots (lineAt text d) (text.toList.drop d)
  | 0, d, _, h => by omega
  | f + 1, d, hd, h => by
    rw [subGo, dots_find text (text.size - d) d (by omega)]
    cases hf : f1 text (text.size - d) d with
    | none => rfl
    | some pe =>
      obtain ⟨p, e⟩ := pe
      have := finds1.ok _ _ _ _ _ hf
      show _ ++ subGo f1 text [46, 46] f e = _
      rw [sub_dots text f e (by omega) (by omega)]
end Mine
end
section
open PySem PySem.W PyProof.Rows
open PySem.Builtin PySem.Builtin.Re
namespace Mine
section
variable {prog : Program} {w : World} {A : Around} {env : Env} {h hb : Heap} {X : List Addr} {mg mb : Str → Option Value} {σ : Sg} {s s0 : Shared}

theorem ev_sub {cd : Array Nat} {find : Array Nat → Nat → Nat → Option (Nat × Nat)} {p : Str} {np apos pos : Pos} {e1 e2 : Expr} {a : Addr} {x repl : Str} (fd : Finds cd find) (eo : EnvOk env) (hx : env.kindOf p = some .globalImplicit) (g : Gl mg mb h) (hp : mg p = some (.ref a)) (P : PatAt h a cd) (hdict : ∃ ob, h.get? a = some ob ∧ ob.dict = none)
    (h1 : Gv prog w A h X (eval e1 env) (.str repl)) (h2 : Gv prog w A h X (eval e2 env) (.str x)) (hz : x.cps.size ≤ 100000) (hr : repl.cps.size ≤ 2) (hb : repl.cps.contains 92 = false)
    (hbase : attributeBase (.Name p np) (Str.ofString "sub") env (eval (.Name p np) env) = eval (.Name p np) env := by rfl) (hs : starEach [e1, e2] env = [(false, eval e1 env), (false, eval e2 env)] := by rfl) (hline : (apos.endLine == pos.line) = true := by rfl)
    (hdb : (p == ("__debug__" : Str)) = false := by decide) :
    Gv prog w A h X (eval (.Call (.Attribute (.Name p np) (Str.ofString "sub") apos) [e1, e2] [] pos) env) (.str ⟨(subGo find x.cps repl.cps.toList (x.cps.size + 1) 0).toArray⟩) := fun hX s Q E hk hQ => by
  obtain ⟨ob, hob, hod⟩ := hdict
  have hty : ∀ s' : Shared, Kp h s'.heap → s'.TypeIs (.ref a) "re.Pattern" := fun s' k => let ⟨o, fs, c, oc, items, n, h1, h2, _⟩ := P.ex; ⟨o, k _ _ h1, h2⟩
  refine Call_method2 hbase hs hline (wp_glob eo hx (g.up hk) hp ⟨"re.Pattern", "re.Pattern.sub", plainAttrs_pat, slot_sub, type_sub, hty s hk, fun b e => by cases e; exact ⟨ob, hk _ _ hob, hod⟩, ?_⟩ hdb)
  refine Calls.callWith_builtin rfl (Calls.evalArgs_plain (Calls.spliced_cons (h1 hX s _ _ hk fun v1 s1 k1 r1 => Calls.spliced_cons (h2 hX s1 _ _ (hk.trans k1.kp) fun v2 s2 k2 r2 => Calls.spliced_nil ?_))))
  obtain ⟨u, rfl⟩ := r1
  obtain ⟨t, rfl⟩ := r2
  have hk2 := hk.trans (k1.kp.trans k2.kp)
  exact call_meets slot_sub (hty s2 hk2) entry_sub (args_sub _ _ _) (sub_meets fd P x repl t u hz hr hb) ⟨hk2, fun t' s' k3 => hQ _ _ (k1.tr (k2.tr k3)) ⟨_, rfl⟩⟩
theorem sub_is_crlf (x : Str) : subGo find2 x.cps [13, 10] (x.cps.size + 1) 0 = crlf x.cps.toList := by
  rw [sub_crlf x.cps _ 0 (by omega) (by omega)]; rfl
theorem sub_is_dots (x : Str) : subGo f1 x.cps [46, 46] (x.cps.size + 1) 0 = dots true x.cps.toList := by
  rw [sub_dots x.cps _ 0 (by omega) (by omega)]; rfl
theorem crlf_len : ∀ (l : List Nat), (crlf l).length ≤ 2 * l.length := by
  intro l
  induction l using crlf.induct <;> simp_all [crlf] <;> omega
end
end Mine
end
section
open PySem PySem.W PyProof.Rows
namespace Mine
section
variable {prog : Program} {w : World} {A : Around} {env : Env} {h hb : Heap} {X : List Addr} {mg mb : Str → Option Value} {σ : Sg} {s s0 : Shared}

theorem up_sg0 {fv : List (Str × D)} {x : Str} {d : D} (hxf : fv.lookup x = none) : ∀ y sl, sg0 fv y = some sl → upd (sg0 fv) x (.d d) y = some sl := fun y sl e => by
  by_cases hy : y = x
  · subst hy; unfold sg0 at e; rw [hxf] at e; cases e
  · rw [upd_ne hy]; exact e
theorem fv_sg0 {fv : List (Str × D)} {n : Str} {d : D} (h : fv.lookup n = some d) : sg0 fv n = some (.d d) := by unfold sg0; rw [h]; rfl

theorem ev_comp1 {x : Str} {px : Pos} {elt iter : Expr} {ifs : List Expr} {scope : Scope} {pos : Pos} {items : List D} (p : D → Bool) (fe : D → D) (fv : List (Str × D)) (hA : A.handled = none) (eo : EnvOk env)
    (hv : ∀ n d, fv.lookup n = some d → Var env h X n d ∧ env.kindOf n ≠ some .local) (hi : Gi prog w A h X env iter items) (hz : items.length ≤ sizeLine)
    (hx : scope.names.lookup x = some .local ∨ scope.names.lookup x = some .cell) (hxf : fv.lookup x = none)
    (htest : ∀ (cenv : Env) (h' : Heap) (X' : List Addr) (d : D), d ∈ items → EnvOk cenv → KN scope cenv → Kp h h' → Var cenv h' X' x d → (∀ n d', fv.lookup n = some d' → Var cenv h' X' n d') → Gt prog w A h' X' cenv ifs (p d))
    (helt : ∀ (cenv : Env) (h' : Heap) (X' : List Addr) (d : D), d ∈ items → p d = true → EnvOk cenv → KN scope cenv → Kp h h' → Var cenv h' X' x d → (∀ n d', fv.lookup n = some d' → Var cenv h' X' n d') → Gv prog w A h' X' (eval elt cenv) (fe d))
    (hc : ∀ y ∈ scope.names, y.2 = .free → (y.1 == ("__classdict__" : Str)) = false ∧ ∃ d, fv.lookup y.1 = some d)
    (hfv : ∀ n d, fv.lookup n = some d → scope.names.lookup n = some .free)
    (hkind : scope.kind = .function := by rfl) (hdist : ∀ y ∈ scope.names, scope.names.lookup y.1 = some y.2 := by decide +kernel)
    (hs : ∀ x, foldedSetIterable iter env x = pure x := by intro _; rfl) :
    Gv prog w A h X (eval (.ListComp elt [⟨.Name x px, iter, ifs, 0⟩] scope pos) env) (.lst ((items.filter p).map fe)) :=
  ev_comp (σ1 := fun d => upd (sg0 fv) x (.d d)) hA eo hv hi hz (fun cenv hb' X' s' s0 d v I E' hd fm sto q r hI => asg_name fm (sto x hx) q r) (fun d => up_sg0 hxf)
    (fun cenv h' X' d hd eo' kn kp hvar => htest cenv h' X' d hd eo' kn kp (hvar _ _ upd_self_eq) fun n d' e => hvar n d' (up_sg0 hxf _ _ (fv_sg0 e)))
    (fun cenv h' X' d hd hp eo' kn kp hvar => helt cenv h' X' d hd hp eo' kn kp (hvar _ _ upd_self_eq) fun n d' e => hvar n d' (up_sg0 hxf _ _ (fv_sg0 e))) hkind hdist hc hfv hs
theorem filter_true {α : Type} (l : List α) : l.filter (fun _ => true) = l := by simp
/-- [elt for x in iter] -/
theorem ev_compn {x : Str} {px : Pos} {elt iter : Expr} {scope : Scope} {pos : Pos} {items : List D} (fe : D → D) (fv : List (Str × D)) (hA : A.handled = none) (eo : EnvOk env)
    (hv : ∀ n d, fv.lookup n = some d → Var env h X n d ∧ env.kindOf n ≠ some .local) (hi : Gi prog w A h X env iter items) (hz : items.length ≤ sizeLine)
    (hx : scope.names.lookup x = some .local ∨ scope.names.lookup x = some .cell) (hxf : fv.lookup x = none)
    (helt : ∀ (cenv : Env) (h' : Heap) (X' : List Addr) (d : D), d ∈ items → EnvOk cenv → KN scope cenv → Kp h h' → Var cenv h' X' x d → (∀ n d', fv.lookup n = some d' → Var cenv h' X' n d') → Gv prog w A h' X' (eval elt cenv) (fe d))
    (hc : ∀ y ∈ scope.names, y.2 = .free → (y.1 == ("__classdict__" : Str)) = false ∧ ∃ d, fv.lookup y.1 = some d)
    (hfv : ∀ n d, fv.lookup n = some d → scope.names.lookup n = some .free)
    (hkind : scope.kind = .function := by rfl) (hdist : ∀ y ∈ scope.names, scope.names.lookup y.1 = some y.2 := by decide +kernel)
    (hs : ∀ x, foldedSetIterable iter env x = pure x := by intro _; rfl) :
    Gv prog w A h X (eval (.ListComp elt [⟨.Name x px, iter, [], 0⟩] scope pos) env) (.lst (items.map fe)) := by
  have := ev_comp1 (px := px) (elt := elt) (pos := pos) (ifs := []) (fun _ => true) fe fv hA eo hv hi hz hx hxf (fun _ _ _ _ _ _ _ _ _ _ => gt_nil) (fun cenv h' X' d hd _ => helt cenv h' X' d hd) hc hfv hkind hdist hs
  rwa [filter_true] at this
noncomputable def at2 (fv : List (Str × D)) (x y : Str) : D → Sg
  | .tup [a, b] => upd (upd (sg0 fv) x (.d a)) y (.d b)
  | _ => sg0 fv
/-- [elt for x, y in iter] -/
theorem ev_comp2 {x y : Str} {p1 p2 tp : Pos} {tk : Nat} {elt iter : Expr} {scope : Scope} {pos : Pos} {items : List (D × D)} (fe : D × D → D) (hA : A.handled = none) (eo : EnvOk env)
    (hi : Gi prog w A h X env iter (items.map fun p => D.tup [p.1, p.2])) (hz : items.length ≤ sizeLine)
    (hx : scope.names.lookup x = some .local) (hy : scope.names.lookup y = some .local) (hxy : x ≠ y)
    (helt : ∀ (cenv : Env) (h' : Heap) (X' : List Addr) (d : D × D), d ∈ items → EnvOk cenv → KN scope cenv → Kp h h' → Var cenv h' X' x d.1 → Var cenv h' X' y d.2 → Gv prog w A h' X' (eval elt cenv) (fe d))
    (hc : ∀ y ∈ scope.names, y.2 ≠ .free)
    (hkind : scope.kind = .function := by rfl) (hdist : ∀ y ∈ scope.names, scope.names.lookup y.1 = some y.2 := by decide +kernel)
    (hs : ∀ x, foldedSetIterable iter env x = pure x := by intro _; rfl) :
    Gv prog w A h X (eval (.ListComp elt [⟨.Tuple [.Name x p1, .Name y p2] tk tp, iter, [], 0⟩] scope pos) env) (.lst (items.map fe)) := by
  have := ev_comp (elt := elt) (pos := pos) (ifs := []) (scope := scope) (target := .Tuple [.Name x p1, .Name y p2] tk tp) (p := fun _ => true) (fe := fun d => match d with | .tup [a, b] => fe (a, b) | _ => .none) (fv := []) (σ1 := at2 [] x y) hA eo (fun n d e => nomatch e) hi (by rw [List.length_map]; exact hz)
    (fun cenv hb' X' s' s0 d v I E' hd fm sto q r hI => by
      obtain ⟨⟨a, b⟩, _, rfl⟩ := List.mem_map.mp hd
      exact asg_pair hA fm (sto x (.inl hx)) (sto y (.inl hy)) q r hI) (fun d x sl e => by unfold sg0 at e; cases e)
    (fun _ _ _ _ _ _ _ _ _ => gt_nil)
    (fun cenv h' X' d hd _ eo' kn kp hvar => by
      obtain ⟨⟨a, b⟩, hm, rfl⟩ := List.mem_map.mp hd
      exact helt cenv h' X' (a, b) hm eo' kn kp (hvar x a (by show upd _ y _ x = _; rw [upd_ne hxy, upd_self_eq])) (hvar y b (by show upd _ y _ y = _; rw [upd_self_eq]))) hkind hdist (fun y hy hf => absurd hf (hc y hy)) (fun n d e => nomatch e) hs
  rw [filter_true, List.map_map] at this
  exact this

/-- y = iter(e) -/
theorem st_iter {f y : Str} {np pos cpos py : Pos} {e : Expr} {rest : List Stmt} {ns : List Int} {Q : Flow → Shared → Prop} {E : Value → Shared → Prop} (fm : Fm hb env) (g : Gl mg mb hb) (q : St s0 hb env X σ s) (hf : env.kindOf f = some .globalImplicit) (hm : mg f = none) (hbf : mb f = some (.builtin "iter")) (hy : Sto hb env y)
    (he : Gv prog w A s.heap X (eval e env) (.lst (ns.map .int))) (hno : ∀ y I l i ns, σ y ≠ some (.iter I l i ns))
    (hn : ∀ s' I l, St s0 hb env X (upd σ y (.iter I l 0 ns)) s' → wpAny (model prog w) A (execs rest env) Q E s')
    (hs : starEach [e] env = (false, eval e env) :: starEach [] env := by rfl) (hdf : (f == ("__debug__" : Str)) = false := by decide) :
    wpAny (model prog w) A (execs (.Assign [.Name y py] (.Call (.Name f np) [e] [] cpos) pos :: rest) env) Q E s := by
  refine wpAny_execs_cons (PySem.wpAny_Assign_Name (wpAny_bind (wp_bltn fm.eo hf (g.up q.kp) hm hbf (Calls.callWith_builtin (by rw [hs]; rfl) (wp_args q.xok Kp.refl (gs_cons he gs_nil hs) (fun vs s1 k1 r1 => ?_) hs)) hdf)) rfl)
  obtain ⟨v, rfl, l, vs, n, rfl, hl, hg, hr⟩ := r1.one
  refine wp_iter (lo_isList hg) ?_
  have q1 := (q.up k1).up (s' := { s1 with heap := s1.heap.push { cls := .type "list_iterator", data := .fields #[.ref l, .int 0 0] } }) keeps_push
  have hnew : hb.get? s1.heap.objs.size = none := new_none (s := { s with heap := hb }) (s1 := s1) (q.kp.trans k1.kp) (Nat.le_refl _)
  exact st_store (v := .ref s1.heap.objs.size) (sl := .iter s1.heap.objs.size l 0 ns) fm q1 hy ⟨rfl, ⟨_, Heap.get?_push_size _ rfl, rfl, rfl⟩, hl, vs, n, Heap.get?_push_of_some _ hg, hr.up kp_push⟩ (fun _ _ e => nomatch e)
    (fun I l' i ns' e => by cases e; exact ⟨hnew, fun y I' l' i' ns' _ => hno y I' l' i' ns'⟩) fun s2 q2 => hn s2 _ _ q2

/-- y = f(x), where f reads on from the iterator x -/
theorem st_read {f x y : Str} {np px pos cpos py : Pos} {rest : List Stmt} {fa I l : Addr} {i : Nat} {ns R : List Int} {V : Int} {o : Obj} {fd : FuncData} {Q : Flow → Shared → Prop} {E : Value → Shared → Prop} (fm : Fm hb env) (g : Gl mg mb hb) (q : St s0 hb env X σ s)
    (hx : σ x = some (.iter I l i ns)) (hf : env.kindOf f = some .globalImplicit) (hm : mg f = some (.ref fa)) (ho : hb.get? fa = some o) (hd : o.data = .func fd) (hy : Sto hb env y)
    (hc : ∀ (s : Shared) (vs : List Value) (n : Nat) (Q : Value → Shared → Prop) (E : Value → Shared → Prop), Kp hb s.heap → XOk X s.heap → s.heap.IsListIter I l i → l ∉ X → s.heap.get? l = some (LO vs n) → Rds X s.heap vs (ns.map .int) →
      (∀ t s' j, SR s s' → (∀ b o, b ≠ I → s.heap.get? b = some o → s'.heap.get? b = some o) → s'.heap.IsListIter I l j → ns.drop j = R → Q (.int V t) s') → wpAny (model prog w) A (call (.ref fa) [.ref I]) Q E s)
    (hn : ∀ s' j, ns.drop j = R → St s0 hb env X (upd (upd σ x (.iter I l j ns)) y (.d (.int V))) s' → wpAny (model prog w) A (execs rest env) Q E s')
    (hdb : (x == ("__debug__" : Str)) = false := by decide) (hdf : (f == ("__debug__" : Str)) = false := by decide) :
    wpAny (model prog w) A (execs (.Assign [.Name y py] (.Call (.Name f np) [.Name x px] [] cpos) pos :: rest) env) Q E s := by
  obtain ⟨v, at1, rfl, hi, hl, vs, n, hg, hr⟩ := q.var x _ hx
  refine wpAny_execs_cons (PySem.wpAny_Assign_Name (wpAny_bind (wp_glob fm.eo hf (g.up q.kp) hm (Calls.callWith_function (fd := fd) (Calls.evalArgs_plain (Calls.spliced_cons (wp_at fm.eo at1 (Calls.spliced_nil ⟨⟨q.kp _ _ ho, hd⟩, ?_⟩) hdb)))) hdf)) rfl)
  refine hc s vs n _ _ q.kp q.xok hi hl hg hr fun t s' j hsr hk hit hR => ?_
  obtain ⟨h', g', d', t', o'⟩ := s'
  obtain ⟨e1, e2, e3⟩ := hsr
  dsimp only at e1 e2 e3 hk hit
  subst e1 e2 e3
  exact st_store_d (d := .int V) fm (q.iter_set (tk := t') hx (fun b o hb e => hk b o hb e) hit) hy ⟨t, rfl⟩ fun s2 q2 => hn s2 j hR q2
end
end Mine
end
section
open PySem PySem.W PyProof.Rows
open PySem.Builtin PySem.Builtin.Re
namespace Mine
noncomputable def zeroV : Value → Bool
  | .int i t => i == 0 && t == 0
  | _ => false
theorem zeroV_eq {v : Value} (h : zeroV v = true) : v = rawInt 0 := by
  unfold zeroV at h
  split at h
  · rw [Bool.and_eq_true, beq_iff_eq, beq_iff_eq] at h
    rw [h.1, h.2]; rfl
  · cases h
noncomputable def seqOk (K : Frag) (cd : Array Nat) : Value → Bool
  | .ref c => match K.lookup c with
    | some oc => match oc.data with
      | .seq items _ => decide ((items.map reRawOf).map (·.toNat) = cd)
      | _ => false
    | none => false
  | _ => false
noncomputable def patOk (K : Frag) (a : Addr) (cd : Array Nat) : Bool :=
  match K.lookup a with
  | some o => match o.cls, o.dict, o.data with
    | .type T, none, .fields fs => T == "re.Pattern" && zeroV (fs.getD 6 .none) && zeroV (fs.getD 2 .none) && seqOk K cd (fs.getD 5 .none)
    | _, _, _ => false
  | none => false
theorem pat_of {K : Frag} {h : Heap} {a : Addr} {cd : Array Nat} (X : K.In h) (e : patOk K a cd = true) : PatAt h a cd ∧ ∃ ob, h.get? a = some ob ∧ ob.dict = none := by
  unfold patOk at e
  split at e
  · rename_i o ho
    split at e
    · rename_i T fs e1 e2 e3
      simp only [Bool.and_eq_true, beq_iff_eq] at e
      obtain ⟨⟨⟨rfl, z6⟩, z2⟩, hs⟩ := e
      unfold seqOk at hs
      split at hs
      · rename_i c hc
        split at hs
        · rename_i oc hoc
          split at hs
          · rename_i items n hi
            exact ⟨⟨o, fs, c, oc, items, n, X _ _ ho, e1, e3, zeroV_eq z6, zeroV_eq z2, hc, X _ _ hoc, hi, of_decide_eq_true hs⟩, o, X _ _ ho, e2⟩
          · cases hs
        · cases hs
      · cases hs
    · cases e
  · cases e
section
variable {prog : Program} {w : World} {A : Around} {env : Env} {h hb : Heap} {X : List Addr} {mg mb : Str → Option Value}
theorem ev_crlf {p : Str} {np apos pos : Pos} {e1 e2 : Expr} {a : Addr} {x : Str} (eo : EnvOk env) (hx : env.kindOf p = some .globalImplicit) (g : Gl mg mb h) (hp : mg p = some (.ref a)) (P : PatAt h a cd2 ∧ ∃ ob, h.get? a = some ob ∧ ob.dict = none)
    (h1 : Gv prog w A h X (eval e1 env) (.str ⟨#[13, 10]⟩)) (h2 : Gv prog w A h X (eval e2 env) (.str x)) (hz : x.cps.size ≤ 100000)
    (hbase : attributeBase (.Name p np) (Str.ofString "sub") env (eval (.Name p np) env) = eval (.Name p np) env := by rfl) (hs : starEach [e1, e2] env = [(false, eval e1 env), (false, eval e2 env)] := by rfl) (hline : (apos.endLine == pos.line) = true := by rfl)
    (hdb : (p == ("__debug__" : Str)) = false := by decide) :
    Gv prog w A h X (eval (.Call (.Attribute (.Name p np) (Str.ofString "sub") apos) [e1, e2] [] pos) env) (.str ⟨(crlf x.cps.toList).toArray⟩) := by
  have := ev_sub finds2 eo hx g hp P.1 P.2 h1 h2 hz (by decide) (by decide +kernel) hbase hs hline hdb
  rwa [sub_is_crlf] at this
theorem ev_dots {p : Str} {np apos pos : Pos} {e1 e2 : Expr} {a : Addr} {x : Str} (eo : EnvOk env) (hx : env.kindOf p = some .globalImplicit) (g : Gl mg mb h) (hp : mg p = some (.ref a)) (P : PatAt h a cd1 ∧ ∃ ob, h.get? a = some ob ∧ ob.dict = none)
    (h1 : Gv prog w A h X (eval e1 env) (.str ⟨#[46, 46]⟩)) (h2 : Gv prog w A h X (eval e2 env) (.str x)) (hz : x.cps.size ≤ 100000)
    (hbase : attributeBase (.Name p np) (Str.ofString "sub") env (eval (.Name p np) env) = eval (.Name p np) env := by rfl) (hs : starEach [e1, e2] env = [(false, eval e1 env), (false, eval e2 env)] := by rfl) (hline : (apos.endLine == pos.line) = true := by rfl)
    (hdb : (p == ("__debug__" : Str)) = false := by decide) :
    Gv prog w A h X (eval (.Call (.Attribute (.Name p np) (Str.ofString "sub") apos) [e1, e2] [] pos) env) (.str ⟨(dots true x.cps.toList).toArray⟩) := by
  have := ev_sub finds1 eo hx g hp P.1 P.2 h1 h2 hz (by decide) (by decide +kernel) hbase hs hline hdb
  rwa [sub_is_dots] at this
end
/-- the telling of a mail, from the number that was read last -/
noncomputable def tellGo : Nat → Int → List Int → Int → Int → List D → Option (List D)
  | 0, _, _, _, _, _ => none
  | f + 1, V, R, dots, name, acc =>
    if V = 0 then some acc else
    match vread R with
    | none => none
    | some (V', R') => if 256 ≤ V then tellGo f V' R' dots V acc else if V = 46 then tellGo f V' R' (dots + 1) name acc else tellGo f V' R' 0 name (acc ++ [.tup [.int dots, .int name]])
noncomputable def tell (l : List Nat) : Option (List D) := match vread (l.map (fun (c : Nat) => (c : Int)) ++ [0]) with
  | none => none
  | some (V, R) => tellGo (l.length + 2) V R 0 0 []
end Mine
end
section
open PySem PySem.W PyProof.Rows
namespace Mine
/-- the names by a list -/
noncomputable def sgl (l : List (Str × Sl)) : Sg := fun y => l.lookup y
noncomputable def AllIn (σ : Sg) : List (Str × Sl) → Prop
  | [] => True
  | p :: r => σ p.1 = some p.2 ∧ AllIn σ r
noncomputable def OwnIn (O : List Addr) : List (Str × Sl) → Prop
  | [] => True
  | (_, .own a _) :: r => a ∈ O ∧ OwnIn O r
  | _ :: r => OwnIn O r
noncomputable def noIter : List (Str × Sl) → Bool
  | [] => true
  | (_, .iter ..) :: _ => false
  | _ :: r => noIter r
theorem sgl_mem : ∀ {l : List (Str × Sl)} {y : Str} {sl : Sl}, sgl l y = some sl → (y, sl) ∈ l
  | [], y, sl, e => by cases e
  | (n, s) :: r, y, sl, e => by
    unfold sgl at e
    rw [List.lookup_cons] at e
    by_cases h : y == n
    · rw [h] at e; cases e; rw [eq_of_beq h]; exact List.mem_cons_self
    · rw [Bool.eq_false_iff.mpr h] at e; exact List.mem_cons_of_mem _ (sgl_mem e)
theorem allIn_mem {σ : Sg} : ∀ {l : List (Str × Sl)} {y : Str} {sl : Sl}, AllIn σ l → (y, sl) ∈ l → σ y = some sl
  | [], y, sl, _, e => by cases e
  | (n, s) :: r, y, sl, h, e => by
    rcases List.mem_cons.mp e with e | e
    · cases e; exact h.1
    · exact allIn_mem h.2 e
theorem ownIn_mem {O : List Addr} {y : Str} {a : Addr} {ds : List D} {l : List (Str × Sl)} (h : OwnIn O l) (e : (y, .own a ds) ∈ l) : a ∈ O := by
  induction l with
  | nil => cases e
  | cons p r ih =>
    obtain ⟨n, s⟩ := p
    rcases List.mem_cons.mp e with e' | e'
    · cases e'; exact h.1
    · cases s <;> first | exact ih h e' | exact ih h.2 e'
theorem noIter_mem {y : Str} {I k : Addr} {i : Nat} {ns : List Int} {l : List (Str × Sl)} (h : noIter l = true) : (y, .iter I k i ns) ∉ l := by
  induction l with
  | nil => intro e; cases e
  | cons p r ih =>
    obtain ⟨n, s⟩ := p
    intro e
    rcases List.mem_cons.mp e with e' | e'
    · cases e'; cases h
    · cases s <;> first | exact ih h e' | cases h
noncomputable def isFree : NameKind → Bool
  | .free => true
  | _ => false
theorem fc {scope : Scope} {fv : List (Str × D)} (h : scope.names.all (fun y => !isFree y.2 || (!(y.1 == ("__classdict__" : Str)) && (fv.lookup y.1).isSome)) = true) :
    ∀ y ∈ scope.names, y.2 = .free → (y.1 == ("__classdict__" : Str)) = false ∧ ∃ d, fv.lookup y.1 = some d := fun y hy hf => by
  have := List.all_eq_true.mp h y hy
  rw [hf] at this
  simp only [isFree, Bool.not_true, Bool.false_or, Bool.and_eq_true, Bool.not_eq_true'] at this
  exact ⟨this.1, Option.isSome_iff_exists.mp this.2⟩
noncomputable def freeAt (scope : Scope) (n : Str) : Bool := match scope.names.lookup n with
  | some .free => true
  | _ => false
theorem ff {scope : Scope} {fv : List (Str × D)} (h : fv.all (fun p => freeAt scope p.1) = true) : ∀ n d, fv.lookup n = some d → scope.names.lookup n = some .free := fun n d e => by
  have hm : ∀ (l : List (Str × D)), l.lookup n = some d → (n, d) ∈ l := fun l => by
    induction l with
    | nil => intro e; cases e
    | cons p r ih =>
      obtain ⟨m, c⟩ := p
      intro e
      rw [List.lookup_cons] at e
      by_cases hb : n == m
      · rw [hb] at e; cases e; rw [eq_of_beq hb]; exact List.mem_cons_self
      · rw [Bool.eq_false_iff.mpr hb] at e; exact List.mem_cons_of_mem _ (ih e)
  have := List.all_eq_true.mp h _ (hm fv e)
  unfold freeAt at this
  split at this
  · assumption
  · cases this
theorem KN.gl {scope : Scope} {cenv : Env} (kn : KN scope cenv) {n : Str} (h : scope.names.lookup n = some .globalImplicit) : cenv.kindOf n = some .globalImplicit := by
  rcases kn n _ h with e | ⟨e, _⟩
  · exact e
  · cases e
section
variable {prog : Program} {w : World} {A : Around} {env : Env} {h hb : Heap} {X : List Addr} {mg mb : Str → Option Value} {σ : Sg} {s s0 : Shared}
theorem St.toL (q : St s0 hb env X σ s) (l : List (Str × Sl)) (h : AllIn σ l) : St s0 hb env X (sgl l) s := q.weak fun y sl e => allIn_mem h (sgl_mem e)
theorem sgl_own {O : List Addr} {l : List (Str × Sl)} (h : OwnIn O l) : ∀ x a ds, sgl l x = some (.own a ds) → a ∈ O := fun x a ds e => ownIn_mem h (sgl_mem e)
theorem sgl_ni {l : List (Str × Sl)} (h : noIter l = true) : ∀ x I k i ns, sgl l x ≠ some (.iter I k i ns) := fun x I k i ns e => noIter_mem h (sgl_mem e)
end
end Mine
end
section
open PySem PySem.W PyProof.Rows
namespace Mine
noncomputable def esOf (K : Frag) (a : Addr) : Array DictEntry := match K.lookup a with
  | some o => match o.data with
    | .dict es _ => es
    | _ => #[]
  | _ => #[]
noncomputable def nOf (K : Frag) (a : Addr) : Nat := match K.lookup a with
  | some o => match o.data with
    | .dict _ n => n
    | _ => 0
  | _ => 0
section
variable {prog : Program} {w : World} {A : Around} {env : Env} {h hb : Heap} {X : List Addr} {mg mb : Str → Option Value} {σ : Sg} {s s0 : Shared}

theorem map_up {a : Addr} {f : Str → Option Value} {h' : Heap} (hm : h.MapOf (strKind prog w) a f) (k : Kp h h') : h'.MapOf (strKind prog w) a f := let ⟨o, es, ep, h1, h2⟩ := hm; ⟨o, es, ep, k _ _ h1, h2⟩
theorem tr_in_dict {e : Expr} {p : Str} {np pos : Pos} {a : Addr} {x : Str} {f : Str → Option Value} {wh : Sem Value} (eo : EnvOk env) (hx : env.kindOf p = some .globalImplicit) (g : Gl mg mb h) (hp : mg p = some (.ref a)) (hm : h.MapOf (strKind prog w) a f) (ha : (a == sysModules) = false)
    (he : Gv prog w A h X (eval e env) (.str x)) (hk : behindInMarks .In (.Name p np) = false := by with_unfolding_all rfl) (hdb : (p == ("__debug__" : Str)) = false := by decide) :
    Gb prog w A h X (isTrue (.Compare e [.In] [.Name p np] pos) env wh) (f x).isSome := fun hX s Q E hk' hQ => by
  refine PySem.wpAny_isTrue_Compare1 (he hX s _ _ hk' fun v s1 k1 r1 => ?_) hk
  obtain ⟨t, rfl⟩ := r1
  have kk := hk'.trans k1.kp
  refine wp_glob eo hx (g.up kk) hp ?_ hdb
  refine wpAny_in_of (strKind_is prog w x t) ha (map_up hm kk) ?_
  exact wpAny_truthy_bool (hQ _ (k1.tr keeps_tok))
theorem ev_get_dict {e : Expr} {p : Str} {np pos : Pos} {a : Addr} {x : Str} {f : Str → Option Value} {v : Value} {d : D} (eo : EnvOk env) (hx : env.kindOf p = some .globalImplicit) (g : Gl mg mb h) (hp : mg p = some (.ref a)) (hm : h.MapOf (strKind prog w) a f)
    (he : Gv prog w A h X (eval e env) (.str x)) (hv : f x = some v) (hr : Rd X h v d)
    (hs : ∀ o i, subscripted e false o i = operate [o, i] (getItem o i) := by intro _ _; with_unfolding_all rfl) (hdb : (p == ("__debug__" : Str)) = false := by decide) :
    Gv prog w A h X (eval (.Subscript (.Name p np) e pos) env) d := fun hX s Q E hk' hQ => by
  refine Subscript_ (wp_glob eo hx (g.up hk') hp (he hX s _ _ hk' fun v2 s1 k1 r1 => ?_) hdb)
  obtain ⟨t, rfl⟩ := r1
  have hm1 := map_up hm (hk'.trans k1.kp)
  exact tail_any hm1.typeIs slot_dict_getitem.lookup (wpAny_getItem_of (strKind_is prog w x t) hm1 hv (hQ _ _ (k1.tr keeps_tok) (hr.up (hk'.trans k1.kp)))) (hs _ _)
end
end Mine
end
section
open PySem PySem.W PyProof.Rows
namespace Mine
/-- a row of a mail: its dots, its name, its end -/
structure Rw where
  k : Nat
  nm : List Nat
  e : List Nat
noncomputable def Rw.cps (r : Rw) : List Nat := List.replicate r.k 46 ++ (r.nm ++ r.e)
noncomputable def mailOf : List Rw → List Nat
  | [] => []
  | r :: rs => r.cps ++ mailOf rs
theorem mailOf_app : ∀ (a b : List Rw), mailOf (a ++ b) = mailOf a ++ mailOf b
  | [], _ => rfl
  | r :: a, b => by show r.cps ++ mailOf (a ++ b) = (r.cps ++ mailOf a) ++ mailOf b; rw [mailOf_app a b, List.append_assoc]
noncomputable def nmOk (l : List Nat) : Prop := ∀ c ∈ l, 64 ≤ c ∧ c < 128
structure Rw.ok (r : Rw) : Prop where
  k : 1 ≤ r.k
  nm : nmOk r.nm
  e : r.e = [10] ∨ r.e = [13] ∨ r.e = [13, 10]
  ne : r.nm ≠ []
noncomputable def Rw.up (r : Rw) : Rw := ⟨r.k + 1, r.nm, [13, 10]⟩
theorem Rw.ok.up {r : Rw} (o : r.ok) : r.up.ok := ⟨Nat.le_add_left _ _, o.nm, .inr (.inr rfl), o.ne⟩
theorem crlf_cons {c : Nat} {r : List Nat} (h1 : c ≠ 13) (h2 : c ≠ 10) : crlf (c :: r) = c :: crlf r := by
  rw [crlf]
  · intro a b; exact fun _ => h1 b
  · exact h1
  · exact h2
theorem crlf_dots : ∀ (k : Nat) (r : List Nat), crlf (List.replicate k 46 ++ r) = List.replicate k 46 ++ crlf r
  | 0, r => rfl
  | k + 1, r => by
    rw [List.replicate_succ, List.cons_append, List.cons_append, crlf_cons (by decide) (by decide), crlf_dots k r]
theorem crlf_nm : ∀ {l : List Nat} (r : List Nat), nmOk l → crlf (l ++ r) = l ++ crlf r
  | [], r, _ => rfl
  | c :: l, r, h => by
    have := h c List.mem_cons_self
    rw [List.cons_append, List.cons_append, crlf_cons (by omega) (by omega), crlf_nm r fun d hd => h d (List.mem_cons_of_mem _ hd)]
theorem crlf_end {e r : List Nat} (h : e = [10] ∨ e = [13] ∨ e = [13, 10]) (hr : ∀ t, r ≠ 10 :: t) : crlf (e ++ r) = [13, 10] ++ crlf r := by
  rcases h with rfl | rfl | rfl
  · rfl
  · cases r with
    | nil => rfl
    | cons c t =>
      show crlf (13 :: c :: t) = 13 :: 10 :: crlf (c :: t)
      rw [crlf]
      intro u hu
      exact hr u hu
  · rfl
theorem dots_cons {b : Bool} {c : Nat} {r : List Nat} (h : c ≠ 46) : dots b (c :: r) = c :: dots (c == 10) r := by
  rw [dots]
  have : (b && c == 46) = false := by simp [h]
  rw [this]; rfl
theorem dots_dots : ∀ (k : Nat) (r : List Nat), dots false (List.replicate k 46 ++ r) = List.replicate k 46 ++ dots (if k = 0 then false else false) r
  | 0, r => rfl
  | k + 1, r => by
    rw [List.replicate_succ, List.cons_append, List.cons_append]
    show (if false && (46 : Nat) == 46 then [46, 46] else [46]) ++ dots (46 == 10) _ = _
    rw [show ((46 : Nat) == 10) = false from rfl, dots_dots k r]
    simp
theorem dots_nm : ∀ {l : List Nat} (r : List Nat), nmOk l → dots false (l ++ r) = l ++ dots false r
  | [], r, _ => rfl
  | c :: l, r, h => by
    have := h c List.mem_cons_self
    rw [List.cons_append, List.cons_append, dots_cons (by omega), show (c == 10) = false by simp; omega, dots_nm r fun d hd => h d (List.mem_cons_of_mem _ hd)]
theorem quoted_row {r : Rw} (o : r.ok) (t : List Nat) : dots true (List.replicate r.k 46 ++ (r.nm ++ ([13, 10] ++ t))) = r.up.cps ++ dots true t := by
  obtain ⟨k', hk⟩ : ∃ k', r.k = k' + 1 := ⟨r.k - 1, by have := o.k; omega⟩
  have e1 : r.up.cps = 46 :: 46 :: (List.replicate k' 46 ++ (r.nm ++ [13, 10])) := by
    show List.replicate (r.k + 1) 46 ++ (r.nm ++ [13, 10]) = _
    rw [hk, List.replicate_succ, List.replicate_succ]; rfl
  rw [e1, hk, List.replicate_succ, List.cons_append]
  show (if true && (46 : Nat) == 46 then [46, 46] else [46]) ++ dots (46 == 10) _ = _
  rw [show ((46 : Nat) == 10) = false from rfl, dots_dots]
  simp only [ite_self]
  rw [dots_nm _ o.nm]
  simp [dots]
theorem mail_no10 : ∀ {rs : List Rw}, (∀ r ∈ rs, r.ok) → ∀ t, mailOf rs ≠ 10 :: t
  | [], _, t, e => by cases e
  | r :: rs, h, t, e => by
    have o := h r List.mem_cons_self
    obtain ⟨k', hk⟩ : ∃ k', r.k = k' + 1 := ⟨r.k - 1, by have := o.k; omega⟩
    rw [mailOf, Rw.cps, hk, List.replicate_succ] at e
    cases e
theorem quoted_mail : ∀ {rs : List Rw}, (∀ r ∈ rs, r.ok) → quoted (mailOf rs) = mailOf (rs.map Rw.up)
  | [], _ => rfl
  | r :: rs, h => by
    have o := h r List.mem_cons_self
    have hr : ∀ r ∈ rs, r.ok := fun a ha => h a (List.mem_cons_of_mem _ ha)
    have ih := quoted_mail hr
    unfold quoted at ih ⊢
    show dots true (crlf (r.cps ++ mailOf rs)) = r.up.cps ++ mailOf (rs.map Rw.up)
    rw [Rw.cps, List.append_assoc, List.append_assoc, crlf_dots, crlf_nm _ o.nm, crlf_end o.e (mail_no10 hr), quoted_row o, ih]

-- the telling
theorem and64 {c : Nat} (h1 : 64 ≤ c) (h2 : c < 128) : (Builtin.bitAnd (c : Int) 64 != 0) = true ∧ Builtin.bitAnd (c : Int) 63 = (c : Int) - 64 := by
  have : ∀ c : Fin 128, 64 ≤ c.val → (Builtin.bitAnd ((c.val : Nat) : Int) 64 != 0) = true ∧ Builtin.bitAnd ((c.val : Nat) : Int) 63 = ((c.val : Nat) : Int) - 64 := by decide +kernel
  exact this ⟨c, h2⟩ h1
theorem or64 {x : Int} {c : Int} (h0 : 0 ≤ x) (h1 : 0 ≤ c) (h2 : c < 64) : Builtin.bitOr (x * 2 ^ (6 : Int).toNat) c = x * 64 + c := by
  obtain ⟨a, rfl⟩ := Int.eq_ofNat_of_zero_le h0
  obtain ⟨b, rfl⟩ := Int.eq_ofNat_of_zero_le h1
  rw [bitOr_and, bitAnd_pp (Int.mul_nonneg (Int.natCast_nonneg _) (by decide)) (by omega)]
  have e : ((a : Int) * 2 ^ (6 : Int).toNat).toNat = a <<< 6 := by
    rw [Nat.shiftLeft_eq]
    show ((a : Int) * ((64 : Nat) : Int)).toNat = a * 64
    rw [← Int.natCast_mul]; rfl
  rw [e]
  have hb : b < 2 ^ 6 := by have : (b : Int) < 64 := h2; omega
  have h := Nat.shiftLeft_add_eq_or_of_lt hb a
  have z : (a <<< 6) &&& b = 0 := by
    apply Nat.eq_of_testBit_eq
    intro i
    rw [Nat.testBit_and, Nat.testBit_shiftLeft, Nat.zero_testBit]
    by_cases hi : 6 ≤ i
    · have : b.testBit i = false := Nat.testBit_lt_two_pow (Nat.lt_of_lt_of_le hb (Nat.pow_le_pow_right (by decide) hi))
      rw [this, Bool.and_false]
    · simp [hi]
  rw [show (↑b : Int).toNat = b from rfl, z]
  show (a : Int) * ((64 : Nat) : Int) + b - ((0 : Nat) : Int) = _
  omega
/-- the number that a name and a return are read as -/
noncomputable def nv : Int → List Nat → Int
  | v, [] => v * 64 + 13
  | v, c :: r => nv (v * 64 + ((c : Int) - 64)) r
noncomputable def zs (l : List Nat) : List Int := l.map fun (c : Nat) => (c : Int)
theorem zs_app (a b : List Nat) : zs (a ++ b) = zs a ++ zs b := List.map_append
theorem p64 {j : Nat} (h : j ≤ 8) : (64 : Int) ^ j ≤ 64 ^ 8 := by
  have : ∀ j : Fin 9, (64 : Int) ^ j.val ≤ 64 ^ 8 := by decide +kernel
  exact this ⟨j, by omega⟩
theorem vloop_nm : ∀ (l : List Nat) (b : Nat) (val : Int) (j : Nat) (R : List Int), nmOk l → 64 ≤ b → b < 128 → 0 ≤ val → val < 64 ^ j → l.length + j ≤ 8 → vloop (zs l ++ 13 :: 10 :: R) b val = some (nv val l, 10 :: R)
  | [], b, val, j, R, _, h1, h2, h3, h4, h5 => by
    have hb := and64 h1 h2
    have hv : val < 64 ^ 8 := Int.lt_of_lt_of_le h4 (p64 (by simpa using h5))
    show vloop (13 :: 10 :: R) b val = _
    rw [vloop, if_pos hb.1, if_pos (by omega), or64 h3 (by decide) (by decide)]
    show vloop (10 :: R) 13 (val * 64 + 13) = _
    rw [vloop, if_neg (by decide)]; rfl
  | c :: l, b, val, j, R, hl, h1, h2, h3, h4, h5 => by
    have hb := and64 h1 h2
    have hc := hl c List.mem_cons_self
    have hcb := and64 hc.1 hc.2
    have h5' : j ≤ 8 := by simp at h5; omega
    have hv : val < 64 ^ 8 := Int.lt_of_lt_of_le h4 (p64 h5')
    show vloop ((c : Int) :: (zs l ++ 13 :: 10 :: R)) b val = _
    rw [vloop, if_pos hb.1, if_pos (by omega), hcb.2, or64 h3 (by omega) (by omega)]
    have hp : (64 : Int) ^ (j + 1) = 64 ^ j * 64 := Int.pow_succ ..
    exact vloop_nm l c _ (j + 1) R (fun d hd => hl d (List.mem_cons_of_mem _ hd)) hc.1 hc.2 (by omega) (by omega) (by simp at h5 ⊢; omega)
theorem vread_nm {c : Nat} {l : List Nat} {R : List Int} (hl : nmOk (c :: l)) (h5 : l.length ≤ 7) : vread (zs (c :: l) ++ 13 :: 10 :: R) = some (nv 0 (c :: l), 10 :: R) := by
  have hc := hl c List.mem_cons_self
  have hcb := and64 hc.1 hc.2
  show vloop (zs l ++ 13 :: 10 :: R) c (Builtin.bitAnd (c : Int) 63) = _
  rw [hcb.2, vloop_nm l c _ 1 R (fun d hd => hl d (List.mem_cons_of_mem _ hd)) hc.1 hc.2 (by omega) (by omega) (by omega)]
  show _ = some (nv (0 * 64 + ((c : Int) - 64)) l, _)
  rw [Int.zero_mul, Int.zero_add]
theorem vread_small {c : Int} {R : List Int} (h : (Builtin.bitAnd c 64 != 0) = false) (h2 : Builtin.bitAnd c 63 = c) : vread (c :: R) = some (c, R) := by
  show vloop R c (Builtin.bitAnd c 63) = _
  rw [h2]
  cases R with
  | nil => rw [vloop, if_neg (by rw [h]; exact Bool.false_ne_true)]
  | cons d R => rw [vloop, if_neg (by rw [h]; exact Bool.false_ne_true)]
/-- a row that is told: return and feed at its end -/
structure Rw.told (r : Rw) : Prop where
  k : 1 ≤ r.k
  nm : nmOk r.nm
  e : r.e = [13, 10]
  ne : r.nm ≠ []
  len : r.nm.length ≤ 7
  big : 256 ≤ nv 0 r.nm
theorem Rw.ok.told {r : Rw} (o : r.ok) (h1 : r.nm.length ≤ 7) (h2 : 256 ≤ nv 0 r.nm) : r.up.told := ⟨Nat.le_add_left _ _, o.nm, rfl, o.ne, h1, h2⟩
noncomputable def rowD (r : Rw) : D := .tup [.int r.k, .int (nv 0 r.nm)]
noncomputable def TellTo (l : List Int) (n : Nat) (dots name : Int) (acc ds : List D) : Prop := ∀ f, n ≤ f → ∃ V R, vread l = some (V, R) ∧ tellGo f V R dots name acc = some ds
theorem tell_dot {l : List Int} {n : Nat} {dots name : Int} {acc ds : List D} (h : TellTo l n (dots + 1) name acc ds) : TellTo (46 :: l) (n + 1) dots name acc ds := fun f hf => by
  obtain ⟨f, rfl⟩ : ∃ f', f = f' + 1 := ⟨f - 1, by omega⟩
  obtain ⟨V, R, h1, h2⟩ := h f (by omega)
  refine ⟨46, l, vread_small (by decide) (by decide), ?_⟩
  rw [tellGo, if_neg (by decide), h1]
  dsimp only
  rw [if_neg (by decide), if_pos rfl]
  exact h2
theorem tell_dots : ∀ (k : Nat) {l : List Int} {n : Nat} {dots name : Int} {acc ds : List D}, TellTo l n (dots + k) name acc ds → TellTo (zs (List.replicate k 46) ++ l) (n + k) dots name acc ds
  | 0, l, n, dots, name, acc, ds, h => by simpa [zs] using h
  | k + 1, l, n, dots, name, acc, ds, h => by
    rw [List.replicate_succ]
    show TellTo (46 :: (zs (List.replicate k 46) ++ l)) (n + k + 1) dots name acc ds
    refine tell_dot (tell_dots k ?_)
    rw [show dots + 1 + (k : Int) = dots + ((k + 1 : Nat) : Int) by omega]
    exact h
theorem tell_mail_go : ∀ (rs : List Rw) (name : Int) (acc : List D), (∀ r ∈ rs, r.told) → TellTo (zs (mailOf rs) ++ [0]) ((mailOf rs).length + 1) 0 name acc (acc ++ rs.map rowD)
  | [], name, acc, _ => fun f hf => ⟨0, [], vread_small (by decide) (by decide), by
    obtain ⟨f, rfl⟩ : ∃ f', f = f' + 1 := ⟨f - 1, by omega⟩
    rw [tellGo, if_pos rfl]; simp⟩
  | r :: rs, name, acc, h => by
    have o := h r List.mem_cons_self
    have hr : ∀ r ∈ rs, r.told := fun a ha => h a (List.mem_cons_of_mem _ ha)
    obtain ⟨c, l, hnm⟩ : ∃ c l, r.nm = c :: l := by
      cases e : r.nm with
      | nil => exact absurd e o.ne
      | cons c l => exact ⟨c, l, rfl⟩
    have hok := o.nm
    have hbig := o.big
    have hlen := o.len
    rw [hnm] at hok hbig hlen
    have e : zs (mailOf (r :: rs)) ++ [0] = zs (List.replicate r.k 46) ++ (zs (c :: l) ++ 13 :: 10 :: (zs (mailOf rs) ++ [0])) := by
      rw [mailOf, Rw.cps, o.e, hnm]
      simp [zs]
    rw [e]
    have hL : (mailOf (r :: rs)).length = r.k + (l.length + 1) + 2 + (mailOf rs).length := by
      rw [mailOf, Rw.cps, o.e, hnm]
      simp; omega
    have ih := tell_mail_go rs (nv 0 (c :: l)) (acc ++ [rowD r]) hr
    have step : TellTo (zs (c :: l) ++ 13 :: 10 :: (zs (mailOf rs) ++ [0])) ((mailOf rs).length + 3) (0 + (r.k : Int)) name acc (acc ++ (r :: rs).map rowD) := fun f hf => by
      obtain ⟨f, rfl⟩ : ∃ f', f = f' + 2 := ⟨f - 2, by omega⟩
      obtain ⟨V, R, h1, h2⟩ := ih f (by omega)
      refine ⟨_, _, vread_nm hok (by simp at hlen; omega), ?_⟩
      rw [tellGo, if_neg (by omega), vread_small (c := 10) (by decide) (by decide)]
      dsimp only
      rw [if_pos hbig, tellGo, if_neg (by decide), h1]
      dsimp only
      rw [if_neg (by decide), if_neg (by decide), Int.zero_add]
      rw [List.append_assoc] at h2
      have : rowD r = .tup [.int r.k, .int (nv 0 (c :: l))] := by rw [rowD, hnm]
      rw [← this]
      exact h2
    have := tell_dots r.k step
    intro f hf
    exact this f (by omega)
theorem tell_mail {rs : List Rw} (h : ∀ r ∈ rs, r.told) : tell (mailOf rs) = some (rs.map rowD) := by
  obtain ⟨V, R, h1, h2⟩ := tell_mail_go rs 0 [] h ((mailOf rs).length + 2) (by omega)
  unfold tell
  rw [show (mailOf rs).map (fun (c : Nat) => (c : Int)) ++ [0] = zs (mailOf rs) ++ [0] from rfl, h1]
  exact h2
end Mine
end
section
open PySem PySem.W PyProof.Rows PySem.SeqAt
namespace Mine
theorem sizeLine_val : sizeLine = 16777216 := by decide
theorem cut_take (ds : List D) (k : Nat) : cut ds none (some (k : Int)) = ds.take k := by
  unfold cut kms_lo kms_hi
  dsimp only
  rw [if_neg (by omega), Nat.sub_zero, List.drop_zero, Int.toNat_natCast]
  rcases Nat.le_total k ds.length with h | h
  · rw [Nat.min_eq_left h]
  · rw [Nat.min_eq_right h, List.take_of_length_le (Nat.le_refl _), List.take_of_length_le h]
theorem cut_drop (ds : List D) (k : Nat) : cut ds (some (k : Int)) none = ds.drop k := by
  unfold cut kms_lo kms_hi
  dsimp only
  rw [if_neg (by omega), Int.toNat_natCast]
  rcases Nat.le_total k ds.length with h | h
  · rw [Nat.min_eq_left h, List.take_of_length_le (by rw [List.length_drop]; omega)]
  · rw [Nat.min_eq_right h, List.drop_of_length_le (Nat.le_refl _), List.drop_of_length_le h, List.take_nil]
theorem cut_mid (ds : List D) (j k : Nat) : cut ds (some (j : Int)) (some (k : Int)) = (ds.take k).drop j := by
  unfold cut kms_lo kms_hi
  dsimp only
  rw [if_neg (by omega), if_neg (by omega), Int.toNat_natCast, Int.toNat_natCast, List.drop_take]
  apply List.ext_getElem?
  intro i
  rw [List.getElem?_take, List.getElem?_take, List.getElem?_drop, List.getElem?_drop]
  by_cases h : i < k - j
  · rw [if_pos h]
    by_cases h2 : j + i < ds.length
    · rw [if_pos (by omega), Nat.min_eq_left (by omega)]
    · split
      · rw [List.getElem?_eq_none (by omega), List.getElem?_eq_none (by omega)]
      · rw [List.getElem?_eq_none (by omega)]
  · rw [if_neg h, if_neg (by omega)]
section
variable {prog : Program} {w : World} {A : Around} {env : Env} {h hb : Heap} {X : List Addr} {mg mb : Str → Option Value} {σ : Sg} {s s0 : Shared}
/-- a or b, as a value -/
theorem ev_or2 {e1 e2 : Expr} {pos : Pos} {a b : Bool} (h1 : Gv prog w A h X (eval e1 env) (.bool a)) (h2 : a = false → Gv prog w A h X (eval e2 env) (.bool b)) : Gv prog w A h X (eval (.BoolOp .Or [e1, e2] pos) env) (.bool (a || b)) := fun hX s Q E hk hQ =>
  BoolOp_or (h1 hX s _ _ hk fun v s1 k1 r1 => by
    rw [show v = .bool a from r1]
    refine wpAny_truthy_bool ?_
    cases a with
    | true => exact hQ _ s1 k1 rfl
    | false => exact BoolOp_one (h2 rfl hX s1 _ _ (hk.trans k1.kp) fun v s2 k2 r2 => hQ v s2 (k1.tr k2) r2))
/-- x in a list -/
theorem in_l {x : D} {ds : List D} (hx : (toP x).canLay0 = true) (hs : PyData.canLayAll0 (toPs ds) = true) (hu : A.units + 1 + min (PyData.depthAll (toPs ds)) (toP x).depth < cLine) : CmpD prog w A X .In x (.lst ds) ((toPs ds).any fun y => PyData.eqv y (toP x)) := by
  intro h v1 v2 r1 r2 hX s Q E hk hQ
  obtain ⟨as, q1⟩ := Rd.reads x (r1.up hk)
  obtain ⟨bs, q2⟩ := Rd.reads (.lst ds) (r2.up hk)
  exact in_list_reads q2 q1 hs hx hu (hQ _ _ keeps_refl rfl)
end
theorem fv_one {env : Env} {h : Heap} {X : List Addr} {y : Str} {d0 : D} (v : Var env h X y d0) (hk : env.kindOf y ≠ some .local) : ∀ n d, [(y, d0)].lookup n = some d → Var env h X n d ∧ env.kindOf n ≠ some .local := fun n d e => by
  rw [List.lookup_cons] at e
  split at e
  · rename_i hb
    cases e
    rw [eq_of_beq hb]; exact ⟨v, hk⟩
  · cases e
theorem kc {env : Env} {y : Str} (e : env.kindOf y = some .cell) : env.kindOf y ≠ some .local := by rw [e]; intro h; cases h
theorem sz1 {d : D} : [d].length ≤ sizeLine := by show 1 ≤ sizeLine; decide
theorem sz2 {d e : D} : [d, e].length ≤ sizeLine := by show 2 ≤ sizeLine; decide
/-- two names, told by a pair -/
noncomputable def tau2 (σ : Sg) (x y : Str) : D → Sg
  | .tup [a, b] => upd (upd σ x (.d a)) y (.d b)
  | _ => σ
/-- room for n calls more -/
structure AOk (A : Around) (n : Nat) : Prop where
  hd : A.depth + n < recursionLimit
  hA : A.handled = none
  hu : A.units + 3 * n ≤ 9000
theorem AOk.deeper {A : Around} {n : Nat} {env : Env} (a : AOk A (n + 1)) : AOk (A.deeper env) n := ⟨by have := a.hd; show A.depth + 1 + n < _; omega, a.hA, by have := a.hu; show A.units + 3 + 3 * n ≤ _; omega⟩
theorem AOk.d {A : Around} {n : Nat} (a : AOk A n) : A.depth < recursionLimit := by have := a.hd; omega
theorem AOk.less {A : Around} {n m : Nat} (a : AOk A n) (h : m ≤ n) : AOk A m := ⟨by have := a.hd; omega, a.hA, by have := a.hu; omega⟩
theorem AOk.c {A : Around} {n k : Nat} (a : AOk A n) (h : k ≤ 100) : A.units + k < cLine := by have := a.hu; unfold cLine; omega
theorem toPs_map : ∀ ds : List D, toPs ds = ds.map toP
  | [] => rfl
  | d :: ds => by rw [toPs, toPs_map ds]; rfl
theorem lay_none : Lay .none 0 := ⟨rfl, Nat.le_refl _⟩
theorem lay_bool {b : Bool} : Lay (.bool b) 0 := ⟨rfl, Nat.le_refl _⟩
theorem lay_int {i : Int} : Lay (.int i) 0 := ⟨rfl, Nat.le_refl _⟩
theorem lay_str {x : Str} (h : ∀ c ∈ x.cps.toList, c < 1114112) : Lay (.str x) 0 := ⟨by
  show PyData.strOk x = true
  unfold PyData.strOk
  rw [Array.all_eq_true']
  intro c hc
  exact decide_eq_true (h c (Array.mem_toList_iff.mpr hc)), Nat.le_refl _⟩
theorem layAll {k : Nat} : ∀ {ds : List D}, (∀ d ∈ ds, Lay d k) → PyData.canLayAll0 (toPs ds) = true ∧ PyData.depthAll (toPs ds) ≤ k
  | [], _ => ⟨rfl, Nat.zero_le _⟩
  | d :: ds, h => by
    obtain ⟨h1, h2⟩ := h d List.mem_cons_self
    obtain ⟨h3, h4⟩ := layAll fun x hx => h x (List.mem_cons_of_mem _ hx)
    rw [toPs]
    exact ⟨by rw [PyData.canLayAll0, h1, h3]; rfl, by rw [PyData.depthAll]; omega⟩
theorem lay_lst {ds : List D} {k : Nat} (h : ∀ d ∈ ds, Lay d k) : Lay (.lst ds) (k + 1) := by
  obtain ⟨h1, h2⟩ := layAll h
  exact ⟨by rw [toP, PyData.canLay0]; exact h1, by rw [toP, PyData.depth]; omega⟩
theorem lay_tup {ds : List D} {k : Nat} (h : ∀ d ∈ ds, Lay d k) : Lay (.tup ds) (k + 1) := by
  obtain ⟨h1, h2⟩ := layAll h
  exact ⟨by rw [toP, PyData.canLay0]; exact h1, by rw [toP, PyData.depth]; omega⟩
theorem Lay.up {d : D} {j k : Nat} (h : Lay d j) (hk : j ≤ k) : Lay d k := ⟨h.1, Nat.le_trans h.2 hk⟩
theorem lay_ints {ns : List Int} : Lay (.lst (ns.map .int)) 1 := lay_lst fun d hd => by
  obtain ⟨i, _, rfl⟩ := List.mem_map.mp hd
  exact lay_int
theorem any_bools {α : Type} (f : α → Bool) : ∀ l : List α, ((toPs (l.map fun i => D.bool (f i))).any fun y => PyData.eqv y (toP (.bool true))) = l.any f
  | [] => rfl
  | i :: l => by
    rw [List.map_cons, toPs, List.any_cons, List.any_cons, any_bools f l]
    show (f i == true || _) = _
    rw [beq_true]
theorem mul_small {a b : Int} (h1 : -(2 ^ 60) ≤ a) (h2 : a ≤ 2 ^ 60) : IntMulOk a b := IntMulOk.of_left (intBits_le_64 (by omega) (by omega))
end Mine
end
section
open PySem PySem.W PyProof.Rows PySem.SeqAt
namespace Mine
section
variable {prog : Program} {w : World} {A : Around} {env : Env} {h hb : Heap} {X : List Addr} {mg mb : Str → Option Value} {σ : Sg} {s s0 : Shared}
theorem get_last {ds : List D} {d : D} (hz : ds.length ≤ 1000000) : GetD prog w A X (.lst (ds ++ [d])) (.int (-1)) d :=
  get_li_neg (by decide) (by rw [List.length_append, List.length_singleton]; omega) (by decide) (by
    rw [List.length_append, List.length_singleton, show (-1 + ((ds.length + 1 : Nat) : Int)).toNat = ds.length by omega, List.getElem?_append_right (Nat.le_refl _), Nat.sub_self]; rfl)
theorem get_last2 {ds : List D} {d e : D} (hz : ds.length ≤ 1000000) : GetD prog w A X (.lst (ds ++ [d] ++ [e])) (.int (-2)) d :=
  get_li_neg (by decide) (by simp only [List.length_append, List.length_singleton]; omega) (by decide) (by
    simp only [List.length_append, List.length_singleton]
    rw [show (-2 + ((ds.length + 1 + 1 : Nat) : Int)).toNat = ds.length by omega, List.append_assoc, List.getElem?_append_right (Nat.le_refl _), Nat.sub_self]; rfl)
theorem mul_small_r {a b : Int} (h1 : -(2 ^ 60) ≤ b) (h2 : b ≤ 2 ^ 60) : IntMulOk a b := IntMulOk.of_right (intBits_le_64 (by omega) (by omega))
end
noncomputable abbrev abc : Str := Str.ofString "abcdef"
theorem abc_index {j : Nat} (h : j < 6) : Builtin.Str.occurrences abc ⟨#[97 + j]⟩ 0 abc.length 1 = [j] := by
  match j, h with
  | 0, _ => kernel_rfl
  | 1, _ => kernel_rfl
  | 2, _ => kernel_rfl
  | 3, _ => kernel_rfl
  | 4, _ => kernel_rfl
  | 5, _ => kernel_rfl
noncomputable abbrev so (l : List Nat) : Str := ⟨l.toArray⟩
theorem so_app (a b : List Nat) : so a ++ so b = so (a ++ b) := by
  show Str.mk (a.toArray ++ b.toArray) = _
  rw [List.append_toArray]
theorem so_len (a : List Nat) : (so a).length = a.length := List.size_toArray
theorem abc_get {i : Nat} (h : i < 6) : abc.cps[i]? = some (97 + i) := by
  match i, h with
  | 0, _ => kernel_rfl
  | 1, _ => kernel_rfl
  | 2, _ => kernel_rfl
  | 3, _ => kernel_rfl
  | 4, _ => kernel_rfl
  | 5, _ => kernel_rfl
noncomputable def pairD (p : Int × List Nat) : D := .tup [.int p.1, .str (so p.2)]
section
variable {prog : Program} {w : World} {A : Around} {env : Env} {h hb : Heap} {X : List Addr} {mg mb : Str → Option Value} {σ : Sg} {s s0 : Shared}
theorem ev_so {x : Str} {l : List Nat} {k : Nat} {pos : Pos} (e : x = so l) : Gv prog w A h X (eval (.Constant (.str x) k pos) env) (.str (so l)) := e ▸ ev_str
theorem add_so {a b : List Nat} (hz : a.length + b.length ≤ sizeLine) : BinD prog w A X .Add (.str (so a)) (.str (so b)) (.str (so (a ++ b))) := by
  have := add_ss (prog := prog) (w := w) (A := A) (X := X) (a := so a) (b := so b) (by rw [so_len, so_len]; exact hz)
  rwa [so_app] at this

theorem sw_true {y : Str} {elt : Expr} {gens : List Comprehension} {scope : Scope} {pos py : Pos} {ln : Nat} (eo : EnvOk env) (hy : env.kindOf y = some .local) (hl : (py.line == pos.line) = true)
    (hn : (scope.names.any fun p => p.1 == y && (p.2 == .local || p.2 == .cell)) = false) : swapsWith (.ListComp elt gens scope pos) (some (.Name y py)) ln env = pure true := by
  unfold swapsWith
  have e1 : env.blockKind = .function := by unfold Env.blockKind; rw [eo.kind]; rfl
  have e2 : (Expr.ListComp elt gens scope pos).pos = pos := rfl
  dsimp only
  rw [e1, hy, e2, hl]
  have e3 : (scope.names.any fun (p : Str × NameKind) => match p with | (n, k) => n == y && (k == NameKind.local || k == NameKind.cell)) = false := hn
  rw [e3]; rfl
theorem sw_cell {y : Str} {elt : Expr} {gens : List Comprehension} {scope : Scope} {pos py : Pos} {ln : Nat} (hy : env.kindOf y = some .cell) : swapsWith (.ListComp elt gens scope pos) (some (.Name y py)) ln env = pure false := by
  unfold swapsWith
  dsimp only
  rw [hy]
  have e : (env.blockKind == ScopeKind.function && some NameKind.cell == some NameKind.local) = false := by
    rw [show (some NameKind.cell == some NameKind.local) = false from rfl, Bool.and_false]
  rw [e]; rfl
/-- y = [elt for x in iter if ..] -/
theorem st_comp1 {x y : Str} {px py : Pos} {elt iter : Expr} {ifs : List Expr} {scope : Scope} {pos spos : Pos} {rest : List Stmt} {items : List D} {Q : Flow → Shared → Prop} {E : Value → Shared → Prop} (p : D → Bool) (fe : D → D) (fv : List (Str × D)) (hA : A.handled = none) (f : Fm hb env) (q : St s0 hb env X σ s)
    (hv : ∀ n d, fv.lookup n = some d → Var env s.heap X n d ∧ env.kindOf n ≠ some .local) (hi : Gi prog w A s.heap X env iter items) (hz : items.length ≤ sizeLine)
    (hx : scope.names.lookup x = some .local ∨ scope.names.lookup x = some .cell) (hxf : fv.lookup x = none)
    (htest : ∀ (cenv : Env) (h' : Heap) (X' : List Addr) (d : D), d ∈ items → EnvOk cenv → KN scope cenv → Kp s.heap h' → Var cenv h' X' x d → (∀ n d', fv.lookup n = some d' → Var cenv h' X' n d') → Gt prog w A h' X' cenv ifs (p d))
    (helt : ∀ (cenv : Env) (h' : Heap) (X' : List Addr) (d : D), d ∈ items → p d = true → EnvOk cenv → KN scope cenv → Kp s.heap h' → Var cenv h' X' x d → (∀ n d', fv.lookup n = some d' → Var cenv h' X' n d') → Gv prog w A h' X' (eval elt cenv) (fe d))
    (hy : env.kindOf y = some .local) (hl : (py.line == pos.line) = true) (hny : (scope.names.any fun p => p.1 == y && (p.2 == .local || p.2 == .cell)) = false)
    (hc : ∀ y ∈ scope.names, y.2 = .free → (y.1 == ("__classdict__" : Str)) = false ∧ ∃ d, fv.lookup y.1 = some d)
    (hfv : ∀ n d, fv.lookup n = some d → scope.names.lookup n = some .free)
    (hn : ∀ s', St s0 hb env X (upd σ y (.d (.lst ((items.filter p).map fe)))) s' → wpAny (model prog w) A (execs rest env) Q E s')
    (hkind : scope.kind = .function := by rfl) (hdist : ∀ y ∈ scope.names, scope.names.lookup y.1 = some y.2 := by decide +kernel)
    (hs : ∀ x, foldedSetIterable iter env x = pure x := by intro _; rfl) :
    wpAny (model prog w) A (execs (.Assign [.Name y py] (.ListComp elt [⟨.Name x px, iter, ifs, 0⟩] scope pos) spos :: rest) env) Q E s :=
  st_comp (σ1 := fun d => upd (sg0 fv) x (.d d)) hA f q hv hi hz (fun cenv hb' X' s' s0 d v I E' hd fm sto q r hI => asg_name fm (sto x hx) q r) (fun d => up_sg0 hxf)
    (fun cenv h' X' d hd eo' kn kp hvar => htest cenv h' X' d hd eo' kn kp (hvar _ _ upd_self_eq) fun n d' e => hvar n d' (up_sg0 hxf _ _ (fv_sg0 e)))
    (fun cenv h' X' d hd hp eo' kn kp hvar => helt cenv h' X' d hd hp eo' kn kp (hvar _ _ upd_self_eq) fun n d' e => hvar n d' (up_sg0 hxf _ _ (fv_sg0 e))) hy hn (sw_true f.eo hy hl hny) hc hfv hkind hdist hs
theorem st_compn {x y : Str} {px py : Pos} {elt iter : Expr} {scope : Scope} {pos spos : Pos} {rest : List Stmt} {items : List D} {Q : Flow → Shared → Prop} {E : Value → Shared → Prop} (fe : D → D) (fv : List (Str × D)) (hA : A.handled = none) (f : Fm hb env) (q : St s0 hb env X σ s)
    (hv : ∀ n d, fv.lookup n = some d → Var env s.heap X n d ∧ env.kindOf n ≠ some .local) (hi : Gi prog w A s.heap X env iter items) (hz : items.length ≤ sizeLine)
    (hx : scope.names.lookup x = some .local ∨ scope.names.lookup x = some .cell) (hxf : fv.lookup x = none)
    (helt : ∀ (cenv : Env) (h' : Heap) (X' : List Addr) (d : D), d ∈ items → EnvOk cenv → KN scope cenv → Kp s.heap h' → Var cenv h' X' x d → (∀ n d', fv.lookup n = some d' → Var cenv h' X' n d') → Gv prog w A h' X' (eval elt cenv) (fe d))
    (hy : env.kindOf y = some .local) (hl : (py.line == pos.line) = true) (hny : (scope.names.any fun p => p.1 == y && (p.2 == .local || p.2 == .cell)) = false)
    (hc : ∀ y ∈ scope.names, y.2 = .free → (y.1 == ("__classdict__" : Str)) = false ∧ ∃ d, fv.lookup y.1 = some d)
    (hfv : ∀ n d, fv.lookup n = some d → scope.names.lookup n = some .free)
    (hn : ∀ s', St s0 hb env X (upd σ y (.d (.lst (items.map fe)))) s' → wpAny (model prog w) A (execs rest env) Q E s')
    (hkind : scope.kind = .function := by rfl) (hdist : ∀ y ∈ scope.names, scope.names.lookup y.1 = some y.2 := by decide +kernel)
    (hs : ∀ x, foldedSetIterable iter env x = pure x := by intro _; rfl) :
    wpAny (model prog w) A (execs (.Assign [.Name y py] (.ListComp elt [⟨.Name x px, iter, [], 0⟩] scope pos) spos :: rest) env) Q E s :=
  st_comp1 (fun _ => true) fe fv hA f q hv hi hz hx hxf (fun _ _ _ _ _ _ _ _ _ _ => gt_nil) (fun cenv h' X' d hd _ => helt cenv h' X' d hd) hy hl hny hc hfv (fun s' q' => by rw [filter_true] at q'; exact hn s' q') hkind hdist hs
noncomputable def iOf : D → Int
  | .int i => i
  | _ => 0
/-- [elt for x, y in rows] -/
theorem ev_rows {x y : Str} {p1 p2 tp : Pos} {tk : Nat} {elt iter : Expr} {scope : Scope} {pos : Pos} {R : List (Int × Int)} {rp : Int × Int → D} (hrp : ∀ p, rp p = .tup [.int p.1, .int p.2]) (fe : Int × Int → D) (hA : A.handled = none) (eo : EnvOk env)
    (hi : Gv prog w A h X (eval iter env) (.lst (R.map rp))) (hz : R.length ≤ 1000)
    (hx : scope.names.lookup x = some .local) (hy : scope.names.lookup y = some .local) (hxy : x ≠ y)
    (helt : ∀ (cenv : Env) (h' : Heap) (X' : List Addr) (p : Int × Int), EnvOk cenv → KN scope cenv → Kp h h' → Var cenv h' X' x (.int p.1) → Var cenv h' X' y (.int p.2) → Gv prog w A h' X' (eval elt cenv) (fe p))
    (hc : ∀ y ∈ scope.names, y.2 ≠ .free)
    (hkind : scope.kind = .function := by rfl) (hdist : ∀ y ∈ scope.names, scope.names.lookup y.1 = some y.2 := by decide +kernel)
    (hs : ∀ x, foldedSetIterable iter env x = pure x := by intro _; rfl) :
    Gv prog w A h X (eval (.ListComp elt [⟨.Tuple [.Name x p1, .Name y p2] tk tp, iter, [], 0⟩] scope pos) env) (.lst (R.map fe)) := by
  have hsl := sizeLine_val
  have hi' : Gi prog w A h X env iter ((R.map fun p => (D.int p.1, D.int p.2)).map fun p => D.tup [p.1, p.2]) := by
    rw [List.map_map, show ((fun p : D × D => D.tup [p.1, p.2]) ∘ fun p : Int × Int => (D.int p.1, D.int p.2)) = rp from funext fun p => (hrp p).symm]
    exact gi_list hi
  refine Gv.cast (ev_comp2 (fun d => fe (iOf d.1, iOf d.2)) hA eo hi' (by rw [List.length_map]; omega) hx hy hxy (fun cenv h' X' d hd eo' kn kp h1 h2 => ?_) hc hkind hdist hs) ?_
  · obtain ⟨p, _, rfl⟩ := List.mem_map.mp hd
    exact helt cenv h' X' p eo' kn kp h1 h2
  · rw [List.map_map]; rfl
end
end Mine
end
section
open PySem PySem.W PyProof.Rows PySem.SeqAt
open PySem.MeetsSeq PySem.MeetsSeq2 PySem.MeetsSeq3 PySem.SeqRoads2
open AutoSeq1 (wpAny_loadPart')
namespace Mine
noncomputable def lexLt : List Int → List Int → Bool
  | [], [] => false
  | [], _ :: _ => true
  | _ :: _, [] => false
  | x :: xs, y :: ys => if x = y then lexLt xs ys else decide (x < y)
section
variable {prog : Program} {w : World} {A : Around} {E : Value → Shared → Prop} {s : Shared}
theorem rcomp_lt {a b : Int} {t u : Tok} {Q : Value → Shared → Prop} (h : Q (.bool (decide (a < b))) s) : wpAny (model prog w) A (richCompare .Lt (.int a t) (.int b u)) Q E s := PyProof.Rows.lt_int h
theorem rcomp_gt {a b : Int} {t u : Tok} {Q : Value → Shared → Prop} (h : Q (.bool (decide (b < a))) s) : wpAny (model prog w) A (richCompare .Gt (.int a t) (.int b u)) Q E s := PyProof.Rows.gt_int h
theorem lt_loopI (l b : Addr) (vs us : List Value) (n m : Nat) (xs ys : List Int) (X : List Addr) (he : xs.length = ys.length) (k : Nat) :
    ∀ i : Nat, xs.length - i = k → i ≤ xs.length → Meets (Builtin.«list.__eq__.loop» ⟨[.ref l, .ref b, rawInt i, rawInt 0], []⟩)
      (fun A R s => s.heap.get? l = some (LO vs n) ∧ s.heap.get? b = some (LO us m) ∧ Rds X s.heap vs (xs.map .int) ∧ Rds X s.heap us (ys.map .int) ∧
        R (.ok (.ret (.bool (lexLt (xs.drop i) (ys.drop i))))) s) := by
  induction k with
  | zero =>
    intro i hk hi prog w A R s h
    obtain ⟨hp, g, d, tk, os⟩ := s; obtain ⟨hl, hb, rx, ry, h⟩ := h
    have hlx := rx.length
    have hly := ry.length
    rw [List.length_map] at hlx hly
    unfold LO at hl hb
    wp_walk using wpAny_loadPart' hl, wpAny_loadPart' hb
    have hi1 : vs.toArray[((i : Nat) : Int).toNat]? = none := by simp; omega
    have hi2 : us.toArray[((i : Nat) : Int).toNat]? = none := by simp; omega
    rw [hi1, hi2]
    wp_walk using wpAny_loadPart' hl, wpAny_loadPart' hb
    show R (.ok (.ret (.bool (decide (vs.toArray.size < us.toArray.size))))) _
    rw [List.drop_of_length_le (by omega), List.drop_of_length_le (by omega)] at h
    rw [decide_eq_false (by rw [List.size_toArray, List.size_toArray]; omega)]
    exact h
  | succ k ih =>
    intro i hk hi prog w A R s h
    obtain ⟨hp, g, d, tk, os⟩ := s; obtain ⟨hl, hb, rx, ry, h⟩ := h
    have hlx := rx.length
    have hly := ry.length
    rw [List.length_map] at hlx hly
    have hl' := hl
    have hb' := hb
    unfold LO at hl hb
    wp_walk using wpAny_loadPart' hl, wpAny_loadPart' hb
    have h1 : i < xs.length := by omega
    have h2 : i < ys.length := by omega
    obtain ⟨v, hv, t, rfl⟩ := rx.get (i := i) (d := .int xs[i]) (by rw [List.getElem?_map, List.getElem?_eq_getElem h1]; rfl)
    obtain ⟨u, hu, t2, rfl⟩ := ry.get (i := i) (d := .int ys[i]) (by rw [List.getElem?_map, List.getElem?_eq_getElem h2]; rfl)
    have hi1 : vs.toArray[((i : Nat) : Int).toNat]? = some (.int xs[i] t) := by rw [Int.toNat_natCast, List.getElem?_toArray]; exact hv
    have hi2 : us.toArray[((i : Nat) : Int).toNat]? = some (.int ys[i] t2) := by rw [Int.toNat_natCast, List.getElem?_toArray]; exact hu
    have hd1 : xs.drop i = xs[i] :: xs.drop (i + 1) := List.drop_eq_getElem_cons h1
    have hd2 : ys.drop i = ys[i] :: ys.drop (i + 1) := List.drop_eq_getElem_cons h2
    have hc : ((i : Int) + 1) = ((i + 1 : Nat) : Int) := by push_cast; rfl
    rw [hd1, hd2, lexLt] at h
    rw [hi1, hi2]
    refine wpAny_bind (wpAny_eqBool_int ?_)
    by_cases hq : xs[i] = ys[i]
    · rw [show (xs[i] == ys[i]) = true from beq_iff_eq.mpr hq]
      rw [if_pos hq] at h
      wp_walk
      rw [hc]
      exact ⟨plainId_quiet plain_eq_loop _, codeAny_builtin entry_eq_loop (by
        rw [Around.under_plainId plain_eq_loop _]
        exact ih (i + 1) (by omega) (by omega) prog w A R _ ⟨hl', hb', rx, ry, h⟩)⟩
    · rw [show (xs[i] == ys[i]) = false from beq_eq_false_iff_ne.mpr hq]
      rw [if_neg hq] at h
      wp_walk using wpAny_loadPart' hl, wpAny_loadPart' hb
      rw [hi1, hi2]
      refine wpAny_bind (rcomp_lt ?_)
      wp_walk
      exact h
theorem list_ltI (l b : Addr) (vs us : List Value) (n m : Nat) (xs ys : List Int) (X : List Addr) (he : xs.length = ys.length) :
    Meets (Builtin.«list.__lt__» ⟨[.ref l, .ref b], []⟩)
      (fun A R s => s.heap.get? l = some (LO vs n) ∧ s.heap.get? b = some (LO us m) ∧ Rds X s.heap vs (xs.map .int) ∧ Rds X s.heap us (ys.map .int) ∧ R (.ok (.ret (.bool (lexLt xs ys)))) s) := by
  intro prog w A R s h
  obtain ⟨hp, g, d, tk, os⟩ := s; obtain ⟨hl, hb, rx, ry, h⟩ := h
  have f3 := AutoSeq1.sub_list_list
  unfold LO at hl hb
  wp_walk using wpAny_loadPart' hl, wpAny_loadPart' hb
  exact ⟨plainId_quiet plain_eq_loop _, codeAny_builtin entry_eq_loop (by
    rw [Around.under_plainId plain_eq_loop _]
    exact lt_loopI l b vs us n m xs ys X he _ 0 rfl (Nat.zero_le _) prog w A R _ ⟨hl, hb, rx, ry, by simpa using h⟩)⟩
end
section
variable {prog : Program} {w : World} {A : Around} {E : Value → Shared → Prop} {s : Shared} {X : List Addr}
/-- two lists of ints of one length, compared -/
theorem rcomp_lists {v u : Value} {xs ys : List Int} {Q : Value → Shared → Prop} (hu : A.units < cLine) (he : xs.length = ys.length) (r1 : Rd X s.heap v (.lst (xs.map .int))) (r2 : Rd X s.heap u (.lst (ys.map .int))) (hQ : Q (.bool (lexLt xs ys)) s) :
    wpAny (model prog w) A (richCompare .Lt v u) Q E s := by
  obtain ⟨a, vs, n, rfl, _, hg, hr⟩ := r1
  obtain ⟨b, us, m, rfl, _, hg2, hr2⟩ := r2
  exact richCompare_meets_room (op := .Lt) (lo_isList hg).typeIs (lo_isList hg2).typeIs PySem.F.slot_list_lt PySem.F.entry_list_lt (PySem.F.args_list_lt_2 _ _) (list_ltI a b vs us n m xs ys X he) ⟨hg, hg2, hr, hr2, ⟨(fun e => nomatch e), hQ⟩⟩ hu
end
end Mine
end
section
open PySem PySem.W PyProof.Rows PySem.SeqAt
open PySem.MeetsSeq PySem.MeetsSeq2 PySem.MeetsSeq3 PySem.SeqRoads2
open AutoSeq1 (wpAny_loadPart')
namespace Mine
section
variable {prog : Program} {w : World} {A : Around} {E : Value → Shared → Prop} {s : Shared}
theorem tuple_ltI (l b : Addr) (a c : Int) (t t2 : Tok) (v u : Value) (n m : Nat) (hac : a ≠ c) :
    Meets (Builtin.«tuple.__lt__» ⟨[.ref l, .ref b], []⟩)
      (fun A R s => s.heap.get? l = some (TO [.int a t, v] n) ∧ s.heap.get? b = some (TO [.int c t2, u] m) ∧ R (.ok (.ret (.bool (decide (a < c))))) s) :=
  .of_wp fun prog w A R s h => by
    obtain ⟨hp, g, d, tk, os⟩ := s; obtain ⟨hl, hb, h⟩ := h
    have f2 := AutoSeq1.sub_tuple_tuple
    unfold TO at hl hb
    wp_walk using wpAny_loadPart' hl, wpAny_loadPart' hb, wpAny_forIn_list _ (fun rest b s' => b.1 = none ∧ s' = ⟨hp, g, d, tk, os⟩ ∧ rest = [(Value.int a t, Value.int c t2), (v, u)]) _
    case turn =>
      rintro ⟨y, x⟩ rest b s' ⟨hb', rfl, hz⟩
      injection hz with hyx hrest
      obtain ⟨rfl, rfl⟩ := Prod.mk.inj hyx
      refine wpAny_bind (wpAny_eqBool_int ?_)
      rw [show (a == c) = false from beq_eq_false_iff_ne.mpr hac]
      wp_walk using rcomp_lt
      exact ⟨_, rfl, h⟩
    case fin =>
      rintro ⟨b1, b2⟩ s' ⟨hb', rfl, hz⟩
      cases hz
    case h =>
      exact ⟨rfl, rfl, rfl⟩
theorem tuple_gtI (l b : Addr) (a c : Int) (t t2 : Tok) (v u : Value) (n m : Nat) (hac : a ≠ c) :
    Meets (Builtin.«tuple.__gt__» ⟨[.ref l, .ref b], []⟩)
      (fun A R s => s.heap.get? l = some (TO [.int a t, v] n) ∧ s.heap.get? b = some (TO [.int c t2, u] m) ∧ R (.ok (.ret (.bool (decide (c < a))))) s) :=
  .of_wp fun prog w A R s h => by
    obtain ⟨hp, g, d, tk, os⟩ := s; obtain ⟨hl, hb, h⟩ := h
    have f2 := AutoSeq1.sub_tuple_tuple
    unfold TO at hl hb
    wp_walk using wpAny_loadPart' hl, wpAny_loadPart' hb, wpAny_forIn_list _ (fun rest b s' => b.1 = none ∧ s' = ⟨hp, g, d, tk, os⟩ ∧ rest = [(Value.int a t, Value.int c t2), (v, u)]) _
    case turn =>
      rintro ⟨y, x⟩ rest b s' ⟨hb', rfl, hz⟩
      injection hz with hyx hrest
      obtain ⟨rfl, rfl⟩ := Prod.mk.inj hyx
      refine wpAny_bind (wpAny_eqBool_int ?_)
      rw [show (a == c) = false from beq_eq_false_iff_ne.mpr hac]
      wp_walk using rcomp_gt
      exact ⟨_, rfl, h⟩
    case fin =>
      rintro ⟨b1, b2⟩ s' ⟨hb', rfl, hz⟩
      cases hz
    case h =>
      exact ⟨rfl, rfl, rfl⟩
end
section
variable {prog : Program} {w : World} {A : Around} {E : Value → Shared → Prop} {s : Shared} {X : List Addr}
/-- a pair of an int and something -/
noncomputable def pr (a : Int) (d : D) : D := .tup [.int a, d]
theorem pr_inv {h : Heap} {v : Value} {a : Int} {d : D} (r : Rd X h v (pr a d)) : ∃ l n t u, v = .ref l ∧ h.get? l = some (TO [.int a t, u] n) := by
  obtain ⟨l, vs, n, rfl, _, hg, hr⟩ := r
  obtain ⟨v1, v2, rfl, ⟨t, rfl⟩, _⟩ := hr.two
  exact ⟨l, n, t, v2, rfl, hg⟩
theorem rcomp_prs_lt {v u : Value} {a c : Int} {d e : D} {Q : Value → Shared → Prop} (hu : A.units < cLine) (hac : a ≠ c) (r1 : Rd X s.heap v (pr a d)) (r2 : Rd X s.heap u (pr c e)) (hQ : Q (.bool (decide (a < c))) s) :
    wpAny (model prog w) A (richCompare .Lt v u) Q E s := by
  obtain ⟨l, n, t, v2, rfl, hg⟩ := pr_inv r1
  obtain ⟨b, m, t2, u2, rfl, hg2⟩ := pr_inv r2
  exact richCompare_meets_room (op := .Lt) (to_isTup hg).typeIs (to_isTup hg2).typeIs PySem.F.slot_tuple_lt PySem.F.entry_tuple_lt (PySem.F.args_tuple_lt_2 _ _) (tuple_ltI l b a c t t2 v2 u2 n m hac) ⟨hg, hg2, ⟨(fun e => nomatch e), hQ⟩⟩ hu
theorem rcomp_prs_gt {v u : Value} {a c : Int} {d e : D} {Q : Value → Shared → Prop} (hu : A.units < cLine) (hac : a ≠ c) (r1 : Rd X s.heap v (pr a d)) (r2 : Rd X s.heap u (pr c e)) (hQ : Q (.bool (decide (c < a))) s) :
    wpAny (model prog w) A (richCompare .Gt v u) Q E s := by
  obtain ⟨l, n, t, v2, rfl, hg⟩ := pr_inv r1
  obtain ⟨b, m, t2, u2, rfl, hg2⟩ := pr_inv r2
  exact richCompare_meets_room (op := .Gt) (to_isTup hg).typeIs (to_isTup hg2).typeIs PySem.F.slot_tuple_gt PySem.F.entry_tuple_gt (PySem.F.args_tuple_gt_2 _ _) (tuple_gtI l b a c t t2 v2 u2 n m hac) ⟨hg, hg2, ⟨(fun e => nomatch e), hQ⟩⟩ hu
theorem lt_prs {a c : Int} {d e : D} (hu : A.units < cLine) (hac : a ≠ c) : CmpD prog w A X .Lt (pr a d) (pr c e) (decide (a < c)) := fun h v1 v2 r1 r2 hX s Q E hk hQ => rcomp_prs_lt hu hac (r1.up hk) (r2.up hk) (hQ _ _ keeps_refl rfl)
theorem gt_prs {a c : Int} {d e : D} (hu : A.units < cLine) (hac : a ≠ c) : CmpD prog w A X .Gt (pr a d) (pr c e) (decide (c < a)) := fun h v1 v2 r1 r2 hX s Q E hk hQ => rcomp_prs_gt hu hac (r1.up hk) (r2.up hk) (hQ _ _ keeps_refl rfl)
end
end Mine
end
section
open PySem PySem.W PyProof.Rows PySem.SeqAt
namespace Mine
theorem argBest_le (bt : Nat → Nat → Bool) : ∀ k, argBest bt k ≤ k
  | 0 => Nat.le_refl _
  | k + 1 => by
    rw [argBest]
    split
    · exact Nat.le_refl _
    · have := argBest_le bt k; omega
section
variable {prog : Program} {w : World} {A : Around} {R : Result → Shared → Prop} {I : Addr} {fp wr : List Addr} {n : Nat} {P : Nat → Value → Prop} {Z : Nat → Heap → Prop} {hb : Heap} {X : List Addr} {s : Shared}

theorem max_turns (W : Walks prog w A.in1 I fp wr n P Z) (bt : Nat → Nat → Bool) (hcmp : ∀ i j vi vj (s : Shared) (Q : Value → Shared → Prop) (E : Value → Shared → Prop), j < i → Kp hb s.heap → P i vi → P j vj → Q (.bool (bt i j)) s → wpAny (model prog w) A.in1 (richCompare .Gt vi vj) Q E s)
    (S : Addr) (hSf : S ∉ fp) (hSb : hb.get? S = none) (hwb : ∀ b ∈ wr, hb.get? b = none) :
    ∀ (k j : Nat) (s : Shared) (vb : Value) (c : Nat), n - (j + 1) = k → j + 1 ≤ n → Kp hb s.heap → Z (j + 1) s.heap → P (argBest bt j) vb →
    s.heap.get? S = some { cls := .type "list", dict := none, data := .seq #[vb, vb] c, slots := #[] } →
    (∀ v h' tk, P (argBest bt (n - 1)) v → (∀ b o, b ∉ wr → b ≠ S → s.heap.get? b = some o → h'.get? b = some o) → R (.ok (.ret v)) { s with heap := h', toks := tk }) →
    codeAny (model prog w) A (.builtin "max.loop" ⟨[.ref I, .none, .ref S], []⟩) R s := by
  have hSw : S ∉ wr := fun h => hSf (W.sub _ h)
  have hname : (toString "max" ++ toString ".loop" : String) = "max.loop" := by decide
  intro k
  induction k with
  | zero =>
    intro j s vb c hk hj hkp hst hPb hS hR
    have hin : j + 1 = n := by omega
    refine codeAny_builtin PySem.F.entry_max_loop ?_
    rw [Around.under_plainId PySem.F.plain_max_loop _]
    show wpAny _ A.in1 (seqItems? (.ref S) >>= _) _ _ s
    refine wpAny_bind (wpAny_seqItems hS rfl ?_)
    show wpAny _ A.in1 (tryCatch (pyNext (.ref I)) _ >>= _) _ _ s
    refine wpAny_bind (wpAny_tryCatch (W.done s _ _ (hin ▸ hst) fun h' tk hk' => ?_))
    have hS' := hk' S _ hSw hS
    show wpAny _ A.in1 (updateSeq S (fun _ => #[]) >>= _) _ _ _
    refine wpAny_bind (wpAny_updateSeq hS' rfl (wpAny_bind (wpAny_letGo (wpAny_pure ?_))))
    exact hR vb _ tk (by rw [← hin]; exact hPb) fun b o hbw hbS e => (Heap.get?_update_other _ _ (Ne.symm hbS)).trans (hk' b o hbw e)
  | succ k ih =>
    intro j s vb c hk hj hkp hst hPb hS hR
    have hlt : j + 1 < n := by omega
    refine codeAny_builtin PySem.F.entry_max_loop ?_
    rw [Around.under_plainId PySem.F.plain_max_loop _]
    show wpAny _ A.in1 (seqItems? (.ref S) >>= _) _ _ s
    refine wpAny_bind (wpAny_seqItems hS rfl ?_)
    show wpAny _ A.in1 (tryCatch (pyNext (.ref I)) _ >>= _) _ _ s
    refine wpAny_bind (wpAny_tryCatch (W.item (j + 1) s _ _ hlt hst fun v h' tk hP hst' hk' => ?_))
    have hS' := hk' S _ hSw hS
    have hkp' : Kp hb h' := fun b o e => hk' b o (fun hm => by rw [hwb b hm] at e; cases e) (hkp b o e)
    show wpAny _ A.in1 (tryCatch (holding [v, v] (richCompare .Gt v vb >>= _)) _ >>= _) _ _ _
    refine wpAny_bind (wpAny_tryCatch (wpAny_holding (wpAny_bind (hcmp (j + 1) (argBest bt j) v vb _ _ _ (by have := argBest_le bt j; omega) hkp' hP hPb ?_))))
    refine wpAny_bind (wpAny_holding (wpAny_truthy_bool ?_))
    refine wpAny_bind (wpAny_letGo (wpAny_pure ?_))
    cases hbt : bt (j + 1) (argBest bt j) with
    | true =>
      simp only [if_true]
      refine wpAny_bind (wpAny_updateSeq hS' rfl (wpAny_bind (wpAny_letGo ?_)))
      rw [hname]
      refine wpAny_pure ⟨plainId_quiet PySem.F.plain_max_loop _, ih (j + 1) _ v _ (by omega) hlt (fun b o e => (Heap.get?_update_other _ _ (fun h : S = b => by rw [← h, hSb] at e; cases e)).trans (hkp' b o e)) (W.frame _ _ _ hst' fun b hbf o e => ?_) (by simp only [argBest, hbt, if_true]; exact hP) (Heap.get?_update_self _ hS' rfl)
        fun v' h'' tk'' hP' hk'' => ?_⟩
      · exact (Heap.get?_update_other _ _ (fun h : S = b => hSf (by rw [h]; exact hbf))).trans e
      · exact hR v' h'' tk'' hP' fun b o hbw hbS e => hk'' b o hbw hbS ((Heap.get?_update_other _ _ (Ne.symm hbS)).trans (hk' b o hbw e))
    | false =>
      simp only [Bool.false_eq_true, if_false]
      refine wpAny_bind (wpAny_letGo ?_)
      rw [hname]
      refine wpAny_pure ⟨plainId_quiet PySem.F.plain_max_loop _, ih (j + 1) _ vb c (by omega) hlt hkp' hst' (by simp only [argBest, hbt, Bool.false_eq_true, if_false]; exact hPb) hS' fun v' h'' tk'' hP' hk'' => ?_⟩
      exact hR v' h'' tk'' hP' fun b o hbw hbS e => hk'' b o hbw hbS (hk' b o hbw e)
theorem max_data {v0 : Value} {items : List D} {Q : Value → Shared → Prop} {E : Value → Shared → Prop} (hA : A.handled = none) (bt : Nat → Nat → Bool) {d0 : D} (hd0 : items[argBest bt (items.length - 1)]? = some d0) (hne : 0 < items.length)
    (hcmp : ∀ i j di dj vi vj (s : Shared) (Q : Value → Shared → Prop) (E : Value → Shared → Prop), j < i → items[i]? = some di → items[j]? = some dj → Rd X s.heap vi di → Rd X s.heap vj dj → Q (.bool (bt i j)) s → wpAny (model prog w) A.in1 (richCompare .Gt vi vj) Q E s)
    (r : Rd X s.heap v0 (.lst items)) (hQ : ∀ v s', Kps s s' → Rd X s'.heap v d0 → Q v s') : wpAny (model prog w) A (call (.builtin "max") [v0]) Q E s := by
  have hname : (toString "max" ++ toString ".loop" : String) = "max.loop" := by decide
  obtain ⟨a, vs, n, rfl, hX, hg, hr⟩ := r
  have hlen := hr.length
  refine call_function_tree PySem.F.kind_max PySem.F.plain_max PySem.F.entry_max (PySem.F.args_max1 _) ?_
  show wpAny _ A.in1 (Builtin.Builtins.bindParams "max" ["key", "default"] 0 ⟨[], []⟩ >>= _) _ _ s
  refine wpAny_bind (wpAny_of_eq (show Builtin.Builtins.bindParams "max" ["key", "default"] 0 ⟨[], []⟩ = pure [none, none] from rfl) ?_)
  refine wpAny_bind (wpAny_pure ?_)
  refine wpAny_bind (wpAny_pyIter_list (lo_isList hg) ?_)
  refine wpAny_bind (wpAny_newObj_type ?_)
  generalize hI : s.heap.objs.size = I
  generalize hh1 : s.heap.push { cls := .type "list_iterator", data := .fields #[.ref a, .int 0 0] } = h1
  have hsz : h1.objs.size = I + 1 := by rw [← hh1, Heap.size_push, hI]
  have W := Walks.list (prog := prog) (w := w) (A := A.in1) hA I a (by rw [← hI]; exact Nat.ne_of_lt (Heap.lt_size hg)) vs.toArray
  have kp1 : Kp s.heap h1 := by rw [← hh1]; exact kp_push
  have noI : s.heap.get? I = none := by
    cases e : s.heap.get? I with
    | none => rfl
    | some o => exact absurd (Heap.lt_size e) (by rw [hI]; exact Nat.lt_irrefl _)
  have noS : s.heap.get? (I + 1) = none := by
    cases e : s.heap.get? (I + 1) with
    | none => rfl
    | some o => exact absurd (Heap.lt_size e) (by rw [hI]; exact Nat.not_lt.mpr (Nat.le_succ _))
  have hit : h1.IsListIter I a 0 := by rw [← hh1, ← hI]; exact ⟨_, Heap.get?_push_size _ rfl, rfl, rfl⟩
  have hal : a < I := by rw [← hI]; exact Heap.lt_size hg
  have hSf : I + 1 ∉ [I, a] := fun hm => by
    rcases List.mem_cons.mp hm with h | h
    · exact Nat.succ_ne_self I h
    · rw [← List.mem_singleton.mp h] at hal; exact Nat.not_succ_lt_self hal
  have hss : vs.toArray.size = items.length := by rw [List.size_toArray, hlen]
  dsimp only
  rw [hsz, hname]
  have val : ∀ {i : Nat} {v : Value}, vs.toArray[i]? = some v → ∃ d, items[i]? = some d ∧ Rd X s.heap v d := fun {i v} e => hr.getV (by rw [List.getElem?_toArray] at e; exact e)
  have cmp : ∀ i j vi vj (s' : Shared) (Q : Value → Shared → Prop) (E : Value → Shared → Prop), j < i → Kp s.heap s'.heap → vs.toArray[i]? = some vi → vs.toArray[j]? = some vj → Q (.bool (bt i j)) s' → wpAny (model prog w) A.in1 (richCompare .Gt vi vj) Q E s' := fun i j vi vj s' Q E hij hk hi hj hq => by
    obtain ⟨di, hdi, ri⟩ := val hi
    obtain ⟨dj, hdj, rj⟩ := val hj
    exact hcmp i j di dj vi vj s' Q E hij hdi hdj (ri.up hk) (rj.up hk) hq
  have fin : ∀ v h' tk, vs.toArray[argBest bt (vs.toArray.size - 1)]? = some v → Kp s.heap h' → Q v { s with heap := h', toks := tk } := fun v h' tk hv hk => by
    obtain ⟨d, hd, rd⟩ := val hv
    rw [hss] at hd
    rw [hd0] at hd
    cases hd
    exact hQ v _ (keeps_heap hk) (rd.up hk)
  have hSw : I + 1 ∉ [I] := by simp
  have kp2 : Kp s.heap (h1.push { cls := .type "list", data := .seq #[] }) := kp1.trans kp_push
  have hS : (h1.push { cls := .type "list", data := .seq #[] }).get? (I + 1) = some { cls := .type "list", data := .seq #[] } := by rw [← hsz]; exact Heap.get?_push_size _ rfl
  refine wpAny_pure ⟨plainId_quiet PySem.F.plain_max_loop _, ?_⟩
  refine codeAny_builtin PySem.F.entry_max_loop ?_
  rw [Around.under_plainId PySem.F.plain_max_loop _]
  show wpAny _ A.in1 (seqItems? (.ref (I + 1)) >>= _) _ _ _
  refine wpAny_bind (wpAny_seqItems hS rfl ?_)
  show wpAny _ A.in1 (tryCatch (pyNext (.ref I)) _ >>= _) _ _ _
  refine wpAny_bind (wpAny_tryCatch (W.item 0 _ _ _ (by rw [hss]; exact hne) (W.frame _ _ _ ⟨hit, lo_isList (n := n) (kp1 _ _ hg)⟩ fun b _ o e => kp_push _ _ e) fun v h' tk hP hst' hk' => ?_))
  have hS' := hk' (I + 1) _ hSw hS
  have kp3 : Kp s.heap h' := fun b o e => hk' b o (fun hm => by rw [List.mem_singleton.mp hm, noI] at e; cases e) (kp2 b o e)
  show wpAny _ A.in1 (updateSeq (I + 1) (fun _ => #[v, v]) >>= _) _ _ _
  refine wpAny_bind (wpAny_updateSeq hS' rfl ?_)
  rw [hname]
  refine wpAny_pure ⟨plainId_quiet PySem.F.plain_max_loop _, max_turns (hb := s.heap) W bt cmp (I + 1) hSf noS (fun b hm => by rw [List.mem_singleton.mp hm]; exact noI) _ 0 _ v _ rfl (by rw [hss]; exact hne) (fun b o e => (Heap.get?_update_other _ _ (fun h : I + 1 = b => by rw [← h, noS] at e; cases e)).trans (kp3 b o e)) (W.frame _ _ _ hst' fun b hbf o e => ?_) hP (Heap.get?_update_self _ hS' rfl) fun v' h'' tk'' hP' hk'' => ?_⟩
  · exact (Heap.get?_update_other _ _ (fun h : I + 1 = b => hSf (by rw [h]; exact hbf))).trans e
  · refine fin v' h'' tk'' hP' fun b o e => hk'' b o (fun hm => by rw [List.mem_singleton.mp hm, noI] at e; cases e) (fun h => by rw [h, noS] at e; cases e) ((Heap.get?_update_other _ _ (fun h : I + 1 = b => by rw [← h, noS] at e; cases e)).trans (kp3 b o e))

theorem min_turns (W : Walks prog w A.in1 I fp wr n P Z) (bt : Nat → Nat → Bool) (hcmp : ∀ i j vi vj (s : Shared) (Q : Value → Shared → Prop) (E : Value → Shared → Prop), j < i → Kp hb s.heap → P i vi → P j vj → Q (.bool (bt i j)) s → wpAny (model prog w) A.in1 (richCompare .Lt vi vj) Q E s)
    (S : Addr) (hSf : S ∉ fp) (hSb : hb.get? S = none) (hwb : ∀ b ∈ wr, hb.get? b = none) :
    ∀ (k j : Nat) (s : Shared) (vb : Value) (c : Nat), n - (j + 1) = k → j + 1 ≤ n → Kp hb s.heap → Z (j + 1) s.heap → P (argBest bt j) vb →
    s.heap.get? S = some { cls := .type "list", dict := none, data := .seq #[vb, vb] c, slots := #[] } →
    (∀ v h' tk, P (argBest bt (n - 1)) v → (∀ b o, b ∉ wr → b ≠ S → s.heap.get? b = some o → h'.get? b = some o) → R (.ok (.ret v)) { s with heap := h', toks := tk }) →
    codeAny (model prog w) A (.builtin "min.loop" ⟨[.ref I, .none, .ref S], []⟩) R s := by
  have hSw : S ∉ wr := fun h => hSf (W.sub _ h)
  have hname : (toString "min" ++ toString ".loop" : String) = "min.loop" := by decide
  intro k
  induction k with
  | zero =>
    intro j s vb c hk hj hkp hst hPb hS hR
    have hin : j + 1 = n := by omega
    refine codeAny_builtin PySem.F.entry_min_loop ?_
    rw [Around.under_plainId PySem.F.plain_min_loop _]
    show wpAny _ A.in1 (seqItems? (.ref S) >>= _) _ _ s
    refine wpAny_bind (wpAny_seqItems hS rfl ?_)
    show wpAny _ A.in1 (tryCatch (pyNext (.ref I)) _ >>= _) _ _ s
    refine wpAny_bind (wpAny_tryCatch (W.done s _ _ (hin ▸ hst) fun h' tk hk' => ?_))
    have hS' := hk' S _ hSw hS
    show wpAny _ A.in1 (updateSeq S (fun _ => #[]) >>= _) _ _ _
    refine wpAny_bind (wpAny_updateSeq hS' rfl (wpAny_bind (wpAny_letGo (wpAny_pure ?_))))
    exact hR vb _ tk (by rw [← hin]; exact hPb) fun b o hbw hbS e => (Heap.get?_update_other _ _ (Ne.symm hbS)).trans (hk' b o hbw e)
  | succ k ih =>
    intro j s vb c hk hj hkp hst hPb hS hR
    have hlt : j + 1 < n := by omega
    refine codeAny_builtin PySem.F.entry_min_loop ?_
    rw [Around.under_plainId PySem.F.plain_min_loop _]
    show wpAny _ A.in1 (seqItems? (.ref S) >>= _) _ _ s
    refine wpAny_bind (wpAny_seqItems hS rfl ?_)
    show wpAny _ A.in1 (tryCatch (pyNext (.ref I)) _ >>= _) _ _ s
    refine wpAny_bind (wpAny_tryCatch (W.item (j + 1) s _ _ hlt hst fun v h' tk hP hst' hk' => ?_))
    have hS' := hk' S _ hSw hS
    have hkp' : Kp hb h' := fun b o e => hk' b o (fun hm => by rw [hwb b hm] at e; cases e) (hkp b o e)
    show wpAny _ A.in1 (tryCatch (holding [v, v] (richCompare .Lt v vb >>= _)) _ >>= _) _ _ _
    refine wpAny_bind (wpAny_tryCatch (wpAny_holding (wpAny_bind (hcmp (j + 1) (argBest bt j) v vb _ _ _ (by have := argBest_le bt j; omega) hkp' hP hPb ?_))))
    refine wpAny_bind (wpAny_holding (wpAny_truthy_bool ?_))
    refine wpAny_bind (wpAny_letGo (wpAny_pure ?_))
    cases hbt : bt (j + 1) (argBest bt j) with
    | true =>
      simp only [if_true]
      refine wpAny_bind (wpAny_updateSeq hS' rfl (wpAny_bind (wpAny_letGo ?_)))
      rw [hname]
      refine wpAny_pure ⟨plainId_quiet PySem.F.plain_min_loop _, ih (j + 1) _ v _ (by omega) hlt (fun b o e => (Heap.get?_update_other _ _ (fun h : S = b => by rw [← h, hSb] at e; cases e)).trans (hkp' b o e)) (W.frame _ _ _ hst' fun b hbf o e => ?_) (by simp only [argBest, hbt, if_true]; exact hP) (Heap.get?_update_self _ hS' rfl)
        fun v' h'' tk'' hP' hk'' => ?_⟩
      · exact (Heap.get?_update_other _ _ (fun h : S = b => hSf (by rw [h]; exact hbf))).trans e
      · exact hR v' h'' tk'' hP' fun b o hbw hbS e => hk'' b o hbw hbS ((Heap.get?_update_other _ _ (Ne.symm hbS)).trans (hk' b o hbw e))
    | false =>
      simp only [Bool.false_eq_true, if_false]
      refine wpAny_bind (wpAny_letGo ?_)
      rw [hname]
      refine wpAny_pure ⟨plainId_quiet PySem.F.plain_min_loop _, ih (j + 1) _ vb c (by omega) hlt hkp' hst' (by simp only [argBest, hbt, Bool.false_eq_true, if_false]; exact hPb) hS' fun v' h'' tk'' hP' hk'' => ?_⟩
      exact hR v' h'' tk'' hP' fun b o hbw hbS e => hk'' b o hbw hbS (hk' b o hbw e)
theorem min_data {v0 : Value} {items : List D} {Q : Value → Shared → Prop} {E : Value → Shared → Prop} (hA : A.handled = none) (bt : Nat → Nat → Bool) {d0 : D} (hd0 : items[argBest bt (items.length - 1)]? = some d0) (hne : 0 < items.length)
    (hcmp : ∀ i j di dj vi vj (s : Shared) (Q : Value → Shared → Prop) (E : Value → Shared → Prop), j < i → items[i]? = some di → items[j]? = some dj → Rd X s.heap vi di → Rd X s.heap vj dj → Q (.bool (bt i j)) s → wpAny (model prog w) A.in1 (richCompare .Lt vi vj) Q E s)
    (r : Rd X s.heap v0 (.lst items)) (hQ : ∀ v s', Kps s s' → Rd X s'.heap v d0 → Q v s') : wpAny (model prog w) A (call (.builtin "min") [v0]) Q E s := by
  have hname : (toString "min" ++ toString ".loop" : String) = "min.loop" := by decide
  obtain ⟨a, vs, n, rfl, hX, hg, hr⟩ := r
  have hlen := hr.length
  refine call_function_tree PySem.F.kind_min PySem.F.plain_min PySem.F.entry_min (PySem.F.args_min1 _) ?_
  show wpAny _ A.in1 (Builtin.Builtins.bindParams "min" ["key", "default"] 0 ⟨[], []⟩ >>= _) _ _ s
  refine wpAny_bind (wpAny_of_eq (show Builtin.Builtins.bindParams "min" ["key", "default"] 0 ⟨[], []⟩ = pure [none, none] from rfl) ?_)
  refine wpAny_bind (wpAny_pure ?_)
  refine wpAny_bind (wpAny_pyIter_list (lo_isList hg) ?_)
  refine wpAny_bind (wpAny_newObj_type ?_)
  generalize hI : s.heap.objs.size = I
  generalize hh1 : s.heap.push { cls := .type "list_iterator", data := .fields #[.ref a, .int 0 0] } = h1
  have hsz : h1.objs.size = I + 1 := by rw [← hh1, Heap.size_push, hI]
  have W := Walks.list (prog := prog) (w := w) (A := A.in1) hA I a (by rw [← hI]; exact Nat.ne_of_lt (Heap.lt_size hg)) vs.toArray
  have kp1 : Kp s.heap h1 := by rw [← hh1]; exact kp_push
  have noI : s.heap.get? I = none := by
    cases e : s.heap.get? I with
    | none => rfl
    | some o => exact absurd (Heap.lt_size e) (by rw [hI]; exact Nat.lt_irrefl _)
  have noS : s.heap.get? (I + 1) = none := by
    cases e : s.heap.get? (I + 1) with
    | none => rfl
    | some o => exact absurd (Heap.lt_size e) (by rw [hI]; exact Nat.not_lt.mpr (Nat.le_succ _))
  have hit : h1.IsListIter I a 0 := by rw [← hh1, ← hI]; exact ⟨_, Heap.get?_push_size _ rfl, rfl, rfl⟩
  have hal : a < I := by rw [← hI]; exact Heap.lt_size hg
  have hSf : I + 1 ∉ [I, a] := fun hm => by
    rcases List.mem_cons.mp hm with h | h
    · exact Nat.succ_ne_self I h
    · rw [← List.mem_singleton.mp h] at hal; exact Nat.not_succ_lt_self hal
  have hss : vs.toArray.size = items.length := by rw [List.size_toArray, hlen]
  dsimp only
  rw [hsz, hname]
  have val : ∀ {i : Nat} {v : Value}, vs.toArray[i]? = some v → ∃ d, items[i]? = some d ∧ Rd X s.heap v d := fun {i v} e => hr.getV (by rw [List.getElem?_toArray] at e; exact e)
  have cmp : ∀ i j vi vj (s' : Shared) (Q : Value → Shared → Prop) (E : Value → Shared → Prop), j < i → Kp s.heap s'.heap → vs.toArray[i]? = some vi → vs.toArray[j]? = some vj → Q (.bool (bt i j)) s' → wpAny (model prog w) A.in1 (richCompare .Lt vi vj) Q E s' := fun i j vi vj s' Q E hij hk hi hj hq => by
    obtain ⟨di, hdi, ri⟩ := val hi
    obtain ⟨dj, hdj, rj⟩ := val hj
    exact hcmp i j di dj vi vj s' Q E hij hdi hdj (ri.up hk) (rj.up hk) hq
  have fin : ∀ v h' tk, vs.toArray[argBest bt (vs.toArray.size - 1)]? = some v → Kp s.heap h' → Q v { s with heap := h', toks := tk } := fun v h' tk hv hk => by
    obtain ⟨d, hd, rd⟩ := val hv
    rw [hss] at hd
    rw [hd0] at hd
    cases hd
    exact hQ v _ (keeps_heap hk) (rd.up hk)
  have hSw : I + 1 ∉ [I] := by simp
  have kp2 : Kp s.heap (h1.push { cls := .type "list", data := .seq #[] }) := kp1.trans kp_push
  have hS : (h1.push { cls := .type "list", data := .seq #[] }).get? (I + 1) = some { cls := .type "list", data := .seq #[] } := by rw [← hsz]; exact Heap.get?_push_size _ rfl
  refine wpAny_pure ⟨plainId_quiet PySem.F.plain_min_loop _, ?_⟩
  refine codeAny_builtin PySem.F.entry_min_loop ?_
  rw [Around.under_plainId PySem.F.plain_min_loop _]
  show wpAny _ A.in1 (seqItems? (.ref (I + 1)) >>= _) _ _ _
  refine wpAny_bind (wpAny_seqItems hS rfl ?_)
  show wpAny _ A.in1 (tryCatch (pyNext (.ref I)) _ >>= _) _ _ _
  refine wpAny_bind (wpAny_tryCatch (W.item 0 _ _ _ (by rw [hss]; exact hne) (W.frame _ _ _ ⟨hit, lo_isList (n := n) (kp1 _ _ hg)⟩ fun b _ o e => kp_push _ _ e) fun v h' tk hP hst' hk' => ?_))
  have hS' := hk' (I + 1) _ hSw hS
  have kp3 : Kp s.heap h' := fun b o e => hk' b o (fun hm => by rw [List.mem_singleton.mp hm, noI] at e; cases e) (kp2 b o e)
  show wpAny _ A.in1 (updateSeq (I + 1) (fun _ => #[v, v]) >>= _) _ _ _
  refine wpAny_bind (wpAny_updateSeq hS' rfl ?_)
  rw [hname]
  refine wpAny_pure ⟨plainId_quiet PySem.F.plain_min_loop _, min_turns (hb := s.heap) W bt cmp (I + 1) hSf noS (fun b hm => by rw [List.mem_singleton.mp hm]; exact noI) _ 0 _ v _ rfl (by rw [hss]; exact hne) (fun b o e => (Heap.get?_update_other _ _ (fun h : I + 1 = b => by rw [← h, noS] at e; cases e)).trans (kp3 b o e)) (W.frame _ _ _ hst' fun b hbf o e => ?_) hP (Heap.get?_update_self _ hS' rfl) fun v' h'' tk'' hP' hk'' => ?_⟩
  · exact (Heap.get?_update_other _ _ (fun h : I + 1 = b => hSf (by rw [h]; exact hbf))).trans e
  · refine fin v' h'' tk'' hP' fun b o e => hk'' b o (fun hm => by rw [List.mem_singleton.mp hm, noI] at e; cases e) (fun h => by rw [h, noS] at e; cases e) ((Heap.get?_update_other _ _ (fun h : I + 1 = b => by rw [← h, noS] at e; cases e)).trans (kp3 b o e))

end
end Mine
end
section
open PySem PySem.W PyProof.Rows PySem.SeqAt
namespace Mine
/-- the asking, answered by an order of the places -/
noncomputable def evT {α : Type} (lt : Nat → Nat → Bool) : KasT α → α
  | .ret a => a
  | .ask i j k => evT lt (k (lt i j))
noncomputable def okT {α : Type} (n : Nat) : KasT α → Bool
  | .ret _ => true
  | .ask i j k => Nat.blt i n && Nat.blt j n && okT n (k true) && okT n (k false)
theorem evT_wp {α : Type} {lt : Nat → Nat → Bool} {n : Nat} {cmp : Nat → Nat → (Bool → Shared → Prop) → Shared → Prop} {G : α → Shared → Prop} {s : Shared} (hc : ∀ i j C, i < n → j < n → C (lt i j) s → cmp i j C s) : ∀ t : KasT α, okT n t = true → G (evT lt t) s → t.kasWp cmp G s
  | .ret a, _, h => h
  | .ask i j k, ok, h => by
    simp only [okT, Bool.and_eq_true] at ok
    obtain ⟨⟨⟨h1, h2⟩, h3⟩, h4⟩ := ok
    refine hc i j _ (Nat.le_of_ble_eq_true h1) (Nat.le_of_ble_eq_true h2) (evT_wp hc (k (lt i j)) ?_ h)
    cases lt i j
    · exact h4
    · exact h3
section
variable {prog : Program} {w : World} {A : Around} {E : Value → Shared → Prop} {s : Shared} {X : List Addr}
theorem sort_tree {a : Addr} {vs : List Value} {n : Nat} {P : PySem.Fin → Shared → Prop} (lt : Nat → Nat → Bool) (ho : s.heap.get? a = some (seqObj "list" vs.toArray n)) (h2 : 2 ≤ vs.length) (h64 : vs.length < 64)
    (hT : ∀ (s' : Shared), (∀ b o, b ≠ a → s.heap.get? b = some o → s'.heap.get? b = some o) → ∀ v ∈ vs, Looks (model prog w) s'.heap (typeOf v) (.type "list"))
    (hc : ∀ (s' : Shared), (∀ b o, b ≠ a → s.heap.get? b = some o → s'.heap.get? b = some o) → ∀ i j C, i < vs.length → j < vs.length → C (lt i j) s' → wpAny (model prog w) A (keyLt' oneType' (vs.getD i .none) (vs.getD j .none)) C (fun _ _ => False) s') (hok : okT vs.length (kas_sort vs.length) = true)
    (h : ∀ h' m, (∀ b o, b ≠ a → s.heap.get? b = some o → h'.get? b = some o) → h'.get? a = some (seqObj "list" (List.toArray ((evT lt (kas_sort vs.length)).toList.map fun i => vs.getD i .none)) m) → P (.done (.ret .none)) { s with heap := h' }) :
    wpAny (model prog w) A (Builtin.«list.sort» ⟨[.ref a], []⟩) P E s := by
  have ha : a < s.heap.objs.size := Heap.lt_size ho
  have s1 := Heap.SameBut.update s.heap a (Obj.mapSeq fun _ => (#[] : Array Value))
  obtain ⟨e1, ho1⟩ : ∃ e1, (s.heap.update a (Obj.mapSeq fun _ => (#[] : Array Value))).get? a = some (seqObj "list" #[] e1) := ⟨_, get?_update_seq ho fun _ => #[]⟩
  rw [list_sort_plain]
  refine wpAny_bind (listItems_at ho rfl ?_)
  refine wpAny_bind (listUpdate_at ho rfl ?_ (by rw [List.size_toArray, sizeLine_eq]; omega) (Nat.zero_le _))
  refine wpAny_bind (seqEpoch_at ho1 rfl ?_)
  refine wpAny_bind (wpAny_newTuple ?_ (by show vs.length ≤ _; rw [sizeLine_eq]; omega))
  refine wpAny_bind (wpAny_newList ?_ (Nat.zero_le _))
  refine wpAny_holding ?_
  have ho6 : (((s.heap.update a (Obj.mapSeq fun _ => #[])).push (seqObj "tuple" vs.toArray 0)).push (seqObj "list" #[] 0)).get? a = some (seqObj "list" #[] e1) := Heap.get?_push_of_some _ (Heap.get?_push_of_some _ ho1)
  have keep : ∀ b o, b ≠ a → s.heap.get? b = some o → (((s.heap.update a (Obj.mapSeq fun _ => #[])).push (seqObj "tuple" vs.toArray 0)).push (seqObj "list" #[] 0)).get? b = some o := fun b o hb e => Heap.get?_push_of_some _ (Heap.get?_push_of_some _ (s1.extBut b o hb e))
  show wpAny (model prog w) A _ P E { s with heap := ((s.heap.update a (Obj.mapSeq fun _ => #[])).push (seqObj "tuple" vs.toArray 0)).push (seqObj "list" #[] 0) }
  dsimp only
  generalize hH : ((s.heap.update a (Obj.mapSeq fun _ => #[])).push (seqObj "tuple" vs.toArray 0)).push (seqObj "list" #[] 0) = H at ho6 keep ⊢
  have hn2 : ¬ vs.toArray.size < 2 := by rw [List.size_toArray]; omega
  rw [if_neg hn2, if_neg hn2]
  refine wpAny_bind (kas_kind (T := .type "list") h2 (hT { s with heap := H } keep) rfl rfl ?_)
  have est : SortSt.mk' oneType' (vs.toArray.zip vs.toArray) #[] 7 none = kas_st oneType' (pairsOf vs) (List.toArray (List.range vs.length)) := by
    have e := kas_range (pairsOf vs)
    rw [pairsOf_size] at e
    show SortSt.mk' oneType' (pairsOf vs) #[] 7 none = SortSt.mk' oneType' ((List.toArray (List.range vs.length)).map (kas_item (pairsOf vs))) #[] 7 none
    rw [e]
  have ask : (kas_sort vs.length).kasWp (kas_cmp prog w A oneType' (pairsOf vs)) (fun p s' => p = evT lt (kas_sort vs.length) ∧ s' = { s with heap := H }) { s with heap := H } := by
    rw [← kas_ask_eq]
    exact evT_wp (lt := lt) (fun i j C h1 h2 hC => hc _ keep i j C h1 h2 hC) _ hok ⟨rfl, rfl⟩
  have run := kas_runs (E := E) (Q := fun _ st' s' => ∃ p : Array Nat, p.size = vs.length ∧ arrOf st' = p.map (kas_item (pairsOf vs)) ∧ failedOf st' = none ∧ p = evT lt (kas_sort vs.length) ∧ s' = { s with heap := H })
    h2 h64 (fun p' st' s' a1 a2 a3 a4 => ⟨p', a1, a2, a3, a4⟩) ask
  rw [← est] at run
  refine wpAny_bind (wpAny_mono run ?_ fun _ _ e => e)
  rintro ⟨⟨⟩, st'⟩ s' ⟨p, hp, har, hf, hpe, rfl⟩
  dsimp only
  have hout : (arrOf st').map (·.2) = List.toArray (p.toList.map fun i => vs.getD i Value.none) := by
    apply Array.toList_inj.mp
    rw [har, Array.map_map, Array.toList_map]
    exact List.map_congr_left fun i _ => by show (kas_item (pairsOf vs) i).2 = _; rw [kas_item_eq]
  have hsz : (List.toArray (p.toList.map fun i => vs.getD i Value.none)).size = vs.length := by rw [List.size_toArray, List.length_map, Array.length_toList, hp]
  rw [hout]
  have s2 := Heap.SameBut.update H a (Obj.mapSeq fun _ => List.toArray (p.toList.map fun i => vs.getD i Value.none))
  obtain ⟨c2, hc2⟩ : ∃ c2, (H.update a (Obj.mapSeq fun _ => List.toArray (p.toList.map fun i => vs.getD i Value.none))).get? a = some (seqObj "list" (List.toArray (p.toList.map fun i => vs.getD i Value.none)) c2) := ⟨_, get?_update_seq ho6 fun _ => List.toArray (p.toList.map fun i => vs.getD i Value.none)⟩
  refine wpAny_bind (seqEpoch_at ho6 rfl ?_)
  refine wpAny_bind (listUpdate_at ho6 rfl ?_ (Nat.zero_le _) (Nat.le_trans (Nat.le_of_eq hsz) (by rw [sizeLine_eq]; omega)))
  rw [hf]
  simp only [bne_self_eq_false, Bool.false_eq_true, if_false]
  exact wpAny_pure (h _ c2 (fun b o hb e => s2.extBut b o hb (keep b o hb e)) (hpe ▸ hc2))
theorem one_lists {v u : Value} {xs ys : List Int} {Q : Bool → Shared → Prop} (hu : A.units < cLine) (he : xs.length = ys.length) (r1 : Rd X s.heap v (.lst (xs.map .int))) (r2 : Rd X s.heap u (.lst (ys.map .int))) (hQ : Q (lexLt xs ys) s) :
    wpAny (model prog w) A (keyLt' oneType' v u) Q E s := by
  obtain ⟨a, vs, n, rfl, _, hg, hr⟩ := r1
  obtain ⟨b, us, m, rfl, _, hg2, hr2⟩ := r2
  rw [keyLt'_oneType, oneLt'_eq]
  simp only [if_true]
  refine wpAny_bind (wpAny_cRoomFor hu ?_)
  refine wpAny_bind (wpAny_callSpecialIfBound?_slot (lo_isList hg).typeIs PySem.F.slot_list_lt (call_meets PySem.F.slot_list_lt (lo_isList hg).typeIs PySem.F.entry_list_lt (PySem.F.args_list_lt_2 _ _) (list_ltI a b vs us n m xs ys X he) ⟨hg, hg2, hr, hr2, ?_⟩))
  exact wpAny_truthy_bool hQ
/-- sorted, of a list of lists of ints, all of one length -/
theorem sorted_lists {v0 : Value} {xss : List (List Int)} {m : Nat} {Q : Value → Shared → Prop} (hu : A.units + 10 < cLine) (h2 : 2 ≤ xss.length) (h64 : xss.length < 64) (hm : ∀ xs ∈ xss, xs.length = m) (hok : okT xss.length (kas_sort xss.length) = true)
    (hX : XOk X s.heap) (r : Rd X s.heap v0 (.lst (xss.map fun xs => .lst (xs.map .int)))) (hp : ∀ i ∈ (evT (fun i j => lexLt (xss.getD i []) (xss.getD j [])) (kas_sort xss.length)).toList, i < xss.length)
    (hQ : ∀ v s', Kps s s' → Rd X s'.heap v (.lst (((evT (fun i j => lexLt (xss.getD i []) (xss.getD j [])) (kas_sort xss.length)).toList.map fun i => xss.getD i []).map fun xs => .lst (xs.map .int))) → Q v s') : wpAny (model prog w) A (call (.builtin "sorted") [v0]) Q E s := by
  obtain ⟨a, vs, n, rfl, hXa, hg, hr⟩ := r
  have hlen : vs.length = xss.length := by rw [hr.length, List.length_map]
  refine Calls.call_function_entry kind_sorted plain_sorted entry_sorted (args_sorted1 _) ?_
  unfold Builtin.«sorted»
  refine wpAny_bind (m := checkCount "sorted" 1 1 _) (wpAny_pure ?_)
  refine wpAny_bind (collect_list (lo_isList hg) ?_ (by rw [sizeLine_eq]; omega))
  refine wpAny_bind (wpAny_newList ?_ (by rw [sizeLine_eq]; omega))
  generalize hI : s.heap.objs.size = N
  have hsz : ((s.heap.push (seqObj "list" #[] 0)).update N (Obj.mapSeq (· ++ vs.toArray))).objs.size = N + 1 := by
    rw [Heap.size_update, size_push', hI]
  have hoL : (((s.heap.push (seqObj "list" #[] 0)).update N (Obj.mapSeq (· ++ vs.toArray))).push (seqObj "list" vs.toArray 0)).get? (N + 1) = some (seqObj "list" vs.toArray 0) := by
    rw [← hsz]; exact Heap.get?_push_size _ rfl
  have noN : ∀ b o, s.heap.get? b = some o → b ≠ N := fun b o e h => by
    subst h
    exact absurd (Heap.lt_size e) (by rw [hI]; exact Nat.lt_irrefl _)
  have noN1 : ∀ b o, s.heap.get? b = some o → b ≠ N + 1 := fun b o e h => by
    subst h
    exact absurd (Heap.lt_size e) (by rw [hI]; exact Nat.not_lt.mpr (Nat.le_succ _))
  have keep : Kp s.heap (((s.heap.push (seqObj "list" #[] 0)).update N (Obj.mapSeq (· ++ vs.toArray))).push (seqObj "list" vs.toArray 0)) := fun b o e =>
    Heap.get?_push_of_some _ ((Heap.get?_update_ne _ _ _ _ (noN b o e)).trans (Heap.get?_push_of_some _ e))
  show wpAny _ _ _ _ _ { s with heap := ((s.heap.push (seqObj "list" #[] 0)).update N (Obj.mapSeq (· ++ vs.toArray))).push (seqObj "list" vs.toArray 0) }
  rw [hsz]
  generalize hH : ((s.heap.push (seqObj "list" #[] 0)).update N (Obj.mapSeq (· ++ vs.toArray))).push (seqObj "list" vs.toArray 0) = H at hoL keep ⊢
  have kp' : ∀ (s' : Shared), (∀ b o, b ≠ N + 1 → H.get? b = some o → s'.heap.get? b = some o) → Kp s.heap s'.heap := fun s' hk b o e => hk b o (noN1 b o e) (keep b o e)
  have at_ : ∀ {i : Nat}, i < vs.length → ∃ v, vs.getD i .none = v ∧ Rd X s.heap v (.lst ((xss.getD i []).map .int)) := fun {i} hi => by
    obtain ⟨v, hv, rv⟩ := hr.get (i := i) (d := .lst ((xss.getD i []).map .int)) (by rw [List.getElem?_map, List.getD_eq_getElem?_getD, List.getElem?_eq_getElem (show i < xss.length by omega)]; rfl)
    exact ⟨v, by rw [List.getD_eq_getElem?_getD, hv]; rfl, rv⟩
  have lenm : ∀ {i : Nat}, i < vs.length → (xss.getD i []).length = m := fun {i} hi => hm _ (by rw [List.getD_eq_getElem?_getD, List.getElem?_eq_getElem (show i < xss.length by omega)]; exact List.getElem_mem _)
  refine wpAny_bind (wpAny_holding (wpAny_call_entry slot_list_sort ⟨_, hoL, rfl⟩ entry_list_sort ?body (args_list_sort _)))
  case body =>
    refine sort_tree (s := { s with heap := H }) (fun i j => lexLt (xss.getD i []) (xss.getD j [])) hoL (by omega) (by omega) (fun s' hk v hv => ?_) (fun s' hk i j C hi hj hC => ?_) (by rw [hlen]; exact hok) (fun h' c hk ha => ?_)
    · obtain ⟨i, hi, rfl⟩ := List.getElem_of_mem hv
      obtain ⟨v, e, rv⟩ := at_ hi
      rw [List.getD_eq_getElem?_getD, List.getElem?_eq_getElem hi] at e
      have e : vs[i] = v := e
      rw [e]
      obtain ⟨b, us, k, rfl, _, hgb, _⟩ := rv.up (kp' s' hk)
      exact (Looks.ld hgb).andThen .now
    · obtain ⟨v, e1, rv⟩ := at_ hi
      obtain ⟨u, e2, ru⟩ := at_ hj
      rw [e1, e2]
      exact one_lists (by show A.units + 1 + 1 < _; omega) ((lenm hi).trans (lenm hj).symm) (rv.up (kp' s' hk)) (ru.up (kp' s' hk)) hC
    · refine ⟨_, rfl, wpAny_pure ⟨_, rfl, ?_⟩⟩
      have kps : Kps s { s with heap := h' } := keeps_heap' (kp' { s with heap := h' } hk)
      refine hQ _ _ kps ⟨N + 1, _, c, rfl, fun hm => ?_, ha, ?_⟩
      · obtain ⟨o, ho⟩ := hX _ hm
        exact noN1 _ o ho rfl
      · rw [hlen]
        have go : ∀ l : List Nat, (∀ i ∈ l, i < xss.length) → Rds X h' (l.map fun i => vs.getD i .none) ((l.map fun i => xss.getD i []).map fun xs => D.lst (xs.map .int)) := fun l => by
          induction l with
          | nil => intro _; exact trivial
          | cons i l ih =>
            intro hl
            obtain ⟨v, e, rv⟩ := at_ (show i < vs.length by rw [hlen]; exact hl i List.mem_cons_self)
            refine ⟨?_, ih fun j hj => hl j (List.mem_cons_of_mem _ hj)⟩
            show Rd X h' (vs.getD i .none) _
            rw [e]; exact rv.up (kp' { s with heap := h' } hk)
        exact go _ hp
end
end Mine
end
section
open PySem PySem.W PyProof.Rows
namespace Mine
theorem lexLt_irr : ∀ xs : List Int, lexLt xs xs = false
  | [] => rfl
  | x :: xs => by rw [lexLt, if_pos rfl, lexLt_irr xs]
theorem lexLt_trans : ∀ {xs ys zs : List Int}, lexLt xs ys = true → lexLt ys zs = true → lexLt xs zs = true
  | [], [], _, h, _ => by cases h
  | [], _ :: _, [], _, h => by cases h
  | [], _ :: _, _ :: _, _, _ => rfl
  | _ :: _, [], _, h, _ => by cases h
  | _ :: _, _ :: _, [], _, h => by cases h
  | x :: xs, y :: ys, z :: zs, h1, h2 => by
    rw [lexLt] at h1 h2 ⊢
    by_cases e1 : x = y
    · rw [if_pos e1] at h1
      by_cases e2 : y = z
      · rw [if_pos e2] at h2
        rw [if_pos (e1.trans e2)]; exact lexLt_trans h1 h2
      · rw [if_neg e2] at h2
        rw [if_neg (fun h => e2 (e1 ▸ h)), e1]; exact h2
    · rw [if_neg e1] at h1
      have h1 := of_decide_eq_true h1
      by_cases e2 : y = z
      · subst e2
        rw [if_neg e1]; exact decide_eq_true h1
      · rw [if_neg e2] at h2
        have h2 := of_decide_eq_true h2
        rw [if_neg (by omega)]; exact decide_eq_true (by omega)
theorem lexLt_total : ∀ {xs ys : List Int}, xs ≠ ys → lexLt xs ys = false → lexLt ys xs = true
  | [], [], h, _ => absurd rfl h
  | [], _ :: _, _, h => by cases h
  | _ :: _, [], _, _ => rfl
  | x :: xs, y :: ys, hne, h => by
    rw [lexLt] at h ⊢
    by_cases e : x = y
    · subst e
      rw [if_pos rfl] at h ⊢
      exact lexLt_total (fun e => hne (by rw [e])) h
    · rw [if_neg e] at h
      rw [if_neg (Ne.symm e)]
      have := of_decide_eq_false h
      exact decide_eq_true (by omega)
theorem countP_lt {α : Type} {p q : α → Bool} : ∀ {l : List α}, (∀ x ∈ l, p x = true → q x = true) → (∃ x ∈ l, q x = true ∧ p x = false) → l.countP p < l.countP q
  | [], _, ⟨x, hx, _⟩ => by cases hx
  | a :: l, h, ⟨x, hx, h1, h2⟩ => by
    have hle : l.countP p ≤ l.countP q := List.countP_mono_left fun y hy => h y (List.mem_cons_of_mem _ hy)
    rw [List.countP_cons, List.countP_cons]
    rcases List.mem_cons.mp hx with rfl | hx
    · rw [h2, h1]; simp; omega
    · have ih := countP_lt (fun y hy => h y (List.mem_cons_of_mem _ hy)) ⟨x, hx, h1, h2⟩
      by_cases ha : p a = true
      · rw [ha, h a List.mem_cons_self ha]; simp; omega
      · rw [Bool.not_eq_true] at ha
        rw [ha]; simp; omega
theorem evT_congr {α : Type} {lt lt' : Nat → Nat → Bool} {n : Nat} (h : ∀ i j, i < n → j < n → lt i j = lt' i j) : ∀ t : KasT α, okT n t = true → evT lt t = evT lt' t
  | .ret a, _ => rfl
  | .ask i j k, ok => by
    simp only [okT, Bool.and_eq_true] at ok
    obtain ⟨⟨⟨h1, h2⟩, h3⟩, h4⟩ := ok
    have e := h i j (Nat.le_of_ble_eq_true h1) (Nat.le_of_ble_eq_true h2)
    show evT lt (k (lt i j)) = evT lt' (k (lt' i j))
    rw [← e]
    refine evT_congr h (k (lt i j)) ?_
    cases lt i j
    · exact h4
    · exact h3
theorem ok6 : okT 6 (kas_sort 6) = true := by decide +kernel
/-- the lists of k places, all apart -/
noncomputable def aparts : Nat → List (List Nat)
  | 0 => [[]]
  | k + 1 => (aparts k).flatMap fun l => ((List.range 6).filter fun a => !l.contains a).map fun a => a :: l
theorem aparts_mem : ∀ {l : List Nat}, l.Nodup → (∀ a ∈ l, a < 6) → l ∈ aparts l.length
  | [], _, _ => List.mem_cons_self
  | a :: l, hn, h => by
    obtain ⟨h1, h2⟩ := List.nodup_cons.mp hn
    refine List.mem_flatMap.mpr ⟨l, aparts_mem h2 fun b hb => h b (List.mem_cons_of_mem _ hb), List.mem_map.mpr ⟨a, List.mem_filter.mpr ⟨List.mem_range.mpr (h a List.mem_cons_self), ?_⟩, rfl⟩⟩
    simpa using h1
noncomputable def sortOk (R : List Nat) : Bool := ((evT (fun i j => Nat.blt (R.getD i 0) (R.getD j 0)) (kas_sort 6)).toList.map fun i => R.getD i 0) == [0, 1, 2, 3, 4, 5] && (evT (fun i j => Nat.blt (R.getD i 0) (R.getD j 0)) (kas_sort 6)).toList.all fun i => Nat.blt i 6
theorem sorts_ok : (aparts 6).all sortOk = true := by decide +kernel
section
variable {c : List (List Int)}
noncomputable def lt6 (c : List (List Int)) (i j : Nat) : Bool := lexLt (c.getD i []) (c.getD j [])
noncomputable def rank (c : List (List Int)) (i : Nat) : Nat := (List.range 6).countP fun j => lt6 c j i
noncomputable def pos6 (c : List (List Int)) : List Nat := (evT (lt6 c) (kas_sort 6)).toList
theorem rank_lt (hd : ∀ i j, i < 6 → j < 6 → i ≠ j → c.getD i [] ≠ c.getD j []) {i j : Nat} (hi : i < 6) (hj : j < 6) : lt6 c i j = Nat.blt (rank c i) (rank c j) := by
  have key : ∀ {i j : Nat}, i < 6 → lt6 c i j = true → rank c i < rank c j := fun {i j} hi h =>
    countP_lt (fun k _ hk => lexLt_trans hk h) ⟨i, List.mem_range.mpr hi, h, lexLt_irr _⟩
  cases h : lt6 c i j with
  | true => exact (Nat.ble_eq_true_of_le (key hi h)).symm
  | false =>
    by_cases e : i = j
    · subst e
      cases q : Nat.blt (rank c i) (rank c i) with
      | false => rfl
      | true => exact absurd (Nat.le_of_ble_eq_true q) (Nat.lt_irrefl _)
    · have h2 := key hj (lexLt_total (hd i j hi hj e) h)
      cases q : Nat.blt (rank c i) (rank c j) with
      | false => rfl
      | true => exact absurd (Nat.le_of_ble_eq_true q) (by omega)
theorem pos6_ok (hd : ∀ i j, i < 6 → j < 6 → i ≠ j → c.getD i [] ≠ c.getD j []) : (pos6 c).map (rank c) = [0, 1, 2, 3, 4, 5] ∧ ∀ i ∈ pos6 c, i < 6 := by
  let R := (List.range 6).map (rank c)
  have hR : ∀ i, i < 6 → R.getD i 0 = rank c i := fun i hi => by
    show ((List.range 6).map (rank c)).getD i 0 = _
    rw [List.getD_eq_getElem?_getD, List.getElem?_map, List.getElem?_range hi]; rfl
  have hlt : ∀ i, i < 6 → rank c i < 6 := fun i hi => by
    have h1 : (List.range 6).countP (fun j => lt6 c j i) < (List.range 6).countP fun _ => true := countP_lt (fun _ _ _ => rfl) ⟨i, List.mem_range.mpr hi, rfl, lexLt_irr _⟩
    have h2 : ((List.range 6).countP fun _ => true) = 6 := by decide
    rw [h2] at h1; exact h1
  have hnd : R.Nodup := by
    refine List.Pairwise.map _ (fun i j h => h) ?_
    refine List.Pairwise.imp_of_mem ?_ (List.nodup_range (n := 6))
    intro i j hi hj hne e
    have hi := List.mem_range.mp hi
    have hj := List.mem_range.mp hj
    have h1 := rank_lt hd hi hj
    have h2 := rank_lt hd hj hi
    rw [e] at h1 h2
    have hb : Nat.blt (rank c j) (rank c j) = false := by
      cases q : Nat.blt (rank c j) (rank c j) with
      | false => rfl
      | true => exact absurd (Nat.le_of_ble_eq_true q) (Nat.lt_irrefl _)
    rw [hb] at h1 h2
    have := lexLt_total (hd i j hi hj hne) h1
    unfold lt6 at h2
    rw [h2] at this; cases this
  have hm : R ∈ aparts 6 := by
    have := aparts_mem hnd fun a ha => by
      obtain ⟨i, hi, rfl⟩ := List.mem_map.mp ha
      exact hlt i (List.mem_range.mp hi)
    rwa [show R.length = 6 by show ((List.range 6).map _).length = 6; rw [List.length_map, List.length_range]] at this
  have hs := List.all_eq_true.mp sorts_ok R hm
  unfold sortOk at hs
  have hev : evT (fun i j => Nat.blt (R.getD i 0) (R.getD j 0)) (kas_sort 6) = evT (lt6 c) (kas_sort 6) := evT_congr (fun i j hi hj => by
    rw [hR i hi, hR j hj, rank_lt hd hi hj]) _ ok6
  rw [hev, Bool.and_eq_true, beq_iff_eq, List.all_eq_true] at hs
  have hin : ∀ i ∈ pos6 c, i < 6 := fun i hi => Nat.le_of_ble_eq_true (hs.2 i hi)
  refine ⟨?_, hin⟩
  rw [← hs.1]
  exact List.map_congr_left fun i hi => (hR i (hin i hi)).symm
/-- the curves, sorted -/
noncomputable def srt (c : List (List Int)) : List (List Int) := (pos6 c).map fun i => c.getD i []
theorem srt_lt (hd : ∀ i j, i < 6 → j < 6 → i ≠ j → c.getD i [] ≠ c.getD j []) : (srt c).length = 6 ∧ (∀ i j, i < j → j < 6 → lexLt ((srt c).getD i []) ((srt c).getD j []) = true) ∧ ∀ y ∈ srt c, ∃ i, i < 6 ∧ y = c.getD i [] := by
  obtain ⟨h1, h2⟩ := pos6_ok hd
  have hl : (pos6 c).length = 6 := by have := congrArg List.length h1; rwa [List.length_map] at this
  refine ⟨by rw [srt, List.length_map, hl], fun i j hij hj => ?_, fun y hy => ?_⟩
  · have at_ : ∀ i, i < 6 → ∃ p, (pos6 c)[i]? = some p ∧ rank c p = i ∧ p < 6 := fun i hi => by
      have hp : (pos6 c)[i]? = some (pos6 c)[i] := List.getElem?_eq_getElem (by omega)
      refine ⟨_, hp, ?_, h2 _ (List.getElem_mem _)⟩
      have := congrArg (fun l => l[i]?) h1
      rw [List.getElem?_map, hp] at this
      have e : ([0, 1, 2, 3, 4, 5] : List Nat)[i]? = some i := by
        match i, hi with
        | 0, _ => rfl
        | 1, _ => rfl
        | 2, _ => rfl
        | 3, _ => rfl
        | 4, _ => rfl
        | 5, _ => rfl
      rw [e] at this
      exact Option.some.inj this
    obtain ⟨p, hp, rp, p6⟩ := at_ i (by omega)
    obtain ⟨q, hq, rq, q6⟩ := at_ j hj
    rw [List.getD_eq_getElem?_getD, List.getD_eq_getElem?_getD, srt, List.getElem?_map, List.getElem?_map, hp, hq]
    show lt6 c p q = true
    rw [rank_lt hd p6 q6, rp, rq]
    exact Nat.ble_eq_true_of_le hij
  · obtain ⟨i, hi, rfl⟩ := List.mem_map.mp hy
    exact ⟨i, h2 i hi, rfl⟩
end
end Mine
end
section
open PySem PySem.W PyProof.Rows
namespace Mine
noncomputable def at6 (f : List Int) (k : Nat) : Int := f.getD k 0
/-- a curve -/
structure Cv (f : List Int) : Prop where
  len : f.length = 6
  b : ∀ k, k < 6 → 0 ≤ at6 f k ∧ at6 f k < 32
noncomputable def hR (f : List Int) : Int := at6 f 0 * 1073741824 + at6 f 1 * 16777216 + at6 f 2 * 262144 + at6 f 3 * 4096 + at6 f 4 * 64 + at6 f 5
noncomputable def hL (f : List Int) : Int := -(at6 f 0 * 1073741824) + at6 f 1 * 16777216 - at6 f 2 * 262144 + at6 f 3 * 4096 - at6 f 4 * 64 + at6 f 5
noncomputable def Dif (m : Nat) (f g : List Int) : Prop := m < 6 ∧ (∀ i, i < m → at6 f i = at6 g i) ∧ at6 f m < at6 g m
theorem dif_h {m : Nat} {f g : List Int} (hf : Cv f) (hg : Cv g) (d : Dif m f g) : hR f < hR g ∧ (m % 2 = 1 → hL f < hL g) ∧ (m % 2 = 0 → hL g < hL f) := by
  obtain ⟨hm, he, hl⟩ := d
  have a0 := hf.b 0 (by decide)
  have a1 := hf.b 1 (by decide)
  have a2 := hf.b 2 (by decide)
  have a3 := hf.b 3 (by decide)
  have a4 := hf.b 4 (by decide)
  have a5 := hf.b 5 (by decide)
  have b0 := hg.b 0 (by decide)
  have b1 := hg.b 1 (by decide)
  have b2 := hg.b 2 (by decide)
  have b3 := hg.b 3 (by decide)
  have b4 := hg.b 4 (by decide)
  have b5 := hg.b 5 (by decide)
  unfold hR hL
  match m, hm with
  | 0, _ => omega
  | 1, _ => have := he 0 (by decide); omega
  | 2, _ => have := he 0 (by decide); have := he 1 (by decide); omega
  | 3, _ => have := he 0 (by decide); have := he 1 (by decide); have := he 2 (by decide); omega
  | 4, _ => have := he 0 (by decide); have := he 1 (by decide); have := he 2 (by decide); have := he 3 (by decide); omega
  | 5, _ => have := he 0 (by decide); have := he 1 (by decide); have := he 2 (by decide); have := he 3 (by decide); have := he 4 (by decide); omega
theorem lex_dif : ∀ {xs ys : List Int}, lexLt xs ys = true → xs.length = ys.length → ∃ m, m < xs.length ∧ (∀ i, i < m → at6 xs i = at6 ys i) ∧ at6 xs m < at6 ys m
  | [], [], h, _ => by cases h
  | [], _ :: _, _, e => by cases e
  | _ :: _, [], h, _ => by cases h
  | x :: xs, y :: ys, h, e => by
    rw [lexLt] at h
    by_cases q : x = y
    · rw [if_pos q] at h
      obtain ⟨m, h1, h2, h3⟩ := lex_dif h (Nat.succ.inj e)
      refine ⟨m + 1, Nat.succ_lt_succ h1, fun i hi => ?_, h3⟩
      cases i with
      | zero => exact q
      | succ i => exact h2 i (Nat.lt_of_succ_lt_succ hi)
    · rw [if_neg q] at h
      exact ⟨0, Nat.succ_pos _, fun i hi => absurd hi (Nat.not_lt_zero _), of_decide_eq_true h⟩
/-- the first power at which they differ -/
theorem dif_part {m : Nat} {f g : List Int} (d : Dif m f g) : ((List.range 6).filter fun k => at6 f k != at6 g k)[0]? = some m := by
  obtain ⟨hm, he, hl⟩ := d
  have hn : (at6 f m != at6 g m) = true := by simp; omega
  have hz : ∀ i, i < m → (at6 f i != at6 g i) = false := fun i hi => by simp [he i hi]
  show ([0, 1, 2, 3, 4, 5].filter fun k => at6 f k != at6 g k)[0]? = some m
  match m, hm with
  | 0, _ => simp only [List.filter, hn]; rfl
  | 1, _ => simp only [List.filter, hn, hz 0 (by decide)]; rfl
  | 2, _ => simp only [List.filter, hn, hz 0 (by decide), hz 1 (by decide)]; rfl
  | 3, _ => simp only [List.filter, hn, hz 0 (by decide), hz 1 (by decide), hz 2 (by decide)]; rfl
  | 4, _ => simp only [List.filter, hn, hz 0 (by decide), hz 1 (by decide), hz 2 (by decide), hz 3 (by decide)]; rfl
  | 5, _ => simp only [List.filter, hn, hz 0 (by decide), hz 1 (by decide), hz 2 (by decide), hz 3 (by decide), hz 4 (by decide)]; rfl
theorem split_key {α : Type} (key : α → Int) : ∀ (v : List α), v.Pairwise (fun a b => key a ≤ key b) → (∃ a ∈ v, ∃ b ∈ v, key a ≠ key b) → ∃ x y, v = x ++ y ∧ x ≠ [] ∧ y ≠ [] ∧ ∀ a ∈ x, ∀ b ∈ y, key a < key b
  | [], _, ⟨a, ha, _⟩ => by cases ha
  | [a], _, ⟨b, hb, c, hc, h⟩ => by
    rw [List.mem_singleton] at hb hc
    subst hb; subst hc; exact absurd rfl h
  | a :: b :: v, hp, hex => by
    obtain ⟨h1, h2⟩ := List.pairwise_cons.mp hp
    by_cases e : key a = key b
    · obtain ⟨x, y, hv, hx, hy, hlt⟩ := split_key key (b :: v) h2 (by
        by_cases all : ∀ c ∈ b :: v, key c = key b
        · obtain ⟨c, hc, d, hd, hne⟩ := hex
          have k : ∀ c ∈ a :: b :: v, key c = key b := fun c hc => (List.mem_cons.mp hc).elim (fun e' => by rw [e', e]) (all c)
          exact absurd ((k c hc).trans (k d hd).symm) hne
        · obtain ⟨c, hc⟩ := Classical.not_forall.mp all
          obtain ⟨hc, hn⟩ := Classical.not_imp.mp hc
          exact ⟨c, hc, b, List.mem_cons_self, hn⟩)
      cases x with
      | nil => exact absurd rfl hx
      | cons b' x =>
        obtain ⟨e1, e2⟩ := List.cons.inj hv
        subst e1
        refine ⟨a :: b :: x, y, by rw [e2]; rfl, (fun h => nomatch h), hy, fun p hp q hq => ?_⟩
        rcases List.mem_cons.mp hp with rfl | hp
        · rw [e]; exact hlt b List.mem_cons_self q hq
        · exact hlt p hp q hq
    · refine ⟨[a], b :: v, rfl, (fun h => nomatch h), (fun h => nomatch h), fun p hp q hq => ?_⟩
      rw [List.mem_singleton.mp hp]
      have h3 := h1 b List.mem_cons_self
      have h4 : key b ≤ key q := by
        rcases List.mem_cons.mp hq with rfl | hq
        · exact Int.le_refl _
        · exact (List.pairwise_cons.mp h2).1 q hq
      omega
theorem cut_ex (c : Nat → List Int) : ∀ d k v, k + d = 6 → v.Pairwise (fun a b => ∃ m, Dif m (c a) (c b)) → 2 ≤ v.length → (∀ a ∈ v, ∀ b ∈ v, ∀ i, i < k → at6 (c a) i = at6 (c b) i) → ∃ x y m, v = x ++ y ∧ x ≠ [] ∧ y ≠ [] ∧ ∀ a ∈ x, ∀ b ∈ y, Dif m (c a) (c b)
  | 0, k, v, hk, hp, hl, ha => by
    match v, hl with
    | a :: b :: v, _ =>
      obtain ⟨m, hm, _, hlt⟩ := (List.pairwise_cons.mp hp).1 b List.mem_cons_self
      have := ha a List.mem_cons_self b (List.mem_cons_of_mem _ List.mem_cons_self) m (by omega)
      omega
  | d + 1, k, v, hk, hp, hl, ha => by
    by_cases all : ∀ a ∈ v, ∀ b ∈ v, at6 (c a) k = at6 (c b) k
    · refine cut_ex c d (k + 1) v (by omega) hp hl fun a h1 b h2 i hi => ?_
      rcases Nat.lt_or_ge i k with h | h
      · exact ha a h1 b h2 i h
      · rw [show i = k by omega]; exact all a h1 b h2
    · have : ∃ a ∈ v, ∃ b ∈ v, at6 (c a) k ≠ at6 (c b) k := by
        obtain ⟨a, h⟩ := Classical.not_forall.mp all
        obtain ⟨h1, h⟩ := Classical.not_imp.mp h
        obtain ⟨b, h⟩ := Classical.not_forall.mp h
        obtain ⟨h2, h⟩ := Classical.not_imp.mp h
        exact ⟨a, h1, b, h2, h⟩
      obtain ⟨x, y, e, hx, hy, hlt⟩ := split_key (fun a => at6 (c a) k) v (List.Pairwise.imp_of_mem (fun {a b} h1 h2 ⟨m, hm, he, hlt⟩ => by
        rcases Nat.lt_trichotomy m k with h | h | h
        · have := ha a h1 b h2 m h; omega
        · subst h; exact Int.le_of_lt hlt
        · exact Int.le_of_eq (he k h)) hp) this
      refine ⟨x, y, k, e, hx, hy, fun a h1 b h2 => ⟨by omega, ha a (e ▸ List.mem_append_left _ h1) b (e ▸ List.mem_append_right _ h2), hlt a h1 b h2⟩⟩
/-- every block can be cut -/
noncomputable def Good (B : Nat → Nat) (is : List Nat) : Prop := ∀ u v w, is = u ++ v ++ w → 2 ≤ v.length → ∃ x y, v = x ++ y ∧ x ≠ [] ∧ y ≠ [] ∧ ((∀ a ∈ x, ∀ b ∈ y, B a < B b) ∨ (∀ a ∈ x, ∀ b ∈ y, B b < B a))
theorem Good.left {B : Nat → Nat} {x y : List Nat} (g : Good B (x ++ y)) : Good B x := fun u v w e hl => g u v (w ++ y) (by rw [e]; simp) hl
theorem Good.right {B : Nat → Nat} {x y : List Nat} (g : Good B (x ++ y)) : Good B y := fun u v w e hl => g (x ++ u) v w (by rw [e]; simp) hl
noncomputable def allLt (B : Nat → Nat) (x y : List Nat) : Bool := x.all fun a => y.all fun b => decide (B a < B b)
theorem allLt_iff {B : Nat → Nat} {x y : List Nat} : allLt B x y = true ↔ ∀ a ∈ x, ∀ b ∈ y, B a < B b := by
  unfold allLt
  simp only [List.all_eq_true, decide_eq_true_eq]
noncomputable def isCut (B : Nat → Nat) (is : List Nat) (k : Nat) : Bool := allLt B (is.take k) (is.drop k) || allLt B (is.drop k) (is.take k)
/-- how the writing is made -/
inductive Tr where
  | bad
  | leaf (i : Nat)
  | plus (l r : Tr)
  | minus (l r : Tr)
noncomputable def cutF (B : Nat → Nat) (is : List Nat) : Option Nat := (List.range' 1 (is.length - 1)).find? (isCut B is)
noncomputable def spell (B : Nat → Nat) : Nat → List Nat → Tr
  | 0, _ => .bad
  | f + 1, is => if is.length = 1 then .leaf (is.headD 0) else match cutF B is with
    | none => .bad
    | some k => if allLt B (is.take k) (is.drop k) then .plus (spell B f (is.take k)) (spell B f (is.drop k)) else .minus (spell B f (is.take k)) (spell B f (is.drop k))
noncomputable def Tr.ls : Tr → List Nat
  | .bad => []
  | .leaf i => [i]
  | .plus l r => l.ls ++ r.ls
  | .minus l r => l.ls ++ r.ls
noncomputable def Tr.sep (B : Nat → Nat) : Tr → Prop
  | .bad => False
  | .leaf i => True
  | .plus l r => l.sep B ∧ r.sep B ∧ ∀ a ∈ l.ls, ∀ b ∈ r.ls, B a < B b
  | .minus l r => l.sep B ∧ r.sep B ∧ ∀ a ∈ l.ls, ∀ b ∈ r.ls, B b < B a
theorem cut_found {B : Nat → Nat} {is : List Nat} (g : Good B is) (hl : 2 ≤ is.length) : ∃ k, cutF B is = some k ∧ 1 ≤ k ∧ k < is.length ∧ isCut B is k = true := by
  obtain ⟨x, y, e, hx, hy, h⟩ := g [] is [] (by simp) hl
  have hx' := List.length_pos_iff.mpr hx
  have hy' := List.length_pos_iff.mpr hy
  have hc : isCut B is x.length = true := by
    unfold isCut
    rw [e, List.take_left, List.drop_left, Bool.or_eq_true, allLt_iff, allLt_iff]
    exact h.imp id fun h a ha b hb => h b hb a ha
  cases q : cutF B is with
  | none =>
    unfold cutF at q
    rw [List.find?_eq_none] at q
    exact absurd hc (q x.length (by rw [List.mem_range'_1, e, List.length_append]; omega))
  | some k =>
    unfold cutF at q
    have h1 := List.mem_of_find?_eq_some q
    rw [List.mem_range'_1] at h1
    exact ⟨k, rfl, h1.1, by omega, List.find?_some q⟩
theorem spell_ok {B : Nat → Nat} : ∀ f is, Good B is → 1 ≤ is.length → is.length ≤ f → (spell B f is).ls = is ∧ (spell B f is).sep B
  | 0, is, _, h1, h2 => by omega
  | f + 1, is, g, h1, h2 => by
    unfold spell
    by_cases e : is.length = 1
    · rw [if_pos e]
      match is, e with
      | [i], _ => exact ⟨rfl, trivial⟩
    · rw [if_neg e]
      obtain ⟨k, hk, k1, k2, hc⟩ := cut_found g (by omega)
      rw [hk]
      dsimp only
      have g' : Good B (is.take k ++ is.drop k) := by rw [List.take_append_drop]; exact g
      obtain ⟨l1, l2⟩ := spell_ok f (is.take k) g'.left (by rw [List.length_take]; omega) (by rw [List.length_take]; omega)
      obtain ⟨r1, r2⟩ := spell_ok f (is.drop k) g'.right (by rw [List.length_drop]; omega) (by rw [List.length_drop]; omega)
      unfold isCut at hc
      by_cases a : allLt B (is.take k) (is.drop k) = true
      · rw [if_pos a]
        exact ⟨by rw [Tr.ls, l1, r1, List.take_append_drop], l2, r2, by rw [l1, r1]; exact allLt_iff.mp a⟩
      · rw [if_neg a]
        rw [Bool.not_eq_true] at a
        rw [a, Bool.false_or] at hc
        exact ⟨by rw [Tr.ls, l1, r1, List.take_append_drop], l2, r2, by rw [l1, r1]; exact fun p hp q hq => allLt_iff.mp hc q hq p hp⟩
noncomputable def upN : Nat → Rw → Rw
  | 0, r => r
  | k + 1, r => (upN k r).up
theorem upN_add : ∀ (a b : Nat) (r : Rw), upN a (upN b r) = upN (a + b) r
  | 0, b, r => by rw [Nat.zero_add]; rfl
  | a + 1, b, r => by rw [Nat.succ_add]; exact congrArg Rw.up (upN_add a b r)
theorem upN_k : ∀ (a : Nat) (r : Rw), (upN a r).k = r.k + a
  | 0, r => rfl
  | a + 1, r => by show (upN a r).k + 1 = _; rw [upN_k a r]; rfl
theorem upN_nm : ∀ (a : Nat) (r : Rw), (upN a r).nm = r.nm
  | 0, r => rfl
  | a + 1, r => upN_nm a r
theorem upN_ok : ∀ (a : Nat) {r : Rw}, r.ok → (upN a r).ok
  | 0, r, o => o
  | a + 1, r, o => (upN_ok a o).up
noncomputable def Tr.rows (R : Nat → Rw) : Tr → List Rw
  | .bad => []
  | .leaf i => [R i]
  | .plus l r => l.rows R ++ (r.rows R).map (upN l.ls.length)
  | .minus l r => (l.rows R).map (upN r.ls.length) ++ r.rows R
theorem cnt_none {p : Nat → Bool} {l : List Nat} (h : ∀ a ∈ l, p a = false) : l.countP p = 0 := by
  rw [List.countP_eq_zero]; intro a ha; rw [h a ha]; exact Bool.false_ne_true
theorem cnt_all {p : Nat → Bool} {l : List Nat} (h : ∀ a ∈ l, p a = true) : l.countP p = l.length := by
  rw [List.countP_eq_length]; exact h
theorem rows_sep {B : Nat → Nat} {R : Nat → Rw} : ∀ {t : Tr}, t.sep B → t.rows R = t.ls.map fun i => upN (t.ls.countP fun j => decide (B j < B i)) (R i)
  | .bad, h => h.elim
  | .leaf i, _ => by
    show [R i] = [upN _ (R i)]
    rw [cnt_none]
    · rfl
    · intro a ha
      rw [Tr.ls, List.mem_singleton] at ha
      subst ha
      exact decide_eq_false (Nat.lt_irrefl _)
  | .plus l r, ⟨h1, h2, h3⟩ => by
    rw [Tr.rows, Tr.ls, List.map_append, rows_sep h1, rows_sep h2, List.map_map]
    congr 1
    · refine List.map_congr_left fun i hi => ?_
      rw [List.countP_append, cnt_none (l := r.ls) fun a ha => decide_eq_false (by have := h3 i hi a ha; omega)]; rfl
    · refine List.map_congr_left fun i hi => ?_
      show upN _ (upN _ _) = _
      rw [List.countP_append, cnt_all (l := l.ls) fun a ha => decide_eq_true (h3 a ha i hi), upN_add]
  | .minus l r, ⟨h1, h2, h3⟩ => by
    rw [Tr.rows, Tr.ls, List.map_append, rows_sep h1, rows_sep h2, List.map_map]
    congr 1
    · refine List.map_congr_left fun i hi => ?_
      show upN _ (upN _ _) = _
      rw [List.countP_append, cnt_all (l := r.ls) fun a ha => decide_eq_true (h3 i hi a ha), upN_add, Nat.add_comm]
    · refine List.map_congr_left fun i hi => ?_
      rw [List.countP_append, cnt_none (l := l.ls) fun a ha => decide_eq_false (by have := h3 a ha i hi; omega), Nat.zero_add]
end Mine
end
section
open PySem PySem.W PyProof.Rows
namespace Mine
/-- six curves, sorted -/
structure Six (cs : List (List Int)) : Prop where
  len : cs.length = 6
  cv : ∀ f ∈ cs, Cv f
  lt : ∀ i j, i < j → j < 6 → lexLt (cs.getD i []) (cs.getD j []) = true
section
variable {cs : List (List Int)} (o : Six cs)
include o
theorem Six.at {i : Nat} (h : i < 6) : Cv (cs.getD i []) := o.cv _ (by
  rw [List.getD_eq_getElem?_getD, List.getElem?_eq_getElem (by rw [o.len]; exact h)]
  exact List.getElem_mem _)
theorem Six.dif {i j : Nat} (h : i < j) (hj : j < 6) : ∃ m, Dif m (cs.getD i []) (cs.getD j []) := by
  have h1 := o.at (show i < 6 by omega)
  have h2 := o.at hj
  obtain ⟨m, a, b⟩ := lex_dif (o.lt i j h hj) (by rw [h1.len, h2.len])
  exact ⟨m, by rw [h1.len] at a; exact a, b⟩
end
noncomputable def lef (cs : List (List Int)) (i : Nat) : Int := hL (cs.getD i [])
noncomputable def belo (cs : List (List Int)) (i : Nat) : Nat := (List.range 6).countP fun j => decide (lef cs j < lef cs i)
theorem belo_lt {cs : List (List Int)} {i j : Nat} (hi : i < 6) (h : lef cs i < lef cs j) : belo cs i < belo cs j :=
  countP_lt (fun k _ hk => decide_eq_true (by have := of_decide_eq_true hk; omega)) ⟨i, List.mem_range.mpr hi, decide_eq_true h, decide_eq_false (by omega)⟩
theorem belo_iff {cs : List (List Int)} {i j : Nat} (hi : i < 6) (hj : j < 6) (o : Six cs) : belo cs i < belo cs j ↔ lef cs i < lef cs j := by
  refine ⟨fun h => ?_, belo_lt hi⟩
  rcases Int.lt_trichotomy (lef cs i) (lef cs j) with q | q | q
  · exact q
  · exfalso
    unfold belo at h
    rw [q] at h; omega
  · have := belo_lt hj q; omega
theorem belo_le (cs : List (List Int)) (i : Nat) : belo cs i ≤ 6 := by
  have := List.countP_le_length (p := fun j => decide (lef cs j < lef cs i)) (l := List.range 6)
  rw [List.length_range] at this; exact this
theorem six_good {cs : List (List Int)} (o : Six cs) : Good (belo cs) (List.range 6) := fun u v w e hl => by
  have hs : List.Sublist v (List.range 6) := by
    rw [e]
    exact (List.sublist_append_right u v).trans (List.sublist_append_left (u ++ v) w)
  have hm : ∀ a ∈ v, a < 6 := fun a ha => List.mem_range.mp (hs.subset ha)
  have hp : v.Pairwise fun a b => ∃ m, Dif m (cs.getD a []) (cs.getD b []) := List.Pairwise.imp_of_mem (fun {a b} h1 h2 h => o.dif h (hm b h2)) (List.Pairwise.sublist hs (List.pairwise_lt_range (n := 6)))
  obtain ⟨x, y, m, e, hx, hy, hd⟩ := cut_ex (fun i => cs.getD i []) 6 0 v rfl hp hl (fun _ _ _ _ i hi => absurd hi (Nat.not_lt_zero _))
  refine ⟨x, y, e, hx, hy, ?_⟩
  have mx : ∀ a ∈ x, a < 6 := fun a ha => hm a (e ▸ List.mem_append_left _ ha)
  have my : ∀ a ∈ y, a < 6 := fun a ha => hm a (e ▸ List.mem_append_right _ ha)
  rcases Nat.mod_two_eq_zero_or_one m with h | h
  · exact .inr fun a ha b hb => belo_lt (my b hb) ((dif_h (o.at (mx a ha)) (o.at (my b hb)) (hd a ha b hb)).2.2 h)
  · exact .inl fun a ha b hb => belo_lt (mx a ha) ((dif_h (o.at (mx a ha)) (o.at (my b hb)) (hd a ha b hb)).2.1 h)
/-- the place of a curve -/
noncomputable def plc (cs : List (List Int)) (i : Nat) : Nat := (at6 (cs.getD i []) 5).toNat
noncomputable def eolN (k : Nat) : List Nat := if k = 0 then [10] else if k = 1 then [13] else [13, 10]
noncomputable def rw6 (cs : List (List Int)) (i : Nat) : Rw := ⟨1, [68 + plc cs i], eolN (plc cs i % 3)⟩
noncomputable def tre (cs : List (List Int)) : Tr := spell (belo cs) 6 (List.range 6)
theorem tre_ok {cs : List (List Int)} (o : Six cs) : (tre cs).ls = List.range 6 ∧ (tre cs).sep (belo cs) := spell_ok 6 (List.range 6) (six_good o) (by decide) (by decide)
/-- the places are places -/
noncomputable def Six5 (cs : List (List Int)) : Prop := ∀ i, plc cs i < 6
theorem rw6_ok {cs : List (List Int)} (h5 : Six5 cs) (i : Nat) : (rw6 cs i).ok := ⟨Nat.le_refl _, fun c hc => by
  have := h5 i
  rw [rw6, List.mem_singleton] at hc
  omega, by
  unfold rw6 eolN
  dsimp only
  split
  · exact .inl rfl
  · split
    · exact .inr (.inl rfl)
    · exact .inr (.inr rfl), fun h => nomatch h⟩
theorem tre_rows {cs : List (List Int)} (o : Six cs) : (tre cs).rows (rw6 cs) = (List.range 6).map fun i => upN (belo cs i) (rw6 cs i) := by
  obtain ⟨h1, h2⟩ := tre_ok o
  rw [rows_sep h2, h1]
  refine List.map_congr_left fun i hi => ?_
  congr 1
  have hi := List.mem_range.mp hi
  refine List.countP_congr fun j hj => ?_
  rw [decide_eq_true_iff, decide_eq_true_iff]
  exact belo_iff (List.mem_range.mp hj) hi o
theorem tre_told {cs : List (List Int)} (o : Six cs) (h5 : Six5 cs) : tell (quoted (mailOf ((tre cs).rows (rw6 cs)))) = some ((List.range 6).map fun i => .tup [.int ((belo cs i : Int) + 2), .int (64 * (4 + (plc cs i : Int)) + 13)]) := by
  have hok : ∀ r ∈ (tre cs).rows (rw6 cs), r.ok := fun r hr => by
    rw [tre_rows o] at hr
    obtain ⟨i, _, rfl⟩ := List.mem_map.mp hr
    exact upN_ok _ (rw6_ok h5 i)
  have hnv : ∀ i, nv 0 (rw6 cs i).nm = 64 * (4 + (plc cs i : Int)) + 13 := fun i => by
    show (0 * 64 + (((68 + plc cs i : Nat) : Int) - 64)) * 64 + 13 = _
    omega
  rw [quoted_mail hok, tell_mail, tre_rows o, List.map_map, List.map_map]
  · congr 1
    refine List.map_congr_left fun i _ => ?_
    show rowD (Rw.up (upN _ _)) = _
    unfold rowD
    show D.tup [.int (((upN (belo cs i) (rw6 cs i)).k + 1 : Nat) : Int), .int (nv 0 (upN (belo cs i) (rw6 cs i)).nm)] = _
    rw [upN_k, upN_nm, hnv]
    show D.tup [.int ((1 + belo cs i + 1 : Nat) : Int), _] = _
    rw [show ((1 + belo cs i + 1 : Nat) : Int) = (belo cs i : Int) + 2 by omega]
  · intro r hr
    obtain ⟨r', hr', rfl⟩ := List.mem_map.mp hr
    have ok := hok r' hr'
    rw [tre_rows o] at hr'
    obtain ⟨i, _, rfl⟩ := List.mem_map.mp hr'
    refine ok.told ?_ ?_
    · rw [upN_nm]; show 1 ≤ 7; decide
    · rw [upN_nm, hnv]; omega
-- sizes
theorem rows_len {R : Nat → Rw} : ∀ t : Tr, (t.rows R).length = t.ls.length
  | .bad => rfl
  | .leaf i => rfl
  | .plus l r => by simp [Tr.rows, Tr.ls, rows_len l, rows_len r]
  | .minus l r => by simp [Tr.rows, Tr.ls, rows_len l, rows_len r]
theorem up_e : ∀ (a : Nat) (r : Rw), r.e.length ≤ 2 → (upN a r).e.length ≤ 2
  | 0, r, h => h
  | a + 1, r, _ => Nat.le_refl _
/-- the rows of a tree: sound and small -/
structure Sml (n : Nat) (rs : List Rw) : Prop where
  ok : ∀ r ∈ rs, r.ok
  k : ∀ r ∈ rs, r.k ≤ n
  nm : ∀ r ∈ rs, r.nm.length = 1
theorem ok_e {r : Rw} (o : r.ok) : r.e.length ≤ 2 := by rcases o.e with h | h | h <;> rw [h] <;> decide
theorem Sml.up {n : Nat} {rs : List Rw} (s : Sml n rs) (a : Nat) : Sml (n + a) (rs.map (upN a)) := ⟨fun r hr => by
    obtain ⟨r', h, rfl⟩ := List.mem_map.mp hr
    exact upN_ok a (s.ok _ h), fun r hr => by
    obtain ⟨r', h, rfl⟩ := List.mem_map.mp hr
    rw [upN_k]; have := s.k _ h; omega, fun r hr => by
    obtain ⟨r', h, rfl⟩ := List.mem_map.mp hr
    rw [upN_nm]; exact s.nm _ h⟩
theorem Sml.app {n : Nat} {a b : List Rw} (s : Sml n a) (t : Sml n b) : Sml n (a ++ b) := ⟨fun r hr => (List.mem_append.mp hr).elim (s.ok r) (t.ok r), fun r hr => (List.mem_append.mp hr).elim (s.k r) (t.k r), fun r hr => (List.mem_append.mp hr).elim (s.nm r) (t.nm r)⟩
theorem Sml.mono {n m : Nat} {a : List Rw} (s : Sml n a) (h : n ≤ m) : Sml m a := ⟨s.ok, fun r hr => Nat.le_trans (s.k r hr) h, s.nm⟩
theorem Sml.len {n : Nat} : ∀ {rs : List Rw}, Sml n rs → (mailOf rs).length ≤ rs.length * (n + 3)
  | [], _ => Nat.zero_le _
  | r :: rs, s => by
    have ih := Sml.len (rs := rs) ⟨fun a h => s.ok a (List.mem_cons_of_mem _ h), fun a h => s.k a (List.mem_cons_of_mem _ h), fun a h => s.nm a (List.mem_cons_of_mem _ h)⟩
    have h1 := s.k r List.mem_cons_self
    have h2 := s.nm r List.mem_cons_self
    have h3 := ok_e (s.ok r List.mem_cons_self)
    rw [mailOf, Rw.cps, List.length_append, List.length_append, List.length_append, List.length_replicate, List.length_cons, Nat.succ_mul]
    omega
theorem tr_sml {cs : List (List Int)} (h5 : Six5 cs) : ∀ t : Tr, Sml t.ls.length (t.rows (rw6 cs))
  | .bad => ⟨(fun _ h => nomatch h), (fun _ h => nomatch h), (fun _ h => nomatch h)⟩
  | .leaf i => ⟨fun r h => by rw [List.mem_singleton.mp h]; exact rw6_ok h5 i, fun r h => by rw [List.mem_singleton.mp h]; exact Nat.le_refl _, fun r h => by rw [List.mem_singleton.mp h]; rfl⟩
  | .plus l r => by
    have h1 := tr_sml h5 l
    have h2 := (tr_sml h5 r).up l.ls.length
    refine Sml.app (h1.mono ?_) (h2.mono ?_) <;> (rw [Tr.ls, List.length_append]; omega)
  | .minus l r => by
    have h1 := (tr_sml h5 l).up r.ls.length
    have h2 := tr_sml h5 r
    refine Sml.app (h1.mono ?_) (h2.mono ?_) <;> (rw [Tr.ls, List.length_append]; omega)
-- the writing
noncomputable def Tr.wr : Tr → List Nat
  | .bad => [63]
  | .leaf i => [97 + i]
  | .plus l r => [40] ++ l.wr ++ [43] ++ r.wr ++ [41]
  | .minus l r => [40] ++ l.wr ++ [45] ++ r.wr ++ [41]
theorem wr_ln {B : Nat → Nat} : ∀ {t : Tr}, t.sep B → t.wr.length + 3 = 4 * t.ls.length
  | .bad, h => h.elim
  | .leaf i, _ => rfl
  | .plus l r, ⟨h1, h2, _⟩ => by have := wr_ln h1; have := wr_ln h2; simp only [Tr.wr, Tr.ls, List.length_append, List.length_cons, List.length_nil]; omega
  | .minus l r, ⟨h1, h2, _⟩ => by have := wr_ln h1; have := wr_ln h2; simp only [Tr.wr, Tr.ls, List.length_append, List.length_cons, List.length_nil]; omega
theorem wr_no63 {B : Nat → Nat} : ∀ {t : Tr}, t.sep B → (∀ i ∈ t.ls, i < 6) → 63 ∉ t.wr
  | .bad, h, _ => h.elim
  | .leaf i, _, _ => by simp only [Tr.wr, List.mem_singleton]; omega
  | .plus l r, ⟨h1, h2, _⟩, h => by
    have a := wr_no63 h1 fun i hi => h i (List.mem_append_left _ hi)
    have b := wr_no63 h2 fun i hi => h i (List.mem_append_right _ hi)
    simp [Tr.wr, a, b]
  | .minus l r, ⟨h1, h2, _⟩, h => by
    have a := wr_no63 h1 fun i hi => h i (List.mem_append_left _ hi)
    have b := wr_no63 h2 fun i hi => h i (List.mem_append_right _ hi)
    simp [Tr.wr, a, b]
/-- an entry of the pile -/
inductive En where
  | s (z : Int)
  | t (t : Tr)
noncomputable def okB (P : List En) (c : Nat) : Prop := c = 40 ∨ c = 43 ∨ c = 45 ∨ (∃ i, i < 6 ∧ c = 97 + i) ∨ (c = 41 ∧ ∃ l r P', (P = .t r :: .s 14 :: .t l :: P' ∨ P = .t r :: .s 15 :: .t l :: P') ∧ l.ls.length + r.ls.length ≤ 6)
noncomputable def stB (P : List En) (c : Nat) : List En :=
  if c = 40 then P else if c = 43 then .s 14 :: P else if c = 45 then .s 15 :: P else if c = 41 then
    match P with
    | .t r :: .s z :: .t l :: P' => .t (if z = 14 then .plus l r else .minus l r) :: P'
    | _ => []
  else .t (.leaf (c - 97)) :: P
noncomputable def RunB : List En → List Nat → List En → Prop
  | P, [], Z => P = Z
  | P, c :: w, Z => okB P c ∧ RunB (stB P c) w Z
theorem runB_app : ∀ {w v : List Nat} {P Q Z : List En}, RunB P w Q → RunB Q v Z → RunB P (w ++ v) Z
  | [], v, P, Q, Z, h1, h2 => by cases h1; exact h2
  | c :: w, v, P, Q, Z, ⟨h1, h2⟩, h3 => ⟨h1, runB_app h2 h3⟩
theorem runB_one {P : List En} {c : Nat} (h : okB P c) : RunB P [c] (stB P c) := ⟨h, rfl⟩
theorem runB_tr {B : Nat → Nat} : ∀ {t : Tr}, t.sep B → (∀ i ∈ t.ls, i < 6) → t.ls.length ≤ 6 → ∀ P, RunB P t.wr (.t t :: P)
  | .bad, h, _, _, _ => h.elim
  | .leaf i, _, h, _, P => by
    have hi := h i List.mem_cons_self
    have e : stB P (97 + i) = .t (.leaf i) :: P := by
      unfold stB
      rw [if_neg (by omega), if_neg (by omega), if_neg (by omega), if_neg (by omega), show 97 + i - 97 = i by omega]
    rw [← e]
    exact runB_one (.inr (.inr (.inr (.inl ⟨i, hi, rfl⟩))))
  | .plus l r, ⟨h1, h2, _⟩, h, hz, P => by
    rw [Tr.ls, List.length_append] at hz
    have a := runB_tr h1 (fun i hi => h i (List.mem_append_left _ hi)) (by omega)
    have b := runB_tr h2 (fun i hi => h i (List.mem_append_right _ hi)) (by omega)
    exact runB_app (runB_app (runB_app (runB_app (runB_one (.inl rfl)) (a P)) (runB_one (.inr (.inl rfl)))) (b _)) (runB_one (.inr (.inr (.inr (.inr ⟨rfl, l, r, P, .inl rfl, hz⟩)))))
  | .minus l r, ⟨h1, h2, _⟩, h, hz, P => by
    rw [Tr.ls, List.length_append] at hz
    have a := runB_tr h1 (fun i hi => h i (List.mem_append_left _ hi)) (by omega)
    have b := runB_tr h2 (fun i hi => h i (List.mem_append_right _ hi)) (by omega)
    exact runB_app (runB_app (runB_app (runB_app (runB_one (.inl rfl)) (a P)) (runB_one (.inr (.inr (.inl rfl))))) (b _)) (runB_one (.inr (.inr (.inr (.inr ⟨rfl, l, r, P, .inr rfl, hz⟩)))))
noncomputable def atB (w : List Nat) (i : Nat) : List En := (w.take i).foldl stB []
theorem atB_succ {w : List Nat} {i c : Nat} (h : w[i]? = some c) : atB w (i + 1) = stB (atB w i) c := by
  unfold atB
  rw [List.take_add_one, h, List.foldl_append]; rfl
theorem atB_inv {w : List Nat} {Z : List En} (h : RunB [] w Z) : ∀ i, i ≤ w.length → RunB (atB w i) (w.drop i) Z
  | 0, _ => h
  | i + 1, hi => by
    have ih := atB_inv h i (by omega)
    rw [List.drop_eq_getElem_cons (show i < w.length by omega)] at ih
    rw [atB_succ (List.getElem?_eq_getElem (show i < w.length by omega))]
    exact ih.2
theorem atB_ok {w : List Nat} {Z : List En} (h : RunB [] w Z) {i c : Nat} (hc : w[i]? = some c) : okB (atB w i) c := by
  obtain ⟨hi, rfl⟩ := List.getElem?_eq_some_iff.mp hc
  have ih := atB_inv h i (by omega)
  rw [List.drop_eq_getElem_cons hi] at ih
  exact ih.1
theorem atB_end {w : List Nat} {Z : List En} (h : RunB [] w Z) : atB w w.length = Z := by
  have := atB_inv h w.length (Nat.le_refl _)
  rw [List.drop_of_length_le (Nat.le_refl _)] at this
  exact this
theorem stB_len (P : List En) (c : Nat) : (stB P c).length ≤ P.length + 1 := by
  unfold stB
  split
  · omega
  · split
    · exact Nat.le_refl _
    · split
      · exact Nat.le_refl _
      · split
        · split
          · simp only [List.length_cons]; omega
          · exact Nat.zero_le _
        · exact Nat.le_refl _
theorem atB_len (w : List Nat) : ∀ i, i ≤ w.length → (atB w i).length ≤ i
  | 0, _ => Nat.le_refl _
  | i + 1, h => by
    rw [atB_succ (List.getElem?_eq_getElem (show i < w.length by omega))]
    have := atB_len w i (by omega)
    have := stB_len (atB w i) w[i]
    omega
end Mine
end
section
open PySem PySem.W PyProof.Rows
namespace Mine
noncomputable def numsOf1 (script : List Int) : List Int := (script.take 6).map (fun x => x.fmod 1000000) ++ [1, 6, 57, 12, 19, 3].drop (script.take 6).length
theorem numsOf1_len (script : List Int) : (numsOf1 script).length = 6 := by
  unfold numsOf1
  simp only [List.length_append, List.length_map, List.length_drop, List.length_take, List.length_cons, List.length_nil]
  omega
theorem numsOf1_ok (script : List Int) : ∀ x ∈ numsOf1 script, 0 ≤ x ∧ x < 1000000 := fun x hx => by
  rcases List.mem_append.mp hx with h | h
  · obtain ⟨y, _, rfl⟩ := List.mem_map.mp h
    exact ⟨Int.fmod_nonneg_of_pos _ (by decide), Int.fmod_lt_of_pos _ (by decide)⟩
  · have := List.mem_of_mem_drop h
    simp at this
    omega
noncomputable def figOf (v : Int) (k : Nat) : Int := [0, 1, 31].getD (((v.fdiv (3 ^ k)).fmod 3).toNat) 0
theorem figOf_b (v : Int) (k : Nat) : 0 ≤ figOf v k ∧ figOf v k < 32 := by
  unfold figOf
  match ((v.fdiv (3 ^ k)).fmod 3).toNat with
  | 0 => decide
  | 1 => decide
  | 2 => decide
  | n + 3 => exact ⟨Int.le_refl _, (by decide : (0 : Int) < 32)⟩
theorem figOf_get (v : Int) (k : Nat) : [(0 : Int), 1, 31][((v.fdiv (3 ^ k)).fmod 3).toNat]? = some (figOf v k) := by
  have h1 := Int.fmod_nonneg_of_pos (v.fdiv (3 ^ k)) (b := 3) (by decide)
  have h2 := Int.fmod_lt_of_pos (v.fdiv (3 ^ k)) (b := 3) (by decide)
  unfold figOf
  have h : ((v.fdiv (3 ^ k)).fmod 3).toNat < 3 := by omega
  rw [List.getD_eq_getElem?_getD, List.getElem?_eq_getElem (by exact h)]; rfl
noncomputable def curveOf (nums : List Int) (p : Nat) : List Int := ((List.range 5).map fun k => figOf (nums.getD p 0) k) ++ [(p : Int)]
noncomputable def curvesOf (nums : List Int) : List (List Int) := (List.range 6).map (curveOf nums)
theorem curve_eq (nums : List Int) (p : Nat) : curveOf nums p = [figOf (nums.getD p 0) 0, figOf (nums.getD p 0) 1, figOf (nums.getD p 0) 2, figOf (nums.getD p 0) 3, figOf (nums.getD p 0) 4, (p : Int)] := rfl
theorem curve_cv {nums : List Int} {p : Nat} (h : p < 6) : Cv (curveOf nums p) := ⟨rfl, fun k hk => by
  rw [curve_eq]
  match k, hk with
  | 0, _ => exact figOf_b _ _
  | 1, _ => exact figOf_b _ _
  | 2, _ => exact figOf_b _ _
  | 3, _ => exact figOf_b _ _
  | 4, _ => exact figOf_b _ _
  | 5, _ => exact ⟨Int.natCast_nonneg _, by show (p : Int) < 32; omega⟩⟩
theorem curve_5 (nums : List Int) (p : Nat) : at6 (curveOf nums p) 5 = p := rfl
theorem curves_len (nums : List Int) : (curvesOf nums).length = 6 := by rw [curvesOf, List.length_map, List.length_range]
theorem curves_at {nums : List Int} {i : Nat} (h : i < 6) : (curvesOf nums).getD i [] = curveOf nums i := by
  rw [List.getD_eq_getElem?_getD, curvesOf, List.getElem?_map, List.getElem?_range h]; rfl
theorem curves_ne (nums : List Int) : ∀ i j, i < 6 → j < 6 → i ≠ j → (curvesOf nums).getD i [] ≠ (curvesOf nums).getD j [] := fun i j hi hj hne e => by
  rw [curves_at hi, curves_at hj] at e
  have : at6 (curveOf nums i) 5 = at6 (curveOf nums j) 5 := by rw [e]
  rw [curve_5, curve_5] at this
  omega
theorem six_of (nums : List Int) : Six (srt (curvesOf nums)) := by
  obtain ⟨h1, h2, h3⟩ := srt_lt (curves_ne nums)
  exact ⟨h1, fun f hf => by
    obtain ⟨i, hi, rfl⟩ := h3 f hf
    rw [curves_at hi]; exact curve_cv hi, h2⟩
theorem six5_of (nums : List Int) : Six5 (srt (curvesOf nums)) := fun i => by
  obtain ⟨h1, h2, h3⟩ := srt_lt (curves_ne nums)
  unfold plc
  rcases Nat.lt_or_ge i 6 with h | h
  · obtain ⟨j, hj, e⟩ := h3 ((srt (curvesOf nums)).getD i []) (by
      rw [List.getD_eq_getElem?_getD, List.getElem?_eq_getElem (by rw [h1]; exact h)]
      exact List.getElem_mem _)
    rw [e, curves_at hj, curve_5]
    omega
  · rw [List.getD_eq_getElem?_getD, List.getElem?_eq_none (by omega)]
    decide
/-- what the six octets are read as -/
noncomputable def hor (a b c d e f : Int) : Int := ((((a * 64 + b) * 64 + c) * 64 + d) * 64 + e) * 64 + f
theorem oct64 {a : Int} (h0 : 0 ≤ a) (h1 : a < 64) : (Builtin.bitAnd (64 + a) 64 != 0) = true ∧ Builtin.bitAnd (64 + a) 63 = a := by
  obtain ⟨n, rfl⟩ := Int.eq_ofNat_of_zero_le h0
  have := and64 (c := 64 + n) (by omega) (by omega)
  rw [show ((64 + n : Nat) : Int) = 64 + (n : Int) by omega] at this
  exact ⟨this.1, by rw [this.2]; omega⟩
theorem oct0 {a : Int} (h0 : 0 ≤ a) (h1 : a < 64) : (Builtin.bitAnd a 64 != 0) = false ∧ Builtin.bitAnd a 63 = a := by
  obtain ⟨n, rfl⟩ := Int.eq_ofNat_of_zero_le h0
  have : ∀ c : Fin 64, (Builtin.bitAnd ((c.val : Nat) : Int) 64 != 0) = false ∧ Builtin.bitAnd ((c.val : Nat) : Int) 63 = ((c.val : Nat) : Int) := by decide +kernel
  exact this ⟨n, by omega⟩
theorem vstep {b val c : Int} {r : List Int} (hb : (Builtin.bitAnd b 64 != 0) = true) (h0 : 0 ≤ val) (h1 : val < 2 ^ 40) (hc : ∃ x, Builtin.bitAnd c 63 = x ∧ 0 ≤ x ∧ x < 64) : vloop (c :: r) b val = vloop r c (val * 64 + Builtin.bitAnd c 63) := by
  obtain ⟨x, e, x0, x1⟩ := hc
  rw [vloop, if_pos hb, if_pos (by omega), e, or64 h0 x0 x1]
theorem vread_six {a b c d e f : Int} (ha : 0 ≤ a ∧ a < 32) (hb : 0 ≤ b ∧ b < 32) (hc : 0 ≤ c ∧ c < 32) (hd : 0 ≤ d ∧ d < 32) (he : 0 ≤ e ∧ e < 32) (hf : 0 ≤ f ∧ f < 32) :
    vread [64 + a, 64 + b, 64 + c, 64 + d, 64 + e, f] = some (hor a b c d e f, []) := by
  have qa := oct64 ha.1 (by omega)
  have qb := oct64 hb.1 (by omega)
  have qc := oct64 hc.1 (by omega)
  have qd := oct64 hd.1 (by omega)
  have qe := oct64 he.1 (by omega)
  have qf := oct0 hf.1 (by omega)
  unfold hor
  show vloop _ _ (Builtin.bitAnd (64 + a) 63) = _
  rw [qa.2, vstep qa.1 (by omega) (by omega) ⟨b, qb.2, by omega, by omega⟩, qb.2, vstep qb.1 (by omega) (by omega) ⟨c, qc.2, by omega, by omega⟩, qc.2, vstep qc.1 (by omega) (by omega) ⟨d, qd.2, by omega, by omega⟩, qd.2,
    vstep qd.1 (by omega) (by omega) ⟨e, qe.2, by omega, by omega⟩, qe.2, vstep qe.1 (by omega) (by omega) ⟨f, qf.2, by omega, by omega⟩, qf.2, vloop, if_neg (by rw [qf.1]; exact Bool.false_ne_true)]
theorem hor_R (f : List Int) : hor (at6 f 0) (at6 f 1) (at6 f 2) (at6 f 3) (at6 f 4) (at6 f 5) = hR f := by unfold hor hR; omega
theorem hor_L (f : List Int) : 2 * hor (at6 f 0 * 0) (at6 f 1 * 1) (at6 f 2 * 0) (at6 f 3 * 1) (at6 f 4 * 0) (at6 f 5 * 1) - hR f = hL f := by unfold hor hR hL; omega
theorem sum_R (f : List Int) : ([at6 f 0 * 64 ^ 5, at6 f 1 * 64 ^ 4, at6 f 2 * 64 ^ 3, at6 f 3 * 64 ^ 2, at6 f 4 * 64 ^ 1, at6 f 5 * 64 ^ 0] : List Int).sum = hR f := by
  unfold hR; simp only [List.sum_cons, List.sum_nil]; omega
theorem sum_L (f : List Int) : ([at6 f 0 * (-64) ^ 5, at6 f 1 * (-64) ^ 4, at6 f 2 * (-64) ^ 3, at6 f 3 * (-64) ^ 2, at6 f 4 * (-64) ^ 1, at6 f 5 * (-64) ^ 0] : List Int).sum = hL f := by
  unfold hL; simp only [List.sum_cons, List.sum_nil]; omega
theorem cv_eq {f : List Int} (o : Cv f) : f = [at6 f 0, at6 f 1, at6 f 2, at6 f 3, at6 f 4, at6 f 5] := by
  match f, o.len with
  | [a, b, c, d, e, g], _ => rfl
end Mine
end
section
open PySem PySem.W PyProof.Rows
namespace Mine

section
variable {prog : Program} {w : World} {A : Around} {env : Env} {h hb : Heap} {X : List Addr} {mg mb : Str → Option Value} {σ : Sg} {s s0 : Shared}
theorem st_forP (Pp : Nat → Prop) (hP0 : Pp 0) {target iter : Expr} {body rest : List Stmt} {pos : Pos} {items : List D} {τ : Nat → Sg} {τ1 : Nat → D → Sg} {O : List Addr} {Rt : D → Prop} {Q : Flow → Shared → Prop} {E : Value → Shared → Prop}
    (hA : A.handled = none) (f : Fm hb env) (q : St s0 hb env X (τ 0) s) (hO : ∀ i x a ds, τ i x = some (.own a ds) → a ∈ O) (hOX : ∀ a ∈ O, a ∈ X) (hNI : ∀ i x I l k ns, τ i x ≠ some (.iter I l k ns))
    (hi : Gi prog w A s.heap X env iter items)
    (hasg : ∀ (hb' : Heap) (i : Nat) (d : D) (v : Value) (s : Shared) (I : Addr) (E' : Value → Shared → Prop), Reb hb hb' env → items[i]? = some d → St s0 hb' env X (τ i) s → Rd X s.heap v d → IterOk I s.heap →
      wpAny (model prog w) A (letOwnedTupleGo target (.ref I) v) (fun _ s1 => wpAny (model prog w) A (assign target env v) (fun _ s' => St s0 hb' env X (τ1 i d) s') E' s1) E' s)
    (hbody : ∀ (hb' : Heap) (i : Nat) (d : D) (s : Shared) (E' : Value → Shared → Prop), Pp i → Reb hb hb' env → items[i]? = some d → St s0 hb' env X (τ1 i d) s →
      wpAny (model prog w) A (execs body env) (fun fl s' => match fl with
        | .next | .cont => St s0 hb' env X (τ (i + 1)) s' ∧ Pp (i + 1)
        | .brk => False
        | .ret v => ∃ d, Rt d ∧ Rd X s'.heap v d ∧ Kp hb' s'.heap ∧ SR s0 s') E' s)
    (hn : ∀ s', Pp items.length → St s0 hb env X (τ items.length) s' → wpAny (model prog w) A (execs rest env) Q E s')
    (hr : ∀ v d s', Rt d → Rd X s'.heap v d → Kp hb s'.heap → SR s0 s' → Q (.ret v) s')
    (hs : ∀ x, foldedSetIterable iter env x = pure x := by intro _; rfl) :
    wpAny (model prog w) A (execs (.For target iter body [] pos :: rest) env) Q E s := by
  refine wpAny_execs_cons (wpAny_For (hi q.xok s _ _ Kp.refl fun I fp wr P Sx s₂ k₂ S => ?_) hs)
  have q₂ := q.up k₂
  have hbI : hb.get? I = none := by
    cases e : hb.get? I with
    | none => rfl
    | some o => rw [← q.kp _ _ e, S.new]
  have W := S.W A hA
  have fpI : I ∉ X := by
    obtain ⟨o, T, vs, ho, _⟩ := S.cls 0 _ S.st
    intro hm
    obtain ⟨o', ho'⟩ := q.xok I hm
    rw [S.new] at ho'; cases ho'
  refine codeAny_forLoop_any (fun k s' => ∃ i, Pp i ∧ i ≤ items.length ∧ k = items.length + 1 - i ∧ Sx i s'.heap ∧ St s0 hb env X (τ i) s' ∧ KS X s₂.heap s'.heap) ?_ (items.length + 1)
    ⟨0, hP0, Nat.zero_le _, rfl, S.st, q₂, fun _ _ _ _ e => e⟩
  rintro k s' ⟨i, hPi, hle, rfl, hst, q', ks⟩
  obtain ⟨oI, T, fs, hoI, hcI, hdI, hTI⟩ := S.cls i _ hst
  have ksI : ∀ {h' : Heap}, (∀ b o, b ∉ wr → s'.heap.get? b = some o → h'.get? b = some o) → ∀ b o, b ≠ I → s'.heap.get? b = some o → h'.get? b = some o := fun hk b o hb e => hk b o (by rw [S.wrI]; simpa using hb) e
  rcases Nat.lt_or_ge i items.length with hlt | hge
  · refine W.item i s' _ _ hlt hst fun v h' tk hP hst' hk => ?_
    have q1 := q'.walk (tk := tk) ⟨oI, fs, hoI, hdI⟩ hbI (.inl fpI) (ksI hk) (fun x I' l k ns e => absurd e (hNI i x I' l k ns))
    have ks1 : KS X s₂.heap h' := fun b o hX hq e => ksI hk b o (by
      rintro rfl
      have := ks _ o hX hq e
      rw [hoI] at this; cases this
      obtain ⟨_, _, hq⟩ := hq
      rw [hdI] at hq; cases hq) (ks b o hX hq e)
    obtain ⟨hb', R, q2, hin⟩ := q1.rebase f O (hO i) (fun x I' l k ns e => absurd e (hNI i x I' l k ns))
    obtain ⟨d, hd, rd⟩ := S.val i v hP
    have hfp : ∀ b ∈ fp, ∀ o, h'.get? b = some o → hb'.get? b = some o := fun b hb o e => by
      obtain ⟨o', e', nd⟩ := S.nd (i + 1) h' hst' b hb
      rw [e] at e'; cases e'
      exact hin b o e (fun hm => S.fpx b hb (hOX b hm)) nd
    refine wpAny_mono (hasg hb' i d v _ I (notedBy (model prog w) A env fun e s' => match (Except.error e : Result) with | .ok f => (match f with | .next => wpAny (model prog w) A (execs rest env) Q E s' | f => Q f s') | .error e => cameBackBy (model prog w) A env E e s') R hd q2 (Rd.go (fun _ x => x) ks1 d rd) (S.cls (i + 1) h' hst')) (fun _ s1 h1 => ?_) fun _ _ e => e
    refine wpAny_mono h1 (fun _ s1' q3 => ?_) fun _ _ e => e
    refine wpAny_mono (hbody hb' i d s1' _ hPi R hd q3) (fun fl s4 h4 => ?_) fun _ _ e => e
    have next : St s0 hb' env X (τ (i + 1)) s4 ∧ Pp (i + 1) → ∃ m, m < items.length + 1 - i ∧ ∃ i, Pp i ∧ i ≤ items.length ∧ m = items.length + 1 - i ∧ Sx i s4.heap ∧ St s0 hb env X (τ i) s4 ∧ KS X s₂.heap s4.heap := fun ⟨q4, hP4⟩ =>
      ⟨items.length + 1 - (i + 1), by omega, i + 1, hP4, hlt, rfl, W.frame _ _ _ hst' fun b hb o e => q4.kp b o (hfp b hb o e), q4.base R.kp, fun b o hX hq e => q4.kp b o (hin b o (ks1 b o hX hq e) (fun hm => hX (hOX b hm)) (isSeq_notDC hq))⟩
    cases fl with
    | next => exact next h4
    | cont => exact next h4
    | brk => exact h4.elim
    | ret v => obtain ⟨d', h1, h2, h3, h5⟩ := h4; exact hr v d' s4 h1 h2 (R.kp.trans h3) h5
  · have hin : i = items.length := Nat.le_antisymm hle hge
    subst hin
    refine W.done s' _ _ hst fun h' tk hk => ?_
    exact wpAny_execs_nil (hn _ hPi (q'.walk (tk := tk) ⟨oI, fs, hoI, hdI⟩ hbI (.inl fpI) (ksI hk) (fun x I' l k ns e => absurd e (hNI _ x I' l k ns))))

/-- f(iter(e)), where f reads from the iterator -/
theorem ev_viter {f it : Str} {np ip ipos pos : Pos} {e : Expr} {ns R : List Int} {V : Int} {fa : Addr} {o : Obj} {fd : FuncData} (eo : EnvOk env) (g : Gl mg mb h) (hf : env.kindOf f = some .globalImplicit) (hm : mg f = some (.ref fa)) (ho : h.get? fa = some o) (hd : o.data = .func fd)
    (hit : env.kindOf it = some .globalImplicit) (hmi : mg it = none) (hbi : mb it = some (.builtin "iter")) (he : Gv prog w A h X (eval e env) (.lst (ns.map .int)))
    (hc : ∀ (s : Shared) (I l : Addr) (vs : List Value) (n : Nat) (Q : Value → Shared → Prop) (E : Value → Shared → Prop), Kp h s.heap → XOk X s.heap → s.heap.IsListIter I l 0 → l ∉ X → s.heap.get? l = some (LO vs n) → Rds X s.heap vs (ns.map .int) →
      (∀ t s' j, SR s s' → (∀ b o, b ≠ I → s.heap.get? b = some o → s'.heap.get? b = some o) → s'.heap.IsListIter I l j → ns.drop j = R → Q (.int V t) s') → wpAny (model prog w) A (call (.ref fa) [.ref I]) Q E s)
    (hs : starEach [e] env = (false, eval e env) :: starEach [] env := by rfl) (hdf : (it == ("__debug__" : Str)) = false := by decide) (hdb : (f == ("__debug__" : Str)) = false := by decide)
    (hs2 : starEach [.Call (.Name it ip) [e] [] ipos] env = (false, eval (.Call (.Name it ip) [e] [] ipos) env) :: starEach [] env := by rfl) :
    Gv prog w A h X (eval (.Call (.Name f np) [.Call (.Name it ip) [e] [] ipos] [] pos) env) (.int V) := fun hX s Q E hk hQ => by
  refine wpAny_bind (wp_glob eo hf (g.up hk) hm (Calls.callWith_function (fd := fd) (o := o) (Calls.evalArgs_plain (Calls.spliced_cons (wpAny_bind (wp_bltn eo hit (g.up hk) hmi hbi (Calls.callWith_builtin (by rw [hs]; rfl) (wp_args hX hk (gs_cons he gs_nil hs) (fun vs s1 k1 r1 => ?_) hs)) hdf)) ))) hdb)
  obtain ⟨v, rfl, l, vs, n, rfl, hl, hg, hr⟩ := r1.one
  refine wp_iter (lo_isList hg) ?_
  have k2 : Kps s { s1 with heap := s1.heap.push { cls := .type "list_iterator", data := .fields #[.ref l, .int 0 0] } } := k1.tr keeps_push
  have hnew : s.heap.get? s1.heap.objs.size = none := new_none (s1 := s1) k1.kp (Nat.le_refl _)
  refine Calls.spliced_nil ⟨⟨k2.kp _ _ (hk _ _ ho), hd⟩, ?_⟩
  refine hc _ s1.heap.objs.size l vs n _ _ (hk.trans k2.kp) (hX.up (hk.trans k2.kp)) ⟨_, Heap.get?_push_size _ rfl, rfl, rfl⟩ hl (Heap.get?_push_of_some _ hg) (hr.up kp_push) fun t s' j hsr hk3 _ _ => ?_
  have r0 : SR s { s1 with heap := s1.heap.push { cls := .type "list_iterator", data := .fields #[.ref l, .int 0 0] } } := SR.up ⟨rfl, rfl, rfl⟩ k2
  refine hQ _ s' (SR.kps ⟨hsr.1.trans r0.1, hsr.2.1.trans r0.2.1, hsr.2.2.trans r0.2.2⟩ fun b o e => hk3 b o (fun eb => ?_) (k2.kp b o e)) ⟨t, rfl⟩
  rw [eb, hnew] at e; cases e
/-- TABLE.get(e1, e2) -/
theorem ev_dget {e1 e2 : Expr} {p : Str} {np apos pos : Pos} {a : Addr} {x : Str} {f : Str → Option Value} {i d : Int} (eo : EnvOk env) (hx : env.kindOf p = some .globalImplicit) (g : Gl mg mb h) (hp : mg p = some (.ref a)) (hm : h.MapOf (strKind prog w) a f) (ha : (a == sysModules) = false)
    (he : Gv prog w A h X (eval e1 env) (.str x)) (he2 : Gv prog w A h X (eval e2 env) (.int d)) (hv : (∃ t, f x = some (.int i t)) ∨ (f x = none ∧ i = d)) (hline : (apos.endLine == pos.line) = true)
    (hbase : attributeBase (.Name p np) (Str.ofString "get") env (eval (.Name p np) env) = eval (.Name p np) env := by rfl) (hs : starEach [e1, e2] env = [(false, eval e1 env), (false, eval e2 env)] := by rfl) (hdb : (p == ("__debug__" : Str)) = false := by decide) :
    Gv prog w A h X (eval (.Call (.Attribute (.Name p np) (Str.ofString "get") apos) [e1, e2] [] pos) env) (.int i) := fun hX s Q E hk hQ => by
  refine Call_method2 hbase hs hline (wp_glob eo hx (g.up hk) hp ?_ hdb)
  have hm0 := map_up hm hk
  refine ⟨"dict", "dict.get", PySem.F.plainAttrs_dict, PySem.F.slot_dict_get, PySem.F.type_dict_get, hm0.typeIs, hm0.noDict, ?_⟩
  refine Calls.callWith_builtin rfl (Calls.evalArgs_plain (Calls.spliced_cons (he hX s _ _ hk fun v s1 k1 r1 => Calls.spliced_cons (he2 hX s1 _ _ (hk.trans k1.kp) fun v2 s2 k2 r2 => Calls.spliced_nil ?_))))
  obtain ⟨t, rfl⟩ := r1
  obtain ⟨u, rfl⟩ := r2
  have hm2 := map_up hm ((hk.trans k1.kp).trans k2.kp)
  refine call_meetsIn PySem.F.slot_dict_get hm2.typeIs PySem.F.entry_dict_get (PySem.F.args_dict_get_3 _ _ _) (meets_dict_get_default (strKind prog w) a (strKind_is prog w x t) ha _) ⟨f, hm2, ?_⟩
  rcases hv with ⟨t', e⟩ | ⟨e, rfl⟩
  · rw [e]; exact hQ _ _ ((k1.tr k2).tr keeps_tok) ⟨_, rfl⟩
  · rw [e]; exact hQ _ _ ((k1.tr k2).tr keeps_tok) ⟨_, rfl⟩
end
end Mine
end
section
open PySem PySem.W PyProof.Rows
namespace Mine
noncomputable def toTGo : List Obj → BT → Nat → Option (BT × Nat)
  | [], t, n => some (t, n)
  | o :: r, t, n => match ((t.ins n o).get n).isSome with
    | true => toTGo r (t.ins n o) (n + 1)
    | false => none
noncomputable def toT (s : Shared) : Option SharedT := match toTGo s.heap.objs.toList .nil 0 with
  | some (t, n) => some ⟨t, n, s.heap.life, s.gens, s.drawn, s.toks, s.os⟩
  | none => none
theorem toTGo_abs (life : Life) : ∀ {l : List Obj} {t t' : BT} {n n' : Nat}, toTGo l t n = some (t', n') → (absHeap t' n' life).objs.toList = (absHeap t n life).objs.toList ++ l
  | [], t, t', n, n', h => by cases h; simp
  | o :: r, t, t', n, n', h => by
    unfold toTGo at h
    cases e : ((t.ins n o).get n).isSome with
    | false => rw [e] at h; cases h
    | true =>
      rw [e] at h
      rw [toTGo_abs life h, absHeap_ins (life := life) e]
      show ((absHeap t n life).objs.push o).toList ++ r = _
      rw [Array.toList_push, List.append_assoc]; rfl
theorem toT_abs {s : Shared} {t : SharedT} (h : toT s = some t) : t.abs = s := by
  unfold toT at h
  split at h
  · cases h
    obtain ⟨⟨objs, life⟩, gens, drawn, toks, os⟩ := s
    have := toTGo_abs life (by assumption)
    show Shared.mk (absHeap _ _ life) _ _ _ _ = _
    have e : ∀ (h : Heap), h.life = life → h.objs.toList = objs.toList → h = ⟨objs, life⟩ := by
      rintro ⟨a, b⟩ h1 h2
      have h1 : b = life := h1
      subst h1
      have h2 : a.toList = objs.toList := h2
      rw [Array.toList_inj.mp h2]
    rw [e (absHeap _ _ life) rfl (by rw [this]; rfl)]
  · cases h
section
variable (tb : String → Option Builtin) (p : Program) (w : World)
noncomputable def impT (stp : SharedT → Thread → Option (SharedT × Thread)) : Nat → SharedT → Thread → Option SharedT
  | 0, _, _ => none
  | n + 1, s, t => match t.atExitBegin with
    | some [] => some s
    | some (_ :: _) => none
    | none => match stp s t with
      | some (s', t') => impT stp n s' t'
      | none => none
noncomputable def topT (stp : SharedT → Thread → Option (SharedT × Thread)) (ok : Thread → Bool) : Nat → SharedT → Thread → Option SharedT
  | 0, _, _ => none
  | n + 1, s, t => match through t with
    | true => some s
    | false => match ok t with
      | false => none
      | true => match stp s t with
        | some (s', t') => topT stp ok n s' t'
        | none => none
variable {tb p w}
theorem impT_of : ∀ {n : Nat} {s s' : SharedT} {t : Thread}, impT (stepT (denote tb) p w) n s t = some s' → importEnds tb p w n s.abs t = some s'.abs
  | 0, _, _, _, h => by cases h
  | n + 1, s, s', t, h => by
    unfold impT at h
    unfold importEnds
    cases he : t.atExitBegin with
    | some l => rw [he] at h; cases l <;> cases h; rfl
    | none =>
      rw [he] at h
      cases hs : stepT (denote tb) p w s t with
      | none => rw [hs] at h; cases h
      | some r => obtain ⟨s₂, t₂⟩ := r; rw [hs] at h; dsimp only; rw [stepT_spec hs]; exact impT_of h
theorem topT_of {n₀ : Nat} {ann : Option Value} : ∀ {n : Nat} {s s' : SharedT} {t : Thread}, topT (stepT (denote tb) p w) (stepOk n₀ ann) n s t = some s' → topRun tb p w n₀ ann n s.abs t = some s'.abs
  | 0, _, _, _, h => by cases h
  | n + 1, s, s', t, h => by
    unfold topT at h
    unfold topRun
    cases he : through t with
    | true => rw [he] at h; cases h; rfl
    | false =>
      rw [he] at h
      cases hk : stepOk n₀ ann t with
      | false => rw [hk] at h; cases h
      | true =>
        rw [hk] at h
        cases hs : stepT (denote tb) p w s t with
        | none => rw [hs] at h; cases h
        | some r => obtain ⟨s₂, t₂⟩ := r; rw [hs] at h; rw [stepT_spec hs]; exact topT_of h
end
end Mine
end
section
open PySem PySem.W PyProof.Rows
namespace Mine
noncomputable def hdAll (p q : Program) (loose : List Str) (Xt : Shared → Bool) (as : List Addr) (w : World) (N : Nat) :=
  match toT (start (opening p)).1 with
  | none => none
  | some T0 => match impT (stepT (denote treeTable) (opening p) w) N T0 (start (opening p)).2 with
    | none => none
    | some T1 => match fenceModules? p T1.abs with
      | none => none
      | some s0 => match toT s0 with
        | none => none
        | some T2 => match s0.heap.isNs mainGlobals && s0.gens.size == 0 with
          | false => none
          | true => match topT (stepT (denote treeTable) p w) (stepOk T2.n (s0.heap.nsMap mainGlobals "__annotations__")) N T2 (topStub p) with
            | none => none
            | some T3 => match staticsOk (importedModules p.main.body) s0.heap T3.abs.heap && namesBound p T3.abs.heap && gensDone T3.abs && laidKept s0.heap T3.abs.heap with
              | false => none
              | true => some (openSeen q loose (importedModules p.main.body) Xt true T3.abs, as.map fun a => T3.abs.heap.get? a)
noncomputable def hdAllF (p q : Program) (loose : List Str) (Xt : Shared → Bool) (as : List Addr) (w : World) (N : Nat) :=
  match toT (PySem.W.Fast.tw1435165496053646825 (opening p)).1 with
  | none => none
  | some T0 => match impT (PySem.W.Fast.tw10156331382660048174 (PySem.W.Fast.tw11892475500146522536 PySem.W.Fast.tw14364793385576792824) (opening p) w) N T0 (PySem.W.Fast.tw1435165496053646825 (opening p)).2 with
    | none => none
    | some T1 => match PySem.W.Fast.tw14289696077712309145 p T1.abs with
      | none => none
      | some s0 => match toT s0 with
        | none => none
        | some T2 => match s0.heap.isNs mainGlobals && s0.gens.size == 0 with
          | false => none
          | true => match topT (PySem.W.Fast.tw10156331382660048174 (PySem.W.Fast.tw11892475500146522536 PySem.W.Fast.tw14364793385576792824) p w) (PySem.W.Fast.tw6613529449190102663 T2.n (s0.heap.nsMap mainGlobals "__annotations__")) N T2 (topStub p) with
            | none => none
            | some T3 => match staticsOk (PySem.W.Fast.tw5923862056798008813 p.main.body) s0.heap T3.abs.heap && namesBound p T3.abs.heap && gensDone T3.abs && laidKept s0.heap T3.abs.heap with
              | false => none
              | true => some (PySem.W.Fast.tw4187177175401517315 q loose (PySem.W.Fast.tw5923862056798008813 p.main.body) Xt true T3.abs, as.map fun a => T3.abs.heap.get? a)

theorem hdAll_eq : @hdAll = @hdAllF := by
  unfold hdAll hdAllF
  rw [← PySem.W.Fast.te10156331382660048174, ← PySem.W.Fast.te11892475500146522536, ← PySem.W.Fast.te14364793385576792824, ← PySem.W.Fast.te1435165496053646825, ← PySem.W.Fast.te14289696077712309145, ← PySem.W.Fast.te6613529449190102663, ← PySem.W.Fast.te5923862056798008813, ← PySem.W.Fast.te4187177175401517315]
theorem LeftO.of_hd {p q : Program} {loose : List Str} {Xt : Shared → Bool} {as : List Addr} {Ya : World → List (Option Obj)} {N : Nat}
    (h : ∀ w : World, hdAll p q loose Xt as w N = some (openGood q loose, Ya w)) : LeftO p q loose Xt (fun s => as.map fun a => s.heap.get? a) Ya N true := fun w => by
  have h := h w
  unfold hdAll at h
  split at h
  · cases h
  · rename_i T0 e0
    split at h
    · cases h
    · rename_i T1 e1
      split at h
      · cases h
      · rename_i s0 e2
        split at h
        · cases h
        · rename_i T2 e3
          split at h
          · cases h
          · rename_i e4
            split at h
            · cases h
            · rename_i T3 e5
              split at h
              · cases h
              · rename_i e6
                have f : fencedOpening treeTable p w N = some s0 := by
                  unfold fencedOpening
                  have := impT_of e1
                  rw [toT_abs e0] at this
                  rw [this]
                  exact e2
                have hn : T2.n = s0.heap.objs.size := by
                  have := congrArg (fun s => s.heap.objs.size) (toT_abs e3)
                  rw [← this]
                  show _ = (absHeap T2.tree T2.n T2.life).objs.size
                  rw [absHeap_size]
                have t : topFrom treeTable p w N s0 = some T3.abs := by
                  unfold topFrom
                  rw [e4]
                  have := topT_of e5
                  rw [toT_abs e3, hn] at this
                  dsimp only
                  rw [this]
                  show (match staticsOk (importedModules p.main.body) s0.heap T3.abs.heap && namesBound p T3.abs.heap && gensDone T3.abs && laidKept s0.heap T3.abs.heap with | true => some T3.abs | false => none) = _
                  rw [e6]
                unfold openEnds
                rw [f]
                show (topFrom treeTable p w N s0).map _ = _
                rw [t]
                exact h
theorem Frag.in_of {K : Params → Frag} {w : World} {h : Heap} (e : ((K w.params).map (·.1)).map (fun a => h.get? a) = (K w.params).map (fun p => some p.2)) : (K w.params).In h := by
  generalize K w.params = L at e
  induction L with
  | nil => intro a o h; cases h
  | cons p r ih =>
    obtain ⟨b, ob⟩ := p
    simp only [List.map_cons, List.cons.injEq] at e
    intro a o hl
    rw [List.lookup_cons] at hl
    split at hl
    · rename_i hb
      cases hl
      rw [eq_of_beq hb]; exact e.1
    · exact ih e.2 a o hl
end Mine
end
section
open PySem PySem.W PyProof.Rows
namespace Mine
noncomputable abbrev pw : Program := PySem.Challenge.pw_rs0074_01
noncomputable def keepS : Stmt → Bool
  | .FunctionDef .. => true
  | .Import .. => true
  | _ => false
noncomputable def VP : Program := { pw with main := { pw.main with body := pw.main.body.filter keepS } }
noncomputable def loose : List Str := pw.boundNames
noncomputable def gtab : List (Str × Option Value) := [
  (Str.ofString "CRLF", some (.str ⟨#[13, 10]⟩ 353)),
  (Str.ofString "ENDMARKER", some (.int 0 364)),
  (Str.ofString "NT_OFFSET", some (.int 256 462)),
  (Str.ofString "_twin_re_1", some (.ref 43)),
  (Str.ofString "_twin_re_2", some (.ref 48)),
  (Str.ofString "EXACT_TOKEN_TYPES", some (.ref 56)),
  (Str.ofString "next", none),
  (Str.ofString "iter", none),
  (Str.ofString "ord", none),
  (Str.ofString "chr", none),
  (Str.ofString "len", none),
  (Str.ofString "range", none),
  (Str.ofString "sum", none),
  (Str.ofString "sorted", none),
  (Str.ofString "max", none),
  (Str.ofString "min", none)]
noncomputable def ent (P : Params) (e : List Nat × Nat × Int × Nat) : DictEntry := { hash := PyData.keyHash P ⟨e.1.toArray⟩, key := .str ⟨e.1.toArray⟩ e.2.1, val := .int e.2.2.1 e.2.2.2 }
noncomputable def KP (P : Params) : Frag := [
  (42, ⟨.type "tuple", none, .seq #[.int 14 0, .int 4 0, .int 0 0, .int 1 0, .int 1 0, .int 6 0, .int 1 0, .int 16 0, .int 46 0, .int 1 0] 0, #[]⟩),
  (43, ⟨.type "re.Pattern", none, .fields #[.str ⟨#[40, 63, 109, 41, 94, 92, 46]⟩ 296, .int 40 309, .int 0 0, .none, .none, .ref 42, .int 0 0], #[]⟩),
  (47, ⟨.type "tuple", none, .seq #[.int 14 0, .int 9 0, .int 4 0, .int 1 0, .int 2 0, .int 16 0, .int 10 0, .int 16 0, .int 13 0, .int 0 0, .int 7 0, .int 7 0, .int 16 0, .int 13 0, .int 16 0, .int 10 0, .int 15 0, .int 18 0, .int 5 0, .int 16 0, .int 10 0, .int 15 0, .int 13 0, .int 11 0, .int 16 0, .int 13 0, .int 5 0, .int 5 0, .int 0 0, .int 16 0, .int 10 0, .int 1 0, .int 15 0, .int 2 0, .int 0 0, .int 1 0] 0, #[]⟩),
  (48, ⟨.type "re.Pattern", none, .fields #[.str ⟨#[40, 63, 58, 92, 114, 92, 110, 124, 92, 110, 124, 92, 114, 40, 63, 33, 92, 110, 41, 41]⟩ 312, .int 32 351, .int 0 0, .none, .none, .ref 47, .int 0 0], #[]⟩),
  (56, ⟨.type "dict", none, .dict (([([33], 464, 54, 460), ([33, 61], 466, 28, 408), ([37], 468, 24, 400), ([37, 61], 470, 40, 432), ([38], 472, 19, 390), ([38, 61], 474, 41, 434), ([40], 476, 7, 366), ([41], 478, 8, 368), ([42], 480, 16, 384), ([42, 42], 482, 35, 422), ([42, 42, 61], 484, 46, 444), ([42, 61], 486, 38, 428), ([43], 488, 14, 380), ([43, 61], 490, 36, 424), ([44], 492, 12, 376), ([45], 494, 15, 382), ([45, 61], 496, 37, 426), ([45, 62], 498, 51, 454), ([46], 500, 23, 398), ([46, 46, 46], 502, 52, 456), ([47], 504, 17, 386), ([47, 47], 506, 47, 446), ([47, 47, 61], 508, 48, 448), ([47, 61], 510, 39, 430), ([58], 512, 11, 374), ([58, 61], 514, 53, 458), ([59], 516, 13, 378), ([60], 518, 20, 392), ([60, 60], 520, 33, 418), ([60, 60, 61], 522, 44, 440), ([60, 61], 524, 29, 410), ([61], 526, 22, 396), ([61, 61], 528, 27, 406), ([62], 530, 21, 394), ([62, 61], 532, 30, 412), ([62, 62], 533, 34, 420), ([62, 62, 61], 534, 45, 442), ([64], 535, 49, 450), ([64, 61], 536, 50, 452), ([91], 537, 9, 370), ([93], 538, 10, 372), ([94], 539, 32, 416), ([94, 61], 540, 43, 438), ([123], 541, 25, 402), ([124], 542, 18, 388), ([124, 61], 543, 42, 436), ([125], 544, 26, 404), ([126], 545, 31, 414)] : List (List Nat × Nat × Int × Nat)).map (ent P)).toArray 48, #[]⟩)]
noncomputable def KA : List Addr := [42, 43, 47, 48, 56]
noncomputable def Xt (s : Shared) : Bool := gtab.all fun p => decide (s.heap.nsMap mainGlobals p.1 = p.2)
theorem hd_row0 : ∀ w : World, hdAllF pw VP loose Xt KA (w.withFollow "special-get-raises" false) 2000 = some (openGood VP loose, (KP (w.withFollow "special-get-raises" false).params).map fun p => some p.2) := by
  intro w; kernel_rfl
theorem hd_row1 : ∀ w : World, hdAllF pw VP loose Xt KA (w.withFollow "special-get-raises" true) 2000 = some (openGood VP loose, (KP (w.withFollow "special-get-raises" true).params).map fun p => some p.2) := by
  intro w; kernel_rfl
theorem hd_left : LeftO pw VP loose Xt (fun s => KA.map fun a => s.heap.get? a) (fun w => (KP w.params).map fun p => some p.2) 2000 true := by
  refine LeftO.of_hd ?_
  rw [hdAll_eq]
  exact byRow2 "special-get-raises" (P := fun w => hdAllF pw VP loose Xt KA w 2000 = some (openGood VP loose, (KP w.params).map fun p => some p.2)) hd_row0 hd_row1
end Mine
end
section
open PySem PySem.W PyProof.Rows
namespace Mine
noncomputable def dDef : DefRec := ⟨Str.empty, ⟨[], [], none, [], [], none, []⟩, [], { kind := .function, names := [], isGenerator := false, isCoroutine := false, more := [] }, ⟨0, 0, 0, 0⟩⟩
noncomputable def dOf (p : Program) (n : Str) : DefRec := ((recsOf p).find? fun d => d.name == n).getD dDef
theorem dOf_mem {p : Program} {n : Str} (h : ((recsOf p).find? fun d => d.name == n).isSome = true) : dOf p n ∈ recsOf p := by
  unfold dOf
  cases e : (recsOf p).find? fun d => d.name == n with
  | none => rw [e] at h; cases h
  | some d => exact List.mem_of_find?_eq_some e
/-- the program's ground -/
structure Pg (w : World) (mg mb : Str → Option Value) (h : Heap) : Prop where
  T : ∃ lo mean, Top VP lo mean mg mb h
  K : (KP w.params).In h
  G : ∀ p ∈ gtab, mg p.1 = p.2
theorem mem_lookup : ∀ {l : List (Str × Option Value)} {x : Str} {v : Option Value}, l.lookup x = some v → (x, v) ∈ l
  | (y, u) :: r, x, v, e => by
    rw [List.lookup_cons] at e
    split at e
    · rename_i hb
      cases e
      rw [eq_of_beq hb]; exact List.mem_cons_self
    · exact List.mem_cons_of_mem _ (mem_lookup e)
section
variable {w : World} {mg mb : Str → Option Value} {h : Heap} (pg : Pg w mg mb h)
include pg
theorem Pg.up {h' : Heap} (k : Kp h h') : Pg w mg mb h' := ⟨let ⟨lo, mean, T⟩ := pg.T; ⟨lo, mean, T.keeps k⟩, fun a o e => k _ _ (pg.K a o e), pg.G⟩
theorem Pg.gl : Gl mg mb h := let ⟨lo, mean, T⟩ := pg.T; ⟨T.g, T.b, T.nolimit⟩
theorem Pg.fn {d : DefRec} (hd : d ∈ recsOf VP) : ∃ fa, FnAt h mg d.name d.params d.body d.scope fa :=
  let ⟨lo, mean, T⟩ := pg.T; let ⟨a, o, pm, cd, doc, h1, h2, h3, h4⟩ := T.fn d hd; ⟨a, h1, o, pm, cd, doc, h2, h3, h4⟩
theorem Pg.bl {x : Str} {v : Value} (e : bootBuiltins x = some v) (hx : x ≠ "__name__" := by decide) : mb x = some v := by
  obtain ⟨lo, mean, T⟩ := pg.T
  rw [T.builtins x hx]; exact e
theorem Pg.glob {x : Str} {v : Value} (e : gtab.lookup x = some (some v)) : mg x = some v := pg.G _ (mem_lookup e)
theorem Pg.free {x : Str} (e : gtab.lookup x = some none) : mg x = none := pg.G _ (mem_lookup e)
end
noncomputable abbrev dVar : DefRec := dOf VP "_parse_varint"
theorem mVar : dVar ∈ recsOf VP := dOf_mem (by decide +kernel)
theorem bindVar (v pm cd doc : Value) : bindArgs (Calls.docDef dVar.name dVar.params dVar.body dVar.scope pm cd doc) ⟨[v], []⟩ = pure [(Str.ofString "iterator", v)] := by kernel_rfl
theorem kVar {x : Str} {k : NameKind} (h : dVar.scope.names.lookup x = some k) {s0 : Shared} {env : Env} (fr : Fr1 s0 env dVar.scope) : env.kindOf x = some k := fr.kind x k h

theorem ns_mask {h : Heap} {I a : Addr} {m : Str → Option Value} (hI : ∃ o vs, h.get? I = some o ∧ o.data = .fields vs) (n : h.Ns a m) : (mask h [I]).Ns a m := n.at' fun o e => by
  rw [mask_out _ _ _ (fun hm => ?_)]
  · exact e
  · rcases List.mem_cons.mp hm with rfl | hm
    · obtain ⟨o1, vs, h1, h2⟩ := hI
      obtain ⟨o2, es, ep, h3, h4, _⟩ := n
      rw [h1] at h3; cases h3; rw [h2] at h4; cases h4
    · cases hm
theorem gl_mask {h : Heap} {I : Addr} {mg mb : Str → Option Value} (hI : ∃ o vs, h.get? I = some o ∧ o.data = .fields vs) (g : Gl mg mb h) : Gl mg mb (mask h [I]) :=
  ⟨ns_mask hI g.g, ns_mask hI g.b, let ⟨mc, h1, h2⟩ := g.nolimit; ⟨mc, ns_mask hI h1, h2⟩⟩
theorem mask_kp (h : Heap) (M : List Addr) : Kp (mask h M) h := fun b o e => by
  by_cases hm : b ∈ M
  · rw [mask_in _ _ _ hm] at e; cases e
  · rw [mask_out _ _ _ hm] at e; exact e

section
variable {prog : Program} {w : World} {A : Around} {X : List Addr} {mg mb : Str → Option Value} {s : Shared}

theorem varint1 {I l fa : Addr} {i : Nat} {ns : List Int} {V : Int} {R : List Int} {vs : List Value} {n : Nat} {Q : Value → Shared → Prop} {E : Value → Shared → Prop} (hd : A.depth < recursionLimit) (pg : Pg w mg mb s.heap)
    (F : FnAt s.heap mg dVar.name dVar.params dVar.body dVar.scope fa) (hX : XOk X s.heap) (hi : s.heap.IsListIter I l i) (hl : l ∉ X) (hg : s.heap.get? l = some (LO vs n)) (hr : Rds X s.heap vs (ns.map .int)) (hv : vread (ns.drop i) = some (V, R))
    (hQ : ∀ t s' j, SR s s' → (∀ b o, b ≠ I → s.heap.get? b = some o → s'.heap.get? b = some o) → s'.heap.IsListIter I l j → ns.drop j = R → Q (.int V t) s') :
    wpAny (model prog w) A (call (.ref fa) [.ref I]) Q E s := by
  refine enter_raw (σ := fun y => if y = Str.ofString "iterator" then some (.val (.ref I)) else none) hd hX pg.gl F (bindVar (.ref I)) (fun x hx => ?_) (fun x sl e => ?_) (fun env s1 E' fr st => ?_) (by kernel_rfl) (by kernel_rfl) (by kernel_rfl)
  · simp at hx; subst hx; exact .inl (by kernel_rfl)
  · by_cases hy : x = Str.ofString "iterator"
    · rw [if_pos hy] at e; cases e; subst hy
      refine ⟨(fun _ _ e => nomatch e), (fun _ _ _ _ e => nomatch e), .inl ⟨by kernel_rfl, .ref I, rfl, fun kf hkf => ?_⟩⟩
      have : kf (Str.ofString "iterator") = some .local := (hkf _ List.mem_cons_self).trans (by kernel_rfl)
      simp [bindL, this]
    · rw [if_neg hy] at e; cases e
  · obtain ⟨b0, rest0, hdr⟩ : ∃ b r, ns.drop i = b :: r := by
      cases e : ns.drop i with
      | nil => rw [e] at hv; cases hv
      | cons b r => exact ⟨b, r, rfl⟩
    have hns : ns[i]? = some b0 := by
      have := List.getElem?_drop (xs := ns) (i := i) (j := 0)
      rw [hdr] at this
      simpa using this.symm
    have hrest : ns.drop (i + 1) = rest0 := by
      rw [← List.drop_drop, hdr]; rfl
    have hI : ∃ o vs, s.heap.get? I = some o ∧ o.data = .fields vs := let ⟨o, h1, _, h2⟩ := hi; ⟨o, _, h1, h2⟩
    have kp := mask_kp s.heap [I]
    have hbI : (mask s.heap [I]).get? I = none := mask_in _ _ _ List.mem_cons_self
    have fm : Fm (mask s.heap [I]) env := ⟨fr.fm.eo, by
      cases e : (mask s.heap [I]).get? env.locals with
      | none => rfl
      | some o => rw [← kp _ _ e, fr.fm.nol]⟩
    have g : Gl mg mb (mask s.heap [I]) := gl_mask hI pg.gl
    have st3 := (st.base kp).to_iter (x := Str.ofString "iterator") (ns := ns) rfl (hi.at fun o e => st.kp _ o e) hl (st.kp _ _ hg) (hr.up st.kp) hbI (fun y I l i ns e => by
      by_cases hy : y = Str.ofString "iterator"
      · rw [if_pos hy] at e; cases e
      · rw [if_neg hy] at e; cases e)
    refine st_next fm g st3 rfl (by decide) hns (kVar (by kernel_rfl) fr) (pg.free (by kernel_rfl)) (pg.bl boot_next) (.inl (kVar (by kernel_rfl) fr)) fun s2 q2 => ?_
    refine st_assign fm q2 (.inl (kVar (by kernel_rfl) fr)) (ev_bin (ev_name fm.eo (q2.vd rfl)) ev_int and_ii) fun s3 q3 => ?_
    refine st_while (ι := { x : Nat × Int × Int // vloop (ns.drop x.1) x.2.1 x.2.2 = some (V, R) })
      (fun x y => if y = Str.ofString "iterator" then some (.iter I l x.1.1 ns) else if y = Str.ofString "b" then some (.d (.int x.1.2.1)) else if y = Str.ofString "val" then some (.d (.int x.1.2.2)) else none)
      (fun x => Builtin.bitAnd x.1.2.1 64 != 0) (fun x => (ns.drop x.1.1).length) (i0 := ⟨(i + 1, b0, Builtin.bitAnd b0 63), by rw [hrest]; rw [hdr] at hv; exact hv⟩) (Y := fun _ => X) (q3.weak fun x sl e => ?_) (fun x s4 q4 => ⟨q4.xok, ?_⟩) (fun x s4 E4 hc q4 => ?_) (fun x s4 hc q4 => ?_)
    · split at e
      · subst_vars; cases e; rfl
      · split at e
        · subst_vars; cases e; rfl
        · split at e
          · subst_vars; cases e; rfl
          · cases e
    · exact tr_plain (ev_bin (ev_name fm.eo (q4.vd rfl)) ev_int and_ii) tru_i
    · obtain ⟨⟨k, b, val⟩, hx⟩ := x
      dsimp only at hx hc q4 ⊢
      obtain ⟨c, r, hdr2, hval, hvl⟩ : ∃ c r, ns.drop k = c :: r ∧ val.natAbs < 2 ^ 64 ∧ vloop r c (Builtin.bitOr (val * 2 ^ (6 : Int).toNat) (Builtin.bitAnd c 63)) = some (V, R) := by
        cases e : ns.drop k with
        | nil => rw [e] at hx; unfold vloop at hx; rw [if_pos hc] at hx; cases hx
        | cons c r =>
          rw [e] at hx; unfold vloop at hx; rw [if_pos hc] at hx
          by_cases hv : val.natAbs < 2 ^ 64
          · rw [if_pos hv] at hx; exact ⟨c, r, rfl, hv, hx⟩
          · rw [if_neg hv] at hx; cases hx
      have hns2 : ns[k]? = some c := by
        have := List.getElem?_drop (xs := ns) (i := k) (j := 0)
        rw [hdr2] at this
        simpa using this.symm
      have hrest2 : ns.drop (k + 1) = r := by
        rw [← List.drop_drop, hdr2]; rfl
      refine st_aug fm q4 (.inl (kVar (by kernel_rfl) fr)) rfl ev_int (ishl_ii (by decide) (by decide) hval) fun s5 q5 => ?_
      refine st_next fm g q5 rfl (by decide) hns2 (kVar (by kernel_rfl) fr) (pg.free (by kernel_rfl)) (pg.bl boot_next) (.inl (kVar (by kernel_rfl) fr)) fun s6 q6 => ?_
      refine st_aug fm q6 (.inl (kVar (by kernel_rfl) fr)) rfl (ev_bin (ev_name fm.eo (q6.vd rfl)) ev_int and_ii) ior_ii fun s7 q7 => st_end ?_
      refine ⟨⟨(k + 1, c, Builtin.bitOr (val * 2 ^ (6 : Int).toNat) (Builtin.bitAnd c 63)), by rw [hrest2]; exact hvl⟩, ?_, q7.weak fun x sl e => ?_⟩
      · show (ns.drop (k + 1)).length < (ns.drop k).length
        rw [hrest2, hdr2]; exact Nat.lt_succ_self _
      · split at e
        · subst_vars; cases e; rfl
        · split at e
          · subst_vars; cases e; rfl
          · split at e
            · subst_vars; cases e; rfl
            · cases e
    · obtain ⟨⟨k, b, val⟩, hx⟩ := x
      dsimp only at hx hc q4 ⊢
      have he : val = V ∧ ns.drop k = R := by
        cases e : ns.drop k with
        | nil => rw [e] at hx; unfold vloop at hx; rw [if_neg (by rw [hc]; exact Bool.false_ne_true)] at hx; cases hx; exact ⟨rfl, rfl⟩
        | cons c r => rw [e] at hx; unfold vloop at hx; rw [if_neg (by rw [hc]; exact Bool.false_ne_true)] at hx; cases hx; exact ⟨rfl, rfl⟩
      refine st_ret q4 (ev_name fm.eo (q4.vd rfl)) fun v s5 k5 r5 => ?_
      obtain ⟨t, rfl⟩ := r5
      have q5 := q4.up k5
      obtain ⟨v, _, _, hit, _⟩ := q5.var (Str.ofString "iterator") _ rfl
      refine ⟨_, rfl, ?_⟩
      rw [he.1]
      refine hQ t s5 k q5.rest (fun b o hb e => q5.kp b o ?_) hit he.2
      rw [mask_out _ _ _ (by simpa using hb)]
      exact e

end
noncomputable abbrev dQuo : DefRec := dOf VP "quotedata"
theorem mQuo : dQuo ∈ recsOf VP := dOf_mem (by decide +kernel)
theorem bindQuo (v pm cd doc : Value) : bindArgs (Calls.docDef dQuo.name dQuo.params dQuo.body dQuo.scope pm cd doc) ⟨[v], []⟩ = pure [(Str.ofString "data", v)] := by kernel_rfl
noncomputable abbrev dEof : DefRec := dOf VP "ISEOF"
theorem mEof : dEof ∈ recsOf VP := dOf_mem (by decide +kernel)
theorem bindEof (v pm cd doc : Value) : bindArgs (Calls.docDef dEof.name dEof.params dEof.body dEof.scope pm cd doc) ⟨[v], []⟩ = pure [(Str.ofString "x", v)] := by kernel_rfl
noncomputable abbrev dNon : DefRec := dOf VP "ISNONTERMINAL"
theorem mNon : dNon ∈ recsOf VP := dOf_mem (by decide +kernel)
theorem bindNon (v pm cd doc : Value) : bindArgs (Calls.docDef dNon.name dNon.params dNon.body dNon.scope pm cd doc) ⟨[v], []⟩ = pure [(Str.ofString "x", v)] := by kernel_rfl
theorem crlf_str : gtab.lookup (Str.ofString "CRLF") = some (some (.str ⟨#[13, 10]⟩ 353)) := by kernel_rfl
section
variable {prog : Program} {w : World} {A : Around} {X : List Addr} {mg mb : Str → Option Value} {s : Shared} {h : Heap} {vs : List Value} {fa : Addr}

theorem quo {x : Str} (hd : A.depth < recursionLimit) (pg : Pg w mg mb h) (F : FnAt h mg dQuo.name dQuo.params dQuo.body dQuo.scope fa) (hz : x.cps.size ≤ 10000) (r : Rds X h vs [.str x]) :
    Gv prog w A h X (call (.ref fa) vs) (.str ⟨(quoted x.cps.toList).toArray⟩) := by
  refine enter1 hd pg.gl F r bindQuo (.inl (by kernel_rfl)) (fun env s0 s1 E' k fr q => ?_) (by kernel_rfl) (by kernel_rfl) (by kernel_rfl)
  have pg1 := (pg.up k).up q.kp
  have eo := fr.fm.eo
  have hl := crlf_len x.cps.toList
  have hxl : x.cps.toList.length = x.cps.size := Array.length_toList
  refine st_ret q (ev_dots eo (fr.kind _ _ (by kernel_rfl)) pg1.gl (pg1.glob (by kernel_rfl)) (pat_of (a := 43) pg1.K (by kernel_rfl)) ev_str (ev_crlf (x := x) eo (fr.kind _ _ (by kernel_rfl)) pg1.gl (pg1.glob (by kernel_rfl)) (pat_of (a := 48) pg1.K (by kernel_rfl)) (ev_glob eo (fr.kind _ _ (by kernel_rfl)) pg1.gl (pg1.glob crlf_str) ⟨_, rfl⟩) (ev_name eo (q.vd rfl)) (by omega)) (by show (crlf _).toArray.size ≤ _; rw [List.size_toArray]; omega)) fun v s2 k2 r2 => ⟨v, rfl, r2, (q.rest.kps q.kp).tr k2⟩
theorem eof {i : Int} (hd : A.depth < recursionLimit) (pg : Pg w mg mb h) (F : FnAt h mg dEof.name dEof.params dEof.body dEof.scope fa) (r : Rds X h vs [.int i]) :
    Gv prog w A h X (call (.ref fa) vs) (.bool (decide (i = 0))) := by
  refine enter1 hd pg.gl F r bindEof (.inl (by kernel_rfl)) (fun env s0 s1 E' k fr q => ?_) (by kernel_rfl) (by kernel_rfl) (by kernel_rfl)
  have pg1 := (pg.up k).up q.kp
  have eo := fr.fm.eo
  exact st_ret q (ev_cmp (ev_name eo (q.vd rfl)) (ev_glob (d := .int 0) eo (fr.kind _ _ (by kernel_rfl)) pg1.gl (pg1.glob (v := .int 0 364) (by kernel_rfl)) ⟨_, rfl⟩) eq_ii) fun v s2 k2 r2 => ⟨v, rfl, r2, (q.rest.kps q.kp).tr k2⟩
theorem non {i : Int} (hd : A.depth < recursionLimit) (pg : Pg w mg mb h) (F : FnAt h mg dNon.name dNon.params dNon.body dNon.scope fa) (r : Rds X h vs [.int i]) :
    Gv prog w A h X (call (.ref fa) vs) (.bool (decide (i ≥ 256))) := by
  refine enter1 hd pg.gl F r bindNon (.inl (by kernel_rfl)) (fun env s0 s1 E' k fr q => ?_) (by kernel_rfl) (by kernel_rfl) (by kernel_rfl)
  have pg1 := (pg.up k).up q.kp
  have eo := fr.fm.eo
  exact st_ret q (ev_cmp (ev_name eo (q.vd rfl)) (ev_glob (d := .int 256) eo (fr.kind _ _ (by kernel_rfl)) pg1.gl (pg1.glob (v := .int 256 462) (by kernel_rfl)) ⟨_, rfl⟩) ge_ii) fun v s2 k2 r2 => ⟨v, rfl, r2, (q.rest.kps q.kp).tr k2⟩
end
noncomputable abbrev dTol : DefRec := dOf VP "_law_told"
theorem mTol : dTol ∈ recsOf VP := dOf_mem (by decide +kernel)
theorem bindTol (v pm cd doc : Value) : bindArgs (Calls.docDef dTol.name dTol.params dTol.body dTol.scope pm cd doc) ⟨[v], []⟩ = pure [(Str.ofString "mail", v)] := by kernel_rfl
section
variable {prog : Program} {w : World} {A : Around} {X : List Addr} {mg mb : Str → Option Value} {s : Shared} {h : Heap} {vs : List Value} {fa : Addr}
noncomputable def dPos : Pos := ⟨0, 0, 0, 0⟩
noncomputable def toldN (x : Str) : List Int := x.cps.toList.map (fun (c : Nat) => (c : Int)) ++ [0]
noncomputable def toldTail (b : List Stmt) : List Stmt := match b.getD 5 (.Pass dPos) with
  | .While _ body _ _ => body.drop 1
  | _ => []
noncomputable def toldL (I l a : Addr) (ns : List Int) (x : Nat × Nat × Int × List Int × Int × Int × List D) : List (Str × Sl) :=
  [(Str.ofString "tape", .iter I l x.2.1 ns), (Str.ofString "rows", .own a x.2.2.2.2.2.2), (Str.ofString "dots", .d (.int x.2.2.2.2.1)), (Str.ofString "name", .d (.int x.2.2.2.2.2.1)), (Str.ofString "number", .d (.int x.2.2.1))]
theorem told {x : Str} {ds : List D} (hd : A.depth + 2 < recursionLimit) (hA : A.handled = none) (pg : Pg w mg mb h) (F : FnAt h mg dTol.name dTol.params dTol.body dTol.scope fa) (hz : x.cps.size ≤ 10000) (ht : tell x.cps.toList = some ds) (r : Rds X h vs [.str x]) :
    Gv prog w A h X (call (.ref fa) vs) (.lst ds) := by
  obtain ⟨x0, hx0⟩ : ∃ x0, x0 = x := ⟨x, rfl⟩
  refine enter1 (by omega) pg.gl F r bindTol (.inl (by kernel_rfl)) (fun env s0 s1 E' k fr q => ?_) (by kernel_rfl) (by kernel_rfl) (by kernel_rfl)
  have pg1 := (pg.up k).up q.kp
  have fm := fr.fm
  have eo := fr.fm.eo
  have hsl : sizeLine = 16777216 := by decide
  have hdep : (A.deeper env).depth + 1 < recursionLimit := hd
  obtain ⟨V0, R0, hv0, ht0⟩ : ∃ V R, vread ((toldN x0).drop 0) = some (V, R) ∧ tellGo (x.cps.toList.length + 2) V R 0 0 [] = some ds := by
    subst hx0
    unfold tell at ht
    split at ht
    · cases ht
    · exact ⟨_, _, by assumption, ht⟩
  refine st_iter (ns := toldN x0) fm (pg.up k).gl q (fr.kind _ _ (by kernel_rfl)) (pg1.free (by kernel_rfl)) (pg1.bl boot_iter) (.inl (fr.kind _ _ (by kernel_rfl))) ?_ (fun y I l i ns e => ?_) fun s2 I l q2 => ?_
  · rw [hx0]
    refine ev_bin (d1 := .lst ((x.cps.toList.map fun (c : Nat) => D.str ⟨#[c]⟩).map fun d => match d with | .str y => .int ((y.cps.toList.headD 0 : Nat) : Int) | _ => .none)) (d2 := .lst [.int 0]) (ev_compn (fun d => match d with | .str y => .int ((y.cps.toList.headD 0 : Nat) : Int) | _ => .none) [] hA eo (fun n d e => nomatch e) (gi_str (ev_name eo (q.vd rfl))) (by rw [List.length_map]; have : x.cps.toList.length = x.cps.size := Array.length_toList; omega) (.inl (by kernel_rfl)) rfl (fun cenv h' X' d hd eo' kn kp hx _ => ?_) (fc (by rfl)) (ff (by rfl))) (ev_list (gs_cons ev_int gs_nil) (by decide)) ?_
    · obtain ⟨c, _, rfl⟩ := List.mem_map.mp hd
      exact ev_bf eo' (kn.gl rfl) (pg1.gl.up kp) (pg1.free (by kernel_rfl)) (pg1.bl boot_ord) (gs_cons (ev_name eo' hx) gs_nil) ord_c
    · have e2 : toldN x = (x.cps.toList.map (fun (c : Nat) => (c : Int))) ++ [0] := rfl
      rw [e2, List.map_append, List.map_map, List.map_map]
      refine add_ll ?_
      rw [List.length_map]
      have : x.cps.toList.length = x.cps.size := Array.length_toList
      show x.cps.toList.length + 1 ≤ _
      omega
  · unfold args1 at e; split at e <;> cases e
  · refine st_own fm q2 (.inl (fr.kind _ _ (by kernel_rfl))) fun a s3 ha hba q3 => ?_
    refine st_assign fm q3 (.inl (fr.kind _ _ (by kernel_rfl))) ev_int fun s4 q4 => ?_
    refine st_assign fm q4 (.inl (fr.kind _ _ (by kernel_rfl))) ev_int fun s5 q5 => ?_
    obtain ⟨fv, FV⟩ := (pg.up k).fn mVar
    obtain ⟨oV, pmV, cdV, docV, hoV, hdV, _⟩ := FV.obj
    refine st_read (R := R0) (V := V0) fm (pg.up k).gl q5 rfl (fr.kind _ _ (by kernel_rfl)) FV.glob hoV hdV (.inl (fr.kind _ _ (by kernel_rfl))) (fun s vs n Q E hk hX hit hl hg hr hQ => varint1 (by omega) ((pg.up k).up hk) (FV.up hk) hX hit hl hg hr hv0 hQ) fun s6 j6 hj6 q6 => ?_
    refine st_while (ι := { x : Nat × Nat × Int × List Int × Int × Int × List D // tellGo x.1 x.2.2.1 x.2.2.2.1 x.2.2.2.2.1 x.2.2.2.2.2.1 x.2.2.2.2.2.2 = some ds ∧ (toldN x0).drop x.2.1 = x.2.2.2.1 ∧ x.2.2.2.2.2.2.length + x.1 ≤ 20000 })
      (fun z => sgl (toldL I l a _ z.1)) (fun z => !decide (z.1.2.2.1 = 0)) (fun z => z.1.1) (i0 := ⟨(x.cps.toList.length + 2, j6, V0, R0, 0, 0, []), ht0, hj6, by have : x.cps.toList.length = x.cps.size := Array.length_toList; show 0 + (x.cps.toList.length + 2) ≤ _; omega⟩) (Y := fun _ => a :: X) (q6.toL _ ⟨rfl, rfl, rfl, rfl, rfl, trivial⟩) (fun z s7 q7 => ⟨q7.xok, ?_⟩) (fun z s7 E7 hc q7 => ?_) (fun z s7 hc q7 => ?_)
    · have pg7 := (pg.up k).up q7.kp
      obtain ⟨fe, FE⟩ := pg7.fn mEof
      obtain ⟨oE, pmE, cdE, docE, hoE, hdE, _⟩ := FE.obj
      exact tr_not (tr_plain (ev_fn eo (fr.kind _ _ (by kernel_rfl)) pg7.gl FE.glob hoE hdE (gs_cons (ev_name eo (q7.vd rfl)) gs_nil) (fun h' vs kp r => eof (by omega) (pg7.up kp) (FE.up kp) r)) tru_b)
    · obtain ⟨⟨f, j, V, R, dots, name, acc⟩, hgo, hj, hlen⟩ := z
      dsimp only at hgo hj hlen hc q7 ⊢
      have hV : V ≠ 0 := by simpa using hc
      obtain ⟨f', V', R', rfl, hv', hgo'⟩ : ∃ f' V' R', f = f' + 1 ∧ vread R = some (V', R') ∧ (if 256 ≤ V then tellGo f' V' R' dots V acc else if V = 46 then tellGo f' V' R' (dots + 1) name acc else tellGo f' V' R' 0 name (acc ++ [.tup [.int dots, .int name]])) = some ds := by
        cases f with
        | zero => cases hgo
        | succ f =>
          unfold tellGo at hgo
          rw [if_neg hV] at hgo
          cases hr : vread R with
          | none => rw [hr] at hgo; cases hgo
          | some p => obtain ⟨V', R'⟩ := p; rw [hr] at hgo; exact ⟨f, V', R', rfl, rfl, hgo⟩
      have pg7 := (pg.up k).up q7.kp
      obtain ⟨fn, FN⟩ := pg7.fn mNon
      obtain ⟨oN, pmN, cdN, docN, hoN, hdN, _⟩ := FN.obj
      have step : ∀ (dots name : Int) (acc : List D) (s8 : Shared), tellGo f' V' R' dots name acc = some ds → acc.length + f' ≤ 20000 → St s0 s0.heap env (a :: X) (sgl (toldL I l a (toldN x0) (f' + 1, j, V, R, dots, name, acc))) s8 → wpAny (model prog w) (A.deeper env) (execs (toldTail dTol.body) env)
          (fun fl s2 => match fl with | .next | .cont => ∃ z : { x : Nat × Nat × Int × List Int × Int × Int × List D // tellGo x.1 x.2.2.1 x.2.2.2.1 x.2.2.2.2.1 x.2.2.2.2.2.1 x.2.2.2.2.2.2 = some ds ∧ (toldN x0).drop x.2.1 = x.2.2.2.1 ∧ x.2.2.2.2.2.2.length + x.1 ≤ 20000 }, z.1.1 < f' + 1 ∧ St s0 s0.heap env (a :: X) (sgl (toldL I l a (toldN x0) z.1)) s2 | _ => False) E7 s8 := by
        intro dots name acc s8 hg8 hl8 q8
        refine st_read (R := R') (V := V') fm (pg.up k).gl q8 rfl (fr.kind _ _ (by kernel_rfl)) FV.glob hoV hdV (.inl (fr.kind _ _ (by kernel_rfl))) (fun s vs n Q E hk hX hit hl hg hr hQ => varint1 (by omega) ((pg.up k).up hk) (FV.up hk) hX hit hl hg hr (by rw [hj]; exact hv') hQ) fun s9 j9 hj9 q9 => ?_
        exact st_end ⟨⟨(f', j9, V', R', dots, name, acc), hg8, hj9, hl8⟩, Nat.lt_succ_self _, q9.toL _ ⟨rfl, rfl, rfl, rfl, rfl, trivial⟩⟩
      refine st_if q7 q7.xok (tr_plain (ev_fn eo (fr.kind _ _ (by kernel_rfl)) pg7.gl FN.glob hoN hdN (gs_cons (ev_name eo (q7.vd rfl)) gs_nil) (fun h' vs kp r => non (by omega) (pg7.up kp) (FN.up kp) r)) tru_b) (fun hb s8 q8 => ?_) (fun hb s8 q8 => ?_)
      · rw [if_pos (by simpa using hb)] at hgo'
        refine st_assign fm q8 (.inl (fr.kind _ _ (by kernel_rfl))) (ev_name eo (q8.vd rfl)) fun s9 q9 => st_end ?_
        exact step dots V acc s9 hgo' (by omega) (q9.toL _ ⟨rfl, rfl, rfl, rfl, rfl, trivial⟩)
      · rw [if_neg (by simpa using hb)] at hgo'
        refine st_if q8 q8.xok (tr_cmp (ev_name eo (q8.vd rfl)) ev_int eq_ii) (fun hb2 s9 q9 => ?_) (fun hb2 s9 q9 => ?_)
        · rw [if_pos (by simpa using hb2)] at hgo'
          refine st_aug fm q9 (.inl (fr.kind _ _ (by kernel_rfl))) rfl ev_int iadd_ii fun s10 q10 => st_end (st_end ?_)
          exact step (dots + 1) name acc s10 hgo' (by omega) (q10.toL _ ⟨rfl, rfl, rfl, rfl, rfl, trivial⟩)
        · rw [if_neg (by simpa using hb2)] at hgo'
          refine st_append fm q9 rfl (ev_tuple (gs_cons (ev_name eo (q9.vd rfl)) (gs_cons (ev_name eo (q9.vd rfl)) gs_nil)) (by rw [hsl]; exact Nat.le_of_ble_eq_true rfl)) (by show acc.length ≤ _; omega) fun s10 q10 => ?_
          refine st_assign fm q10 (.inl (fr.kind _ _ (by kernel_rfl))) ev_int fun s11 q11 => st_end (st_end ?_)
          exact step 0 name (acc ++ [.tup [.int dots, .int name]]) s11 hgo' (by rw [List.length_append, List.length_singleton]; omega) (q11.toL _ ⟨rfl, rfl, rfl, rfl, rfl, trivial⟩)
    · obtain ⟨⟨f, j, V, R, dots, name, acc⟩, hgo, hj, hlen⟩ := z
      dsimp only at hgo hj hlen hc q7 ⊢
      have hV : V = 0 := by simpa using hc
      have hacc : acc = ds := by
        cases f with
        | zero => cases hgo
        | succ f => unfold tellGo at hgo; rw [if_pos hV] at hgo; cases hgo; rfl
      have q8 := q7.disown (x := Str.ofString "rows") (X' := X) rfl (fun b hb => List.mem_cons_of_mem _ hb) ha (fun y b es hy e => by
        have := sgl_mem e
        simp [toldL] at this
        exact absurd this.1 hy)
      rw [hacc] at q8
      exact st_ret q8 (ev_name eo (q8.vd rfl)) fun v s9 k9 r9 => ⟨v, rfl, r9, (q8.rest.kps q8.kp).tr k9⟩
end
end Mine
end
section
open PySem PySem.W PyProof.Rows PySem.SeqAt
namespace Mine
section
variable {prog : Program} {w : World} {A : Around} {env : Env} {X : List Addr} {mg mb : Str → Option Value} {s : Shared} {h : Heap}
/-- a call of a def of the text -/
theorem ev_def {d : DefRec} {f : Str} {np pos : Pos} {e : Expr} {rest : List Expr} {ds : List D} {r : D} (pg : Pg w mg mb h) (hd : d ∈ recsOf VP) (hf : d.name = f) (eo : EnvOk env) (hx : env.kindOf f = some .globalImplicit)
    (ha : Gs prog w A h X (spliced (backTo pos (starEach (e :: rest) env))) ds)
    (hc : ∀ h' vs fa, Pg w mg mb h' → FnAt h' mg d.name d.params d.body d.scope fa → Rds X h' vs ds → Gv prog w A h' X (call (.ref fa) vs) r)
    (hs : starEach (e :: rest) env = (false, eval e env) :: starEach rest env := by rfl) (hdb : (f == ("__debug__" : Str)) = false := by decide) :
    Gv prog w A h X (eval (.Call (.Name f np) (e :: rest) [] pos) env) r := by
  obtain ⟨fa, F⟩ := pg.fn hd
  obtain ⟨o, pm, cd, doc, ho, hdt, _⟩ := F.obj
  exact ev_fn eo hx pg.gl (hf ▸ F.glob) ho hdt ha (fun h' vs kp r => hc h' vs fa (pg.up kp) (F.up kp) r) hs hdb
end
theorem ints_get {ns : List Int} {k : Nat} (h : k < ns.length) : (ns.map D.int)[k]? = some (.int (ns.getD k 0)) := by
  rw [List.getElem?_map, List.getD_eq_getElem?_getD, List.getElem?_eq_getElem h]; rfl
theorem fv_nil {env : Env} {h : Heap} {X : List Addr} : ∀ n d, ([] : List (Str × D)).lookup n = some d → Var env h X n d ∧ env.kindOf n ≠ some .local := fun n d e => by cases e
theorem szc {a b : Nat} : [a].length + [b].length ≤ sizeLine := by show 2 ≤ sizeLine; decide
theorem sz3 {a b c : D} : [a, b, c].length ≤ sizeLine := by show 3 ≤ sizeLine; decide
/-- two free names -/
theorem fv_two {env : Env} {h : Heap} {X : List Addr} {y z : Str} {d0 d1 : D} (v : Var env h X y d0) (hk : env.kindOf y ≠ some .local) (v2 : Var env h X z d1) (hk2 : env.kindOf z ≠ some .local) : ∀ n d, [(y, d0), (z, d1)].lookup n = some d → Var env h X n d ∧ env.kindOf n ≠ some .local := fun n d e => by
  rw [List.lookup_cons] at e
  split at e
  · rename_i hb
    cases e
    rw [eq_of_beq hb]; exact ⟨v, hk⟩
  · exact fv_one v2 hk2 n d e
theorem pow3 {k : Nat} (h : k < 5) : ((3 : Int) ^ ((k : Int)).toNat).natAbs < 1073741824 ∧ (3 : Int) ^ ((k : Int)).toNat ≠ 0 := by
  have : ∀ k : Fin 5, ((3 : Int) ^ k.val).natAbs < 1073741824 ∧ (3 : Int) ^ k.val ≠ 0 := by decide +kernel
  exact this ⟨k, h⟩
theorem fig_get {prog : Program} {w : World} {A : Around} {X : List Addr} (v : Int) (k : Nat) : GetD prog w A X (.lst ([(0 : Int), 1, 31].map D.int)) (.int ((v.fdiv (3 ^ ((k : Int)).toNat)).fmod 3)) (.int (figOf v k)) := by
  have h1 := Int.fmod_nonneg_of_pos (v.fdiv (3 ^ ((k : Int)).toNat)) (b := 3) (by decide)
  have h2 := Int.fmod_lt_of_pos (v.fdiv (3 ^ ((k : Int)).toNat)) (b := 3) (by decide)
  refine get_li h1 (by omega) ?_
  rw [List.getElem?_map]
  exact congrArg (Option.map D.int) (figOf_get v k)
theorem KN.nl {scope : Scope} {cenv : Env} (kn : KN scope cenv) {n : Str} {k : NameKind} (h : scope.names.lookup n = some k) (hk : k ≠ .local) : cenv.kindOf n ≠ some .local := by
  rcases kn n _ h with e | ⟨_, e⟩
  · rw [e]; intro h; exact hk (Option.some.inj h)
  · rw [e]; intro h; cases h
noncomputable abbrev dCur : DefRec := dOf VP "_law_curves"
theorem mCur : dCur ∈ recsOf VP := dOf_mem (by decide +kernel)
theorem bindCur (v pm cd doc : Value) : bindArgs (Calls.docDef dCur.name dCur.params dCur.body dCur.scope pm cd doc) ⟨[v], []⟩ = pure [(Str.ofString "script", v)] := by kernel_rfl
/-- a curve, as a datum -/
noncomputable def cvD (f : List Int) : D := .lst (f.map .int)
section
variable {prog : Program} {w : World} {A : Around} {X : List Addr} {mg mb : Str → Option Value} {s : Shared} {h : Heap} {vs : List Value} {fa : Addr}
theorem cur {script : List Int} (ao : AOk A 3) (pg : Pg w mg mb h) (F : FnAt h mg dCur.name dCur.params dCur.body dCur.scope fa) (hz : script.length ≤ 63) (r : Rds X h vs [.lst (script.map .int)]) :
    Gv prog w A h X (call (.ref fa) vs) (.lst ((curvesOf (numsOf1 script)).map cvD)) := by
  refine enter1 ao.d pg.gl F r bindCur (.inl (by kernel_rfl)) (fun env s0 s1 E' kp fr q => ?_) (by kernel_rfl) (by kernel_rfl) (by kernel_rfl)
  have eo := fr.fm.eo
  have hsl := sizeLine_val
  have ao1 : AOk (A.deeper env) 2 := ao.deeper
  have hcl := cut_len (script.map D.int) none (some ((6 : Nat) : Int))
  have hcm : (script.map D.int).length = script.length := List.length_map ..
  refine st_assign (d := .lst (((script.take 6).map (fun x => x.fmod 1000000)).map .int)) fr.fm q (fr.sto _ (.inr (by kernel_rfl))) (Gv.cast (ev_compn (x := Str.ofString "x") (items := cut (script.map D.int) none (some ((6 : Nat) : Int))) (fun d => .int ((iOf d).fmod (10 ^ (6 : Int).toNat))) [] ao1.hA eo fv_nil (gi_list (ev_slice (ev_name eo (q.vd rfl)) gp_none (gp_some ev_int) (by omega))) (by omega) (.inl (by kernel_rfl)) rfl (fun cenv h' X' d hd eo' kn kp' hx hfv => ?_) (fc (by rfl)) (ff (by rfl))) ?_) (fun s2 q2 => ?_) (sw_cell (fr.kind _ _ (by kernel_rfl)))
  · obtain ⟨x, rfl⟩ : ∃ x, d = .int x := by
      rw [cut_take, ← List.map_take] at hd
      obtain ⟨x, _, rfl⟩ := List.mem_map.mp hd
      exact ⟨x, rfl⟩
    exact ev_bin (ev_name eo' hx) (ev_bin ev_int ev_int (pow_ii (by decide) (by decide) (by decide))) (mod_ii (by decide))
  · rw [cut_take, ← List.map_take, List.map_map, List.map_map]
    rfl
  generalize hnums : numsOf1 script = nums
  have hnl : nums.length = 6 := by rw [← hnums]; exact numsOf1_len script
  have hno : ∀ x ∈ nums, 0 ≤ x ∧ x < 1000000 := by rw [← hnums]; exact numsOf1_ok script
  have hni : (nums.map D.int).length = 6 := by rw [List.length_map]; exact hnl
  have pg2 := (pg.up kp).up q2.kp
  refine st_assign (d := .lst (nums.map .int)) fr.fm q2 (fr.sto _ (.inr (by kernel_rfl))) (Gv.cast (ev_bin (ev_name eo (q2.vd rfl)) (ev_slice (ds := [1, 6, 57, 12, 19, 3].map D.int) (ev_list (gs_cons ev_int (gs_cons ev_int (gs_cons ev_int (gs_cons ev_int (gs_cons ev_int (gs_cons ev_int gs_nil)))))) (by rw [hsl]; decide)) (gp_some (ev_bf eo (fr.kind _ _ (by kernel_rfl)) pg2.gl (pg2.free (by kernel_rfl)) (pg2.bl boot_len) (gs_cons (ev_name eo (q2.vd rfl)) gs_nil) (len_l (by simp <;> omega)))) gp_none (by rw [hsl]; decide)) (add_ll ?_)) ?_) fun s3 q3 => ?_
  · have h1 := cut_len ([1, 6, 57, 12, 19, 3].map D.int) (some ((((script.take 6).map (fun x => x.fmod 1000000)).map D.int).length : Int)) none
    simp only [List.length_map, List.length_cons, List.length_nil, List.length_take] at h1 ⊢
    omega
  · rw [cut_drop, ← hnums, numsOf1, List.map_append, List.length_map, List.length_map, ← List.map_drop]
  have pg3 := (pg.up kp).up q3.kp
  refine st_ret (d := .lst ((curvesOf nums).map cvD)) q3 (Gv.cast (ev_compn (x := Str.ofString "p") (fun d => cvD (curveOf nums (iOf d).toNat)) [(Str.ofString "row", .lst (nums.map .int))] ao1.hA eo (fv_one (q3.vd rfl) (kc (fr.kind _ _ (by kernel_rfl)))) (gi_range1 eo (fr.kind _ _ (by kernel_rfl)) pg3.gl (pg3.free (by kernel_rfl)) (pg3.bl boot_range) ev_int (by decide) (by decide)) (by rw [hsl]; decide) (.inr (by kernel_rfl)) rfl (fun cenv h' X' d hd eo' kn kp' hx hfv => ?_) (fc (by rfl)) (ff (by rfl))) ?_) fun v s4 k4 r4 => ⟨v, rfl, r4, (q3.rest.kps q3.kp).tr k4⟩
  · obtain ⟨p, hp, rfl⟩ := List.mem_map.mp hd
    have hp : p < 6 := List.mem_range.mp hp
    have pg4 := pg3.up kp'
    have hcr : cenv.kindOf (Str.ofString "range") = some .globalImplicit := kn.gl (by kernel_rfl)
    refine Gv.cast (ev_bin (ev_compn (x := Str.ofString "k") (fun d => .int (figOf (nums.getD p 0) (iOf d).toNat)) [(Str.ofString "row", .lst (nums.map .int)), (Str.ofString "p", .int (p : Nat))] ao1.hA eo' (fv_two (hfv _ _ rfl) (kn.nl (k := .free) (by kernel_rfl) (by decide)) hx (kn.nl (k := .cell) (by kernel_rfl) (by decide))) (gi_range1 eo' hcr pg4.gl (pg4.free (by kernel_rfl)) (pg4.bl boot_range) ev_int (by decide) (by decide)) (by rw [hsl]; decide) (.inl (by kernel_rfl)) rfl (fun cenv2 h2 X2 d2 hd2 eo2 kn2 kp2 hx2 hfv2 => ?_) (fc (by rfl)) (ff (by rfl))) (ev_list (gs_cons (ev_name eo' hx) gs_nil) sz1) (add_ll (by rw [List.length_map, List.length_map, List.length_range, hsl]; exact Nat.le_of_ble_eq_true rfl))) ?_
    · obtain ⟨k, hk, rfl⟩ := List.mem_map.mp hd2
      have hk : k < 5 := List.mem_range.mp hk
      have h3 := pow3 hk
      exact ev_item (d1 := .lst ([(0 : Int), 1, 31].map D.int)) (ev_list (gs_cons ev_int (gs_cons ev_int (gs_cons ev_int gs_nil))) sz3) (ev_bin (ev_bin (ev_item (ev_name eo2 (hfv2 _ _ rfl)) (ev_name eo2 (hfv2 _ _ rfl)) (get_li (by omega) (by omega) (ints_get (by rw [Int.toNat_natCast]; omega)))) (ev_bin ev_int (ev_name eo2 hx2) (pow_ii (by omega) (by omega) (by decide))) (div_ii h3.2 (PyProof.noPylong_small h3.1))) ev_int (mod_ii (by decide))) (fig_get (nums.getD p 0) k)
    · show D.lst (_ ++ [D.int p]) = D.lst ((curveOf nums p).map D.int)
      rw [curveOf, List.map_append, List.map_map, List.map_map]; rfl
  · rw [List.map_map, curvesOf, List.map_map]; rfl
end
noncomputable abbrev dHei : DefRec := dOf VP "_law_height"
theorem mHei : dHei ∈ recsOf VP := dOf_mem (by decide +kernel)
theorem bindHei (v pm cd doc : Value) : bindArgs (Calls.docDef dHei.name dHei.params dHei.body dHei.scope pm cd doc) ⟨[v], []⟩ = pure [(Str.ofString "figures", v)] := by kernel_rfl
section
variable {prog : Program} {w : World} {A : Around} {X : List Addr} {mg mb : Str → Option Value} {s : Shared} {h : Heap} {vs : List Value} {fa : Addr}
theorem hei {a b c d e f : Int} (ao : AOk A 2) (pg : Pg w mg mb h) (F : FnAt h mg dHei.name dHei.params dHei.body dHei.scope fa) (ha : 0 ≤ a ∧ a < 32) (hb : 0 ≤ b ∧ b < 32) (hc : 0 ≤ c ∧ c < 32) (hd : 0 ≤ d ∧ d < 32) (he : 0 ≤ e ∧ e < 32) (hf : 0 ≤ f ∧ f < 32)
    (r : Rds X h vs [.lst ([a, b, c, d, e, f].map .int)]) : Gv prog w A h X (call (.ref fa) vs) (.int (hor a b c d e f)) := by
  refine enter1 ao.d pg.gl F r bindHei (.inl (by kernel_rfl)) (fun env s0 s1 E' kp fr q => ?_) (by kernel_rfl) (by kernel_rfl) (by kernel_rfl)
  have eo := fr.fm.eo
  have hsl := sizeLine_val
  have ao1 : AOk (A.deeper env) 1 := ao.deeper
  have pg1 := (pg.up kp).up q.kp
  have sz6 : ([a, b, c, d, e, f].map D.int).length ≤ sizeLine := by rw [hsl]; exact Nat.le_of_ble_eq_true rfl
  have e1 : cut ([a, b, c, d, e, f].map D.int) none (some (-1)) = [a, b, c, d, e].map D.int := rfl
  have e2 : cut ([a, b, c, d, e, f].map D.int) (some (-1)) none = [f].map D.int := rfl
  obtain ⟨fv, FV⟩ := pg1.fn mVar
  obtain ⟨oV, pmV, cdV, docV, hoV, hdV, _⟩ := FV.obj
  refine st_ret (d := .int (hor a b c d e f)) q (ev_viter (ns := [64 + a, 64 + b, 64 + c, 64 + d, 64 + e, f]) (R := []) eo pg1.gl (fr.kind _ _ (by kernel_rfl)) FV.glob hoV hdV (fr.kind _ _ (by kernel_rfl)) (pg1.free (by kernel_rfl)) (pg1.bl boot_iter) (Gv.cast (ev_bin (ev_compn (x := Str.ofString "one") (items := cut ([a, b, c, d, e, f].map D.int) none (some (-1))) (fun d => .int (64 + iOf d)) [] ao1.hA eo fv_nil (gi_list (ev_slice (ev_name eo (q.vd rfl)) gp_none (gp_some (ev_un ev_int neg_i)) sz6)) (by rw [e1, hsl]; exact Nat.le_of_ble_eq_true rfl) (.inl (by kernel_rfl)) rfl (fun cenv h' X' d hd eo' kn kp' hx hfv => ?_) (fc (by rfl)) (ff (by rfl))) (ev_slice (ev_name eo (q.vd rfl)) (gp_some (ev_un ev_int neg_i)) gp_none sz6) (add_ll ?_)) ?_) (fun s I l vs n Q E hk hX hit hl hg hr hQ => varint1 (V := hor a b c d e f) (R := []) ao1.d (pg1.up hk) (FV.up hk) hX hit hl hg hr (vread_six ha hb hc hd he hf) hQ)) fun v s4 k4 r4 => ⟨v, rfl, r4, (q.rest.kps q.kp).tr k4⟩
  · rw [e1] at hd
    obtain ⟨x, _, rfl⟩ := List.mem_map.mp hd
    exact ev_bin ev_int (ev_name eo' hx) add_ii
  · rw [e1, e2, hsl]; exact Nat.le_of_ble_eq_true rfl
  · rw [e1, e2]; rfl
end
noncomputable abbrev dPar : DefRec := dOf VP "_law_part"
theorem mPar : dPar ∈ recsOf VP := dOf_mem (by decide +kernel)
theorem bindPar (v u pm cd doc : Value) : bindArgs (Calls.docDef dPar.name dPar.params dPar.body dPar.scope pm cd doc) ⟨[v, u], []⟩ = pure [(Str.ofString "one", v), (Str.ofString "other", u)] := by kernel_rfl
theorem filt_ints (p : Nat → Bool) : ∀ l : List Nat, ((l.map fun i => D.int (i : Nat)).filter fun d => p (iOf d).toNat).map (fun d => d) = (l.filter p).map fun k => D.int (k : Nat)
  | [] => rfl
  | i :: l => by
    rw [List.map_cons, List.filter_cons, List.filter_cons]
    have ih := filt_ints p l
    by_cases h : p i = true
    · rw [if_pos (show p (iOf (D.int (i : Nat))).toNat = true from h), if_pos h, List.map_cons, List.map_cons, ih]
    · rw [if_neg (show ¬ p (iOf (D.int (i : Nat))).toNat = true from h), if_neg h, ih]
section
variable {prog : Program} {w : World} {A : Around} {X : List Addr} {mg mb : Str → Option Value} {s : Shared} {h : Heap} {vs : List Value} {fa : Addr}
theorem cv_get {f : List Int} (o : Cv f) {k : Nat} (hk : k < 6) : GetD prog w A X (cvD f) (.int k) (.int (at6 f k)) :=
  get_li (by omega) (by omega) (by rw [Int.toNat_natCast]; exact ints_get (by rw [o.len]; exact hk))
theorem par {f g : List Int} {m : Nat} (ao : AOk A 2) (pg : Pg w mg mb h) (F : FnAt h mg dPar.name dPar.params dPar.body dPar.scope fa) (hf : Cv f) (hg : Cv g) (hd : Dif m f g)
    (r : Rds X h vs [cvD f, cvD g]) : Gv prog w A h X (call (.ref fa) vs) (.int m) := by
  refine enter2 ao.d pg.gl F r bindPar (by decide) (.inr (by kernel_rfl)) (.inr (by kernel_rfl)) (fun env s0 s1 E' kp fr q => ?_) (by kernel_rfl) (by kernel_rfl) (by kernel_rfl)
  have eo := fr.fm.eo
  have hsl := sizeLine_val
  have ao1 : AOk (A.deeper env) 1 := ao.deeper
  have pg1 := (pg.up kp).up q.kp
  have hp := dif_part hd
  refine st_ret (d := .int m) q (ev_item (d1 := .lst (((List.range 6).filter fun k => at6 f k != at6 g k).map fun k => D.int (k : Nat))) (Gv.cast (ev_comp1 (x := Str.ofString "k") (items := (List.range 6).map fun i => D.int (i : Nat)) (fun d => at6 f (iOf d).toNat != at6 g (iOf d).toNat) (fun d => d) [(Str.ofString "one", cvD f), (Str.ofString "other", cvD g)] ao1.hA eo (fv_two (q.vd rfl) (kc (fr.kind _ _ (by kernel_rfl))) (q.vd rfl) (kc (fr.kind _ _ (by kernel_rfl)))) (gi_range1 eo (fr.kind _ _ (by kernel_rfl)) pg1.gl (pg1.free (by kernel_rfl)) (pg1.bl boot_range) ev_int (by decide) (by decide)) (by rw [hsl]; decide) (.inl (by kernel_rfl)) rfl (fun cenv h' X' d hd eo' kn kp' hx hfv => ?_) (fun cenv h' X' d hd _ eo' kn kp' hx hfv => ev_name eo' hx) (fc (by rfl)) (ff (by rfl))) (congrArg D.lst (filt_ints (fun k => at6 f k != at6 g k) (List.range 6)))) ev_int (get_li (by decide) (by decide) ?_)) fun v s4 k4 r4 => ⟨v, rfl, r4, (q.rest.kps q.kp).tr k4⟩
  · obtain ⟨k, hk, rfl⟩ := List.mem_map.mp hd
    have hk : k < 6 := List.mem_range.mp hk
    exact gt_one (tr_cmp (ev_item (ev_name eo' (hfv _ _ rfl)) (ev_name eo' hx) (cv_get hf hk)) (ev_item (ev_name eo' (hfv _ _ rfl)) (ev_name eo' hx) (cv_get hg hk)) ne_ii)
  · show ((((List.range 6).filter fun k => at6 f k != at6 g k).map fun k => D.int (k : Nat)))[0]? = _
    rw [List.getElem?_map, hp]; rfl
end
end Mine
end
section
open PySem PySem.W PyProof.Rows PySem.SeqAt
namespace Mine
noncomputable def itD (B : Nat → Nat) (i : Nat) : D := pairD ((B i : Int), [97 + i])
theorem best_max {key : Nat → Nat} {bt : Nat → Nat → Bool} (hb : ∀ i j, bt i j = decide (key j < key i)) : ∀ k i, i ≤ k → key i ≤ key (argBest bt k)
  | 0, i, h => by rw [Nat.le_zero.mp h]; exact Nat.le_refl _
  | k + 1, i, h => by
    rw [argBest, hb]
    have ih := best_max hb k
    by_cases q : key (argBest bt k) < key (k + 1)
    · rw [if_pos (decide_eq_true q)]
      rcases Nat.lt_or_ge k i with h1 | h1
      · rw [show i = k + 1 by omega]; exact Nat.le_refl _
      · have := ih i h1; omega
    · rw [if_neg (by rw [decide_eq_true_eq]; exact q)]
      rcases Nat.lt_or_ge k i with h1 | h1
      · rw [show i = k + 1 by omega]; omega
      · exact ih i h1
theorem best_min {key : Nat → Nat} {bt : Nat → Nat → Bool} (hb : ∀ i j, bt i j = decide (key i < key j)) : ∀ k i, i ≤ k → key (argBest bt k) ≤ key i
  | 0, i, h => by rw [Nat.le_zero.mp h]; exact Nat.le_refl _
  | k + 1, i, h => by
    rw [argBest, hb]
    have ih := best_min hb k
    by_cases q : key (k + 1) < key (argBest bt k)
    · rw [if_pos (decide_eq_true q)]
      rcases Nat.lt_or_ge k i with h1 | h1
      · rw [show i = k + 1 by omega]; exact Nat.le_refl _
      · have := ih i h1; omega
    · rw [if_neg (by rw [decide_eq_true_eq]; exact q)]
      rcases Nat.lt_or_ge k i with h1 | h1
      · rw [show i = k + 1 by omega]; omega
      · exact ih i h1
theorem pw_ne {B : Nat → Nat} : ∀ {is : List Nat}, is.Pairwise (fun a b => B a ≠ B b) → ∀ (i j a b : Nat), j < i → is[i]? = some a → is[j]? = some b → B a ≠ B b := fun {is} hp i j a b hij ha hb => by
  obtain ⟨hi, rfl⟩ := List.getElem?_eq_some_iff.mp ha
  obtain ⟨hj, rfl⟩ := List.getElem?_eq_some_iff.mp hb
  exact fun e => List.pairwise_iff_getElem.mp hp j i hj hi hij e.symm
section
variable {prog : Program} {w : World} {A : Around} {X : List Addr}
theorem max_is {B : Nat → Nat} {is : List Nat} (hp : is.Pairwise fun a b => B a ≠ B b) (hne : 0 < is.length) : ∃ a ∈ is, (∀ b ∈ is, B b ≤ B a) ∧ ∀ {prog : Program} {w : World} {A : Around} {X : List Addr} (h' : Heap) (vs : List Value), A.handled = none → A.in1.units < cLine → Rds X h' vs [.lst (is.map (itD B))] → Gv prog w A h' X (call (.builtin "max") vs) (itD B a) := by
  let bt : Nat → Nat → Bool := fun i j => decide (B (is.getD j 0) < B (is.getD i 0))
  have hk := argBest_le bt (is.length - 1)
  have hlt : argBest bt (is.length - 1) < is.length := by omega
  have best := best_max (key := fun i => B (is.getD i 0)) (bt := bt) (fun _ _ => rfl) (is.length - 1)
  have hget : is[argBest bt (is.length - 1)]? = some is[argBest bt (is.length - 1)] := List.getElem?_eq_getElem hlt
  have hgd : is.getD (argBest bt (is.length - 1)) 0 = is[argBest bt (is.length - 1)] := by rw [List.getD_eq_getElem?_getD, hget]; rfl
  refine ⟨is[argBest bt (is.length - 1)], List.getElem_mem hlt, fun b hb => ?_, fun {prog w A X} h' vs hA hu r => ?_⟩
  · obtain ⟨i, hi, rfl⟩ := List.mem_iff_getElem.mp hb
    have := best i (by omega)
    rw [hgd, List.getD_eq_getElem?_getD, List.getElem?_eq_getElem hi] at this
    exact this
  · intro hX s Q E hk' hQ
    obtain ⟨v, rfl, r1⟩ := (r.up hk').one
    refine max_data (items := is.map (itD B)) hA bt (d0 := itD B is[argBest bt (is.length - 1)]) (by rw [List.length_map, List.getElem?_map, hget]; rfl) (by rw [List.length_map]; exact hne) (fun i j di dj vi vj s2 Q2 E2 hij hi hj ri rj hq => ?_) r1 fun v s' k rv => hQ v s' k rv
    rw [List.getElem?_map] at hi hj
    obtain ⟨a, ha, rfl⟩ := Option.map_eq_some_iff.mp hi
    obtain ⟨b, hb, rfl⟩ := Option.map_eq_some_iff.mp hj
    refine rcomp_prs_gt (a := (B a : Int)) (c := (B b : Int)) hu (fun e => pw_ne hp i j a b hij ha hb (by omega)) ri rj ?_
    have e : bt i j = decide ((B b : Int) < (B a : Int)) := by
      show decide (B (is.getD j 0) < B (is.getD i 0)) = _
      rw [List.getD_eq_getElem?_getD, List.getD_eq_getElem?_getD, ha, hb]
      exact decide_eq_decide.mpr (by show B b < B a ↔ _; omega)
    rw [← e]; exact hq
theorem min_is {B : Nat → Nat} {is : List Nat} (hp : is.Pairwise fun a b => B a ≠ B b) (hne : 0 < is.length) : ∃ a ∈ is, (∀ b ∈ is, B a ≤ B b) ∧ ∀ {prog : Program} {w : World} {A : Around} {X : List Addr} (h' : Heap) (vs : List Value), A.handled = none → A.in1.units < cLine → Rds X h' vs [.lst (is.map (itD B))] → Gv prog w A h' X (call (.builtin "min") vs) (itD B a) := by
  let bt : Nat → Nat → Bool := fun i j => decide (B (is.getD i 0) < B (is.getD j 0))
  have hk := argBest_le bt (is.length - 1)
  have hlt : argBest bt (is.length - 1) < is.length := by omega
  have best := best_min (key := fun i => B (is.getD i 0)) (bt := bt) (fun _ _ => rfl) (is.length - 1)
  have hget : is[argBest bt (is.length - 1)]? = some is[argBest bt (is.length - 1)] := List.getElem?_eq_getElem hlt
  have hgd : is.getD (argBest bt (is.length - 1)) 0 = is[argBest bt (is.length - 1)] := by rw [List.getD_eq_getElem?_getD, hget]; rfl
  refine ⟨is[argBest bt (is.length - 1)], List.getElem_mem hlt, fun b hb => ?_, fun {prog w A X} h' vs hA hu r => ?_⟩
  · obtain ⟨i, hi, rfl⟩ := List.mem_iff_getElem.mp hb
    have := best i (by omega)
    rw [hgd, List.getD_eq_getElem?_getD, List.getElem?_eq_getElem hi] at this
    exact this
  · intro hX s Q E hk' hQ
    obtain ⟨v, rfl, r1⟩ := (r.up hk').one
    refine min_data (items := is.map (itD B)) hA bt (d0 := itD B is[argBest bt (is.length - 1)]) (by rw [List.length_map, List.getElem?_map, hget]; rfl) (by rw [List.length_map]; exact hne) (fun i j di dj vi vj s2 Q2 E2 hij hi hj ri rj hq => ?_) r1 fun v s' k rv => hQ v s' k rv
    rw [List.getElem?_map] at hi hj
    obtain ⟨a, ha, rfl⟩ := Option.map_eq_some_iff.mp hi
    obtain ⟨b, hb, rfl⟩ := Option.map_eq_some_iff.mp hj
    refine rcomp_prs_lt (a := (B a : Int)) (c := (B b : Int)) hu (fun e => pw_ne hp i j a b hij ha hb (by omega)) ri rj ?_
    have e : bt i j = decide ((B a : Int) < (B b : Int)) := by
      show decide (B (is.getD i 0) < B (is.getD j 0)) = _
      rw [List.getD_eq_getElem?_getD, List.getD_eq_getElem?_getD, ha, hb]
      exact decide_eq_decide.mpr (by show B a < B b ↔ _; omega)
    rw [← e]; exact hq
end
theorem lt_all {B : Nat → Nat} {x y : List Nat} {a b : Nat} (ha : a ∈ x) (hma : ∀ c ∈ x, B c ≤ B a) (hb : b ∈ y) (hmb : ∀ c ∈ y, B b ≤ B c) : decide ((B a : Int) < (B b : Int)) = allLt B x y := by
  by_cases q : B a < B b
  · rw [decide_eq_true (by omega), allLt_iff.mpr]
    intro c hc d hd
    have := hma c hc
    have := hmb d hd
    omega
  · rw [decide_eq_false (by omega)]
    cases e : allLt B x y with
    | false => rfl
    | true => exact absurd (allLt_iff.mp e a ha b hb) q
theorem cut_first {B : Nat → Nat} {is : List Nat} {k : Nat} (h1 : 1 ≤ k) (h2 : k < is.length) (hc : isCut B is k = true) (hb : ∀ j, 1 ≤ j → j < k → isCut B is j = false) : cutF B is = some k := by
  unfold cutF
  rw [List.find?_range'_eq_some]
  exact ⟨hc, by rw [List.mem_range'_1]; omega, fun j hj1 hj2 => by rw [hb j hj1 hj2]; rfl⟩
noncomputable abbrev dSpl : DefRec := dOf VP "_law_spelled"
theorem mSpl : dSpl ∈ recsOf VP := dOf_mem (by decide +kernel)
theorem bindSpl (v pm cd doc : Value) : bindArgs (Calls.docDef dSpl.name dSpl.params dSpl.body dSpl.scope pm cd doc) ⟨[v], []⟩ = pure [(Str.ofString "row", v)] := by kernel_rfl
theorem spl_len {B : Nat → Nat} {t : Tr} {n : Nat} (h : t.sep B) (hl : t.ls.length = n) (hn : n ≤ 6) : t.wr.length ≤ 24 := by
  have := wr_ln h
  omega
theorem spl : ∀ (f : Nat) {B : Nat → Nat} {is : List Nat} {prog : Program} {w : World} {A : Around} {X : List Addr} {mg mb : Str → Option Value} {h : Heap} {vs : List Value} {fa : Addr} (ao : AOk A (f + 1)) (pg : Pg w mg mb h) (F : FnAt h mg dSpl.name dSpl.params dSpl.body dSpl.scope fa)
    (g : Good B is) (hp : is.Pairwise fun a b => B a ≠ B b) (h1 : 1 ≤ is.length) (hf : is.length ≤ f) (h6 : is.length ≤ 6) (r : Rds X h vs [.lst (is.map (itD B))]), Gv prog w A h X (call (.ref fa) vs) (.str (so (spell B f is).wr))
  | 0, B, is, prog, w, A, X, mg, mb, h, vs, fa, ao, pg, F, g, hp, h1, hf, h6, r => by omega
  | f + 1, B, is, prog, w, A, X, mg, mb, h, vs, fa, ao, pg, F, g, hp, h1, hf, h6, r => by
    refine enter1 ao.d pg.gl F r bindSpl (.inl (by kernel_rfl)) (fun env s0 s1 E' kp fr q => ?_) (by kernel_rfl) (by kernel_rfl) (by kernel_rfl)
    have eo := fr.fm.eo
    have hsl := sizeLine_val
    have ao1 : AOk (A.deeper env) (f + 1) := ao.deeper
    have pg1 := (pg.up kp).up q.kp
    have hml : (is.map (itD B)).length = is.length := List.length_map ..
    refine st_if q q.xok (tr_cmp (ev_bf eo (fr.kind _ _ (by kernel_rfl)) pg1.gl (pg1.free (by kernel_rfl)) (pg1.bl boot_len) (gs_cons (ev_name eo (q.vd rfl)) gs_nil) (len_l (by omega))) ev_int eq_ii) (fun hb s3 q3 => ?_) (fun hb s3 q3 => ?_)
    · have hb : is.length = 1 := by rw [hml] at hb; have := eq_of_beq hb; omega
      match is, hb with
      | [i], _ => exact st_ret (d := .str (so [97 + i])) q3 (ev_item (ev_item (ev_name eo (q3.vd rfl)) ev_int (get_li (by decide) (by decide) rfl)) ev_int (get_ti (by decide) (by decide) rfl)) fun v s2 k2 r2 => ⟨v, rfl, r2, (q3.rest.kps q3.kp).tr k2⟩
    · have hb : is.length ≠ 1 := fun e => by rw [hml, e] at hb; exact absurd hb (by decide)
      refine st_end ?_
      have pg3 := (pg.up kp).up q3.kp
      obtain ⟨kc0, hkc, kc1, kc2, hcut⟩ := cut_found g (by omega)
      refine st_forP (fun i => ∀ j, 1 ≤ j → j < i + 1 → isCut B is j = false) (fun j h1 h2 => by omega) (items := (List.range (((is.map (itD B)).length : Int) - 1).toNat).map fun i => D.int (1 + (i : Nat))) (τ := fun i => sgl [(Str.ofString "row", .d (.lst (is.map (itD B))))]) (τ1 := fun i d => upd (sgl [(Str.ofString "row", .d (.lst (is.map (itD B))))]) (Str.ofString "k") (.d d)) (O := []) (Rt := fun d => d = .str (so (spell B (f + 1) is).wr))
        ao.hA fr.fm (q3.toL _ ⟨rfl, trivial⟩) (fun i => sgl_own trivial) (fun _ h => nomatch h) (fun i => sgl_ni rfl) (gi_range2 eo (fr.kind _ _ (by kernel_rfl)) pg3.gl (pg3.free (by kernel_rfl)) (pg3.bl boot_range) ev_int (ev_bf eo (fr.kind _ _ (by kernel_rfl)) pg3.gl (pg3.free (by kernel_rfl)) (pg3.bl boot_len) (gs_cons (ev_name eo (q3.vd rfl)) gs_nil) (len_l (by omega))) (by omega) (by omega) (by omega) (by omega))
        (fun hb' i d v s I E'' R hd q r hI => asg_name R.fm (R.sto _ (.inl (fr.kind _ _ (by kernel_rfl)))) q r) (fun hb' i d s5 E'' hP R hd q5 => ?_) (fun s6 hP q6 => ?_) (fun v d s' e r1 k1 r2 => ?_)
      · have hi : i + 1 < is.length := by
          have := (List.getElem?_eq_some_iff.mp hd).1
          rw [List.length_map, List.length_range, hml] at this; omega
        obtain rfl : d = .int ((i + 1 : Nat) : Int) := by
          rw [List.getElem?_map, List.getElem?_range (by rw [hml]; omega)] at hd
          refine (Option.some.inj hd).symm.trans (congrArg D.int ?_)
          show (1 : Int) + (i : Nat) = ((i + 1 : Nat) : Int)
          omega
        clear hd
        have pg5 := (pg.up kp).up (R.kp.trans q5.kp)
        have lt1 : (is.take (i + 1)).length = i + 1 := by rw [List.length_take]; omega
        have lt2 : (is.drop (i + 1)).length = is.length - (i + 1) := List.length_drop ..
        have g' : Good B (is.take (i + 1) ++ is.drop (i + 1)) := by rw [List.take_append_drop]; exact g
        have p1 : (is.take (i + 1)).Pairwise fun a b => B a ≠ B b := List.Pairwise.sublist (List.take_sublist ..) hp
        have p2 : (is.drop (i + 1)).Pairwise fun a b => B a ≠ B b := List.Pairwise.sublist (List.drop_sublist ..) hp
        have p12 : ∀ a ∈ is.take (i + 1), ∀ b ∈ is.drop (i + 1), B a ≠ B b := (List.pairwise_append.mp (by rw [List.take_append_drop]; exact hp : (is.take (i + 1) ++ is.drop (i + 1)).Pairwise fun a b => B a ≠ B b)).2.2
        obtain ⟨a, ha, hma, va⟩ := max_is p1 (by omega)
        obtain ⟨b, hbm, hmb, vb⟩ := min_is p2 (by omega)
        obtain ⟨a', ha', hma', va'⟩ := min_is p1 (by omega)
        obtain ⟨b', hbm', hmb', vb'⟩ := max_is p2 (by omega)
        have hd1 : ∀ {sx : Shared} {σ' : Sg}, St s0 hb' env X σ' sx → σ' (Str.ofString "row") = some (.d (.lst (is.map (itD B)))) → σ' (Str.ofString "k") = some (.d (.int ((i + 1 : Nat) : Int))) → ∀ p1 p2 p3 p4, Gv prog w (A.deeper env) sx.heap X (eval (.Subscript (.Name (Str.ofString "row") p1) (.Slice none (some (.Name (Str.ofString "k") p2)) none p3) p4) env) (.lst ((is.take (i + 1)).map (itD B))) := fun qx e1 e2 p1 p2 p3 p4 =>
          Gv.cast (ev_slice (ev_name eo (qx.vd e1)) gp_none (gp_some (ev_name eo (qx.vd e2))) (by omega)) (by rw [cut_take, List.map_take])
        have hd2 : ∀ {sx : Shared} {σ' : Sg}, St s0 hb' env X σ' sx → σ' (Str.ofString "row") = some (.d (.lst (is.map (itD B)))) → σ' (Str.ofString "k") = some (.d (.int ((i + 1 : Nat) : Int))) → ∀ p1 p2 p3 p4, Gv prog w (A.deeper env) sx.heap X (eval (.Subscript (.Name (Str.ofString "row") p1) (.Slice (some (.Name (Str.ofString "k") p2)) none none p3) p4) env) (.lst ((is.drop (i + 1)).map (itD B))) := fun qx e1 e2 p1 p2 p3 p4 =>
          Gv.cast (ev_slice (ev_name eo (qx.vd e1)) (gp_some (ev_name eo (qx.vd e2))) gp_none (by omega)) (by rw [cut_drop, List.map_drop])
        have hin : (A.deeper env).in1.units < cLine := ao1.c (k := 1) (by decide)
        have hun : (A.deeper env).units < cLine := ao1.c (k := 0) (by decide)
        have sL := spell_ok f (is.take (i + 1)) g'.left (by omega) (by omega)
        have sR := spell_ok f (is.drop (i + 1)) g'.right (by omega) (by omega)
        have zL := spl_len sL.2 (congrArg List.length sL.1) (by omega)
        have zR := spl_len sR.2 (congrArg List.length sR.1) (by omega)
        have iL := fun h' vs fa pg' F' r' => spl f (B := B) (is := is.take (i + 1)) (prog := prog) (w := w) (A := A.deeper env) (X := X) (mg := mg) (mb := mb) (h := h') (vs := vs) (fa := fa) ao1 pg' F' g'.left p1 (by omega) (by omega) (by omega) r'
        have iR := fun h' vs fa pg' F' r' => spl f (B := B) (is := is.drop (i + 1)) (prog := prog) (w := w) (A := A.deeper env) (X := X) (mg := mg) (mb := mb) (h := h') (vs := vs) (fa := fa) ao1 pg' F' g'.right p2 (by omega) (by omega) (by omega) r'
        refine st_if (c := allLt B (is.take (i + 1)) (is.drop (i + 1))) q5 q5.xok (Gb.cast (tr_cmp (ev_bf eo (fr.kind _ _ (by kernel_rfl)) pg5.gl (pg5.free (by kernel_rfl)) (pg5.bl boot_max) (gs_cons (hd1 q5 rfl rfl _ _ _ _) gs_nil) (fun h' vs r' => va h' vs ao1.hA hin r')) (ev_bf eo (fr.kind _ _ (by kernel_rfl)) pg5.gl (pg5.free (by kernel_rfl)) (pg5.bl boot_min) (gs_cons (hd2 q5 rfl rfl _ _ _ _) gs_nil) (fun h' vs r' => vb h' vs ao1.hA hin r')) (lt_prs (a := (B a : Int)) (c := (B b : Int)) hun (fun e => p12 a ha b hbm (by omega)))) (lt_all ha hma hbm hmb)) (fun hc s7 q7 => ?_) (fun hc s7 q7 => ?_)
        · have hcf := cut_first (k := i + 1) (by omega) hi (by unfold isCut; rw [hc]; rfl) (fun j h1 h2 => hP j h1 (by omega))
          have e : (spell B (f + 1) is).wr = [40] ++ (spell B f (is.take (i + 1))).wr ++ [43] ++ (spell B f (is.drop (i + 1))).wr ++ [41] := by
            rw [spell, if_neg hb, hcf]
            dsimp only
            rw [if_pos hc]; rfl
          have pg7 := (pg.up kp).up (R.kp.trans q7.kp)
          refine st_ret (d := .str (so (spell B (f + 1) is).wr)) q7 (Gv.cast (ev_bin (ev_bin (ev_bin (ev_bin (ev_so (l := [40]) (by kernel_rfl)) (ev_def pg7 mSpl (by kernel_rfl) eo (fr.kind _ _ (by kernel_rfl)) (gs_cons (hd1 q7 rfl rfl _ _ _ _) gs_nil) iL) (add_so ?_)) (ev_so (l := [43]) (by kernel_rfl)) (add_so ?_)) (ev_def pg7 mSpl (by kernel_rfl) eo (fr.kind _ _ (by kernel_rfl)) (gs_cons (hd2 q7 rfl rfl _ _ _ _) gs_nil) iR) (add_so ?_)) (ev_so (l := [41]) (by kernel_rfl)) (add_so ?_)) (by rw [e])) fun v s2 k2 r2 => ⟨_, rfl, r2, q7.kp.trans k2.kp, q7.rest.up k2⟩
          all_goals (simp only [List.length_append, List.length_cons, List.length_nil]; omega)
        · refine st_end ?_
          refine st_if (c := allLt B (is.drop (i + 1)) (is.take (i + 1))) q7 q7.xok (Gb.cast (tr_cmp (ev_bf eo (fr.kind _ _ (by kernel_rfl)) ((pg.up kp).up (R.kp.trans q7.kp)).gl (pg5.free (by kernel_rfl)) (pg5.bl boot_min) (gs_cons (hd1 q7 rfl rfl _ _ _ _) gs_nil) (fun h' vs r' => va' h' vs ao1.hA hin r')) (ev_bf eo (fr.kind _ _ (by kernel_rfl)) ((pg.up kp).up (R.kp.trans q7.kp)).gl (pg5.free (by kernel_rfl)) (pg5.bl boot_max) (gs_cons (hd2 q7 rfl rfl _ _ _ _) gs_nil) (fun h' vs r' => vb' h' vs ao1.hA hin r')) (gt_prs (a := (B a' : Int)) (c := (B b' : Int)) hun (fun e => p12 a' ha' b' hbm' (by omega)))) (lt_all hbm' hmb' ha' hma')) (fun hc2 s8 q8 => ?_) (fun hc2 s8 q8 => ?_)
          · have hcf := cut_first (k := i + 1) (by omega) hi (by unfold isCut; rw [hc2, Bool.or_true]) (fun j h1 h2 => hP j h1 (by omega))
            have e : (spell B (f + 1) is).wr = [40] ++ (spell B f (is.take (i + 1))).wr ++ [45] ++ (spell B f (is.drop (i + 1))).wr ++ [41] := by
              rw [spell, if_neg hb, hcf]
              dsimp only
              rw [if_neg (by rw [hc]; exact Bool.false_ne_true)]; rfl
            have pg8 := (pg.up kp).up (R.kp.trans q8.kp)
            refine st_ret (d := .str (so (spell B (f + 1) is).wr)) q8 (Gv.cast (ev_bin (ev_bin (ev_bin (ev_bin (ev_so (l := [40]) (by kernel_rfl)) (ev_def pg8 mSpl (by kernel_rfl) eo (fr.kind _ _ (by kernel_rfl)) (gs_cons (hd1 q8 rfl rfl _ _ _ _) gs_nil) iL) (add_so ?_)) (ev_so (l := [45]) (by kernel_rfl)) (add_so ?_)) (ev_def pg8 mSpl (by kernel_rfl) eo (fr.kind _ _ (by kernel_rfl)) (gs_cons (hd2 q8 rfl rfl _ _ _ _) gs_nil) iR) (add_so ?_)) (ev_so (l := [41]) (by kernel_rfl)) (add_so ?_)) (by rw [e])) fun v s2 k2 r2 => ⟨_, rfl, r2, q8.kp.trans k2.kp, q8.rest.up k2⟩
            all_goals (simp only [List.length_append, List.length_cons, List.length_nil]; omega)
          · refine st_end (st_end ⟨q8.toL _ ⟨rfl, trivial⟩, fun j h1 h2 => ?_⟩)
            rcases Nat.lt_or_ge j (i + 1) with h | h
            · exact hP j h1 h
            · rw [show j = i + 1 by omega]
              unfold isCut
              rw [hc, hc2]; rfl
      · exfalso
        rw [List.length_map, List.length_range, hml] at hP
        have := hP kc0 kc1 (by omega)
        rw [hcut] at this; cases this
      · subst e
        exact ⟨v, rfl, r1, r2.kps k1⟩
end Mine
end
section
open PySem PySem.W PyProof.Rows PySem.SeqAt
namespace Mine
/-- the table of the tokens -/
noncomputable def ettO (P : Params) : Obj := ((KP P).lookup 56).getD { cls := .type "dict", data := .dict #[] }
noncomputable def ettE (P : Params) : Array DictEntry := match (ettO P).data with
  | .dict es _ => es
  | _ => #[]
theorem ett_lit (P : Params) : KeysLit P (ettE P).toList := by
  unfold ettE ettO
  have h : ∀ (l : List (List Nat × Nat × Int × Nat)), KeysLit P (l.map (ent P)) := fun l => by
    induction l with
    | nil => exact trivial
    | cons e l ih => exact ⟨⟨_, _, rfl, rfl⟩, ih⟩
  exact h _
section
variable {prog : Program} {w : World} {A : Around} {X : List Addr} {mg mb : Str → Option Value} {s : Shared} {h : Heap} {vs : List Value} {fa : Addr} {env : Env}
theorem ett (pg : Pg w mg mb h) : h.MapOf (strKind prog w) 56 (fun k => findBy Value.isStrOf (ettE w.params) k) := mapOf_K (es := ettE w.params) (n := 48) pg.K (by kernel_rfl) (ett_lit _)
theorem ett40 (P : Params) : findBy Value.isStrOf (ettE P) ⟨#[40]⟩ = some (.int 7 366) := by kernel_rfl
theorem ett41 (P : Params) : findBy Value.isStrOf (ettE P) ⟨#[41]⟩ = some (.int 8 368) := by kernel_rfl
theorem ett43 (P : Params) : findBy Value.isStrOf (ettE P) ⟨#[43]⟩ = some (.int 14 380) := by kernel_rfl
theorem ett45 (P : Params) : findBy Value.isStrOf (ettE P) ⟨#[45]⟩ = some (.int 15 382) := by kernel_rfl
theorem ett_abc (P : Params) {j : Nat} (h : j < 6) : findBy Value.isStrOf (ettE P) ⟨#[97 + j]⟩ = none := by
  match j, h with
  | 0, _ => kernel_rfl
  | 1, _ => kernel_rfl
  | 2, _ => kernel_rfl
  | 3, _ => kernel_rfl
  | 4, _ => kernel_rfl
  | 5, _ => kernel_rfl
end
noncomputable def symB (c : Nat) : Int := if c = 40 then 7 else if c = 41 then 8 else if c = 43 then 14 else if c = 45 then 15 else 256
theorem ett_sym (P : Params) {Z : List En} {c : Nat} (ok : okB Z c) : (∃ t, findBy Value.isStrOf (ettE P) ⟨#[c]⟩ = some (.int (symB c) t)) ∨ (findBy Value.isStrOf (ettE P) ⟨#[c]⟩ = none ∧ symB c = 256) := by
  rcases ok with rfl | rfl | rfl | ⟨i, hi, rfl⟩ | ⟨rfl, _⟩
  · exact .inl ⟨_, ett40 P⟩
  · exact .inl ⟨_, ett43 P⟩
  · exact .inl ⟨_, ett45 P⟩
  · refine .inr ⟨ett_abc P hi, ?_⟩
    unfold symB
    rw [if_neg (by omega), if_neg (by omega), if_neg (by omega), if_neg (by omega)]
  · exact .inl ⟨_, ett41 P⟩
noncomputable def enD (cs : List (List Int)) : En → D
  | .s z => .int z
  | .t t => .tup [.int t.ls.length, .str (so (mailOf (t.rows (rw6 cs))))]
noncomputable def mails (cs : List (List Int)) : D := .lst ((List.range 6).map fun i => .str (so (rw6 cs i).cps))
noncomputable abbrev dBui : DefRec := dOf VP "_law_built"
theorem mBui : dBui ∈ recsOf VP := dOf_mem (by decide +kernel)
theorem bindBui (v u pm cd doc : Value) : bindArgs (Calls.docDef dBui.name dBui.params dBui.body dBui.scope pm cd doc) ⟨[v, u], []⟩ = pure [(Str.ofString "writing", v), (Str.ofString "mails", u)] := by kernel_rfl
noncomputable def buiL (a : Addr) (cs : List (List Int)) (P : List En) : List (Str × Sl) :=
  [(Str.ofString "pile", .own a (P.reverse.map (enD cs))), (Str.ofString "mails", .d (mails cs))]
noncomputable def buiM (a : Addr) (cs : List (List Int)) (P : List En) (bl al mk : Int) (la fi : List Nat) : List (Str × Sl) :=
  [(Str.ofString "pile", .own a (P.reverse.map (enD cs))), (Str.ofString "mails", .d (mails cs)), (Str.ofString "behind", .d (.int bl)), (Str.ofString "last", .d (.str (so la))), (Str.ofString "mark", .d (.int mk)), (Str.ofString "ahead", .d (.int al)), (Str.ofString "first", .d (.str (so fi)))]
theorem quoted_up {rs : List Rw} {n : Nat} (s : Sml n rs) (j : Nat) : quoted (mailOf (rs.map (upN j))) = mailOf (rs.map (upN (j + 1))) := by
  rw [quoted_mail (s.up j).ok, List.map_map]; rfl
theorem up0 (rs : List Rw) : rs.map (upN 0) = rs := by
  rw [show upN 0 = id from rfl, List.map_id]
section
variable {prog : Program} {w : World} {A : Around} {X : List Addr} {mg mb : Str → Option Value} {s : Shared} {h : Heap} {vs : List Value} {fa : Addr}
theorem bui {cs : List (List Int)} {wr : List Nat} {t : Tr} (ao : AOk A 2) (pg : Pg w mg mb h) (F : FnAt h mg dBui.name dBui.params dBui.body dBui.scope fa) (h5 : Six5 cs) (hrun : RunB [] wr [.t t]) (hz : wr.length ≤ 1000) (r : Rds X h vs [.str (so wr), mails cs]) :
    Gv prog w A h X (call (.ref fa) vs) (.str (so (mailOf (t.rows (rw6 cs))))) := by
  refine enter2 ao.d pg.gl F r bindBui (by decide) (.inl (by kernel_rfl)) (.inl (by kernel_rfl)) (fun env s0 s1 E' kp fr q => ?_) (by kernel_rfl) (by kernel_rfl) (by kernel_rfl)
  have eo := fr.fm.eo
  have hsl := sizeLine_val
  have ao1 : AOk (A.deeper env) 1 := ao.deeper
  refine st_own fr.fm q (.inl (fr.kind _ _ (by kernel_rfl))) fun a s4 ha hba q4 => ?_
  refine st_for (items := wr.toArray.toList.map fun c => D.str ⟨#[c]⟩) (τ := fun i => sgl (buiL a cs (atB wr i))) (τ1 := fun i d => upd (sgl (buiL a cs (atB wr i))) (Str.ofString "sign") (.d d)) (O := [a]) (Rt := fun _ => False)
    ao.hA fr.fm (q4.toL _ ⟨rfl, rfl, trivial⟩) (fun i => sgl_own ⟨List.mem_cons_self, trivial⟩) (fun b hb => by rw [List.mem_singleton.mp hb]; exact List.mem_cons_self) (fun i => sgl_ni rfl) (gi_str (x := ⟨wr.toArray⟩) (ev_name eo (q4.vd rfl)))
    (fun hb' i d v s I E'' R hd q r hI => asg_name R.fm (R.sto _ (.inl (fr.kind _ _ (by kernel_rfl)))) q r) (fun hb' i d s5 E'' R hd q5 => ?_) (fun s6 q6 => ?_) (fun _ _ _ h => h.elim)
  · obtain ⟨c, hc, rfl⟩ : ∃ c, wr[i]? = some c ∧ d = .str ⟨#[c]⟩ := by
      rw [List.getElem?_map] at hd
      cases e : wr[i]? with
      | none => rw [show wr.toArray.toList = wr from rfl, e] at hd; cases hd
      | some c => rw [show wr.toArray.toList = wr from rfl, e] at hd; cases hd; exact ⟨c, rfl, rfl⟩
    have ok := atB_ok hrun hc
    have hi := (List.getElem?_eq_some_iff.mp hc).1
    have hln := atB_len wr i (by omega)
    have hsucc := atB_succ hc
    have fin : ∀ s', St s0 hb' env (a :: X) (sgl (buiL a cs (stB (atB wr i) c))) s' → St s0 hb' env (a :: X) (sgl (buiL a cs (atB wr (i + 1)))) s' := fun s' q' => by rw [hsucc]; exact q'
    clear hsucc
    generalize atB wr i = P at ok hln fin q5
    have hr : ∀ (p : En) (P : List En), (p :: P).reverse.map (enD cs) = P.reverse.map (enD cs) ++ [enD cs p] := fun p P => by rw [List.reverse_cons, List.map_append]; rfl
    have hrl : (P.reverse.map (enD cs)).length = P.length := by rw [List.length_map, List.length_reverse]
    have pg5 := (pg.up kp).up (R.kp.trans q5.kp)
    have sto : ∀ x, dBui.scope.names.lookup x = some .local → Sto hb' env x := fun x e => R.sto _ (.inl (fr.kind _ _ e))
    refine st_assign R.fm q5 (sto _ (by kernel_rfl)) (ev_dget (i := symB c) (d := 256) eo (fr.kind _ _ (by kernel_rfl)) pg5.gl (pg5.glob (v := .ref 56) (by kernel_rfl)) (ett pg5) (by decide) (ev_name eo (q5.vd rfl)) ev_int (ett_sym w.params ok) (by rfl)) fun s6 q6 => ?_
    have pg6 := (pg.up kp).up (R.kp.trans q6.kp)
    refine st_if q6 q6.xok (tr_plain (ev_def pg6 mNon (by kernel_rfl) eo (fr.kind _ _ (by kernel_rfl)) (gs_cons (ev_name eo (q6.vd rfl)) gs_nil) (fun h' vs fa pg' F' r' => non ao1.d pg' F' r')) tru_b) (fun hb s7 q7 => ?_) (fun hb s7 q7 => ?_)
    · obtain ⟨j, hj, rfl⟩ : ∃ j, j < 6 ∧ c = 97 + j := by
        rcases ok with rfl | rfl | rfl | h | ⟨rfl, _⟩
        · simp [symB] at hb
        · simp [symB] at hb
        · simp [symB] at hb
        · exact h
        · simp [symB] at hb
      have e2 : stB P (97 + j) = .t (.leaf j) :: P := by
        unfold stB
        rw [if_neg (by omega), if_neg (by omega), if_neg (by omega), if_neg (by omega), show 97 + j - 97 = j by omega]
      rw [e2] at fin
      have hm : ((List.range 6).map fun i => D.str (so (rw6 cs i).cps))[((j : Nat) : Int).toNat]? = some (.str (so (rw6 cs j).cps)) := by
        rw [Int.toNat_natCast, List.getElem?_map, List.getElem?_range hj]; rfl
      refine st_append (d := enD cs (.t (.leaf j))) R.fm q7 rfl (Gv.cast (ev_tuple (gs_cons ev_int (gs_cons (ev_item (ev_name eo (q7.vd rfl)) (ev_index ev_str (ev_name eo (q7.vd rfl)) (abc_index hj) (by rfl) (by rfl) (by rfl)) (get_li (by omega) (by omega) hm)) gs_nil)) sz2) ?_) (by omega) fun s8 q8 => st_end (st_end (fin _ ?_))
      · show D.tup [.int 1, .str (so (rw6 cs j).cps)] = D.tup [.int 1, .str (so ((rw6 cs j).cps ++ []))]
        rw [List.append_nil]
      · rw [← hr] at q8
        exact q8.toL _ ⟨rfl, rfl, trivial⟩
    · refine st_if q7 q7.xok (tr_cmp (ev_name eo (q7.vd rfl)) ev_int eq_ii) (fun hb2 s8 q8 => ?_) (fun hb2 s8 q8 => ?_)
      · obtain ⟨rfl, l, r, P', hP, hlr⟩ : c = 41 ∧ ∃ l r P', (P = .t r :: .s 14 :: .t l :: P' ∨ P = .t r :: .s 15 :: .t l :: P') ∧ l.ls.length + r.ls.length ≤ 6 := by
          rcases ok with rfl | rfl | rfl | ⟨j, hj, rfl⟩ | h
          · simp [symB] at hb2
          · simp [symB] at hb2
          · simp [symB] at hb2
          · exfalso
            unfold symB at hb2
            rw [if_neg (by omega), if_neg (by omega), if_neg (by omega), if_neg (by omega)] at hb2
            exact absurd hb2 (by decide)
          · exact h
        have sl := tr_sml h5 l
        have sr := tr_sml h5 r
        have nl := rows_len (R := rw6 cs) l
        have nr := rows_len (R := rw6 cs) r
        have bnd : ∀ {t : Tr} {j : Nat}, Sml t.ls.length (t.rows (rw6 cs)) → (t.rows (rw6 cs)).length = t.ls.length → t.ls.length ≤ 6 → j ≤ 6 → (mailOf ((t.rows (rw6 cs)).map (upN j))).length ≤ 90 := fun {t j} s e h1 h2 => by
          have := (s.up j).len
          rw [List.length_map, e] at this
          have h3 : t.ls.length * (t.ls.length + j + 3) ≤ 6 * 15 := Nat.mul_le_mul h1 (by omega)
          omega
        rcases hP with rfl | rfl
        · simp only [List.length_cons] at hln hrl
          refine st_pop_two (ds := (.s 14 :: .t l :: P').reverse.map (enD cs)) (d1 := .int r.ls.length) (d2 := .str (so (mailOf (r.rows (rw6 cs))))) (a := a) ao1.hA R.fm q8 (by show _ = some (Sl.own a (_ ++ [enD cs (.t r)])); rw [← hr]; rfl) (by simp <;> omega) (sto _ (by kernel_rfl)) (sto _ (by kernel_rfl)) fun s9 q9 => ?_
          refine st_pop (ds := (.t l :: P').reverse.map (enD cs)) (d := .int 14) (a := a) R.fm q9 (by show _ = some (Sl.own a (_ ++ [enD cs (.s 14)])); rw [← hr]; rfl) (by simp <;> omega) (sto _ (by kernel_rfl)) fun s10 q10 => ?_
          refine st_pop_two (ds := P'.reverse.map (enD cs)) (d1 := .int l.ls.length) (d2 := .str (so (mailOf (l.rows (rw6 cs))))) (a := a) ao1.hA R.fm q10 (by show _ = some (Sl.own a (_ ++ [enD cs (.t l)])); rw [← hr]; rfl) (by simp <;> omega) (sto _ (by kernel_rfl)) (sto _ (by kernel_rfl)) fun s11 q11 => ?_
          have q12 := q11.toL (buiM a cs P' r.ls.length l.ls.length 14 (mailOf (r.rows (rw6 cs))) (mailOf (l.rows (rw6 cs)))) ⟨rfl, rfl, rfl, rfl, rfl, rfl, rfl, trivial⟩
          refine st_if q12 q12.xok (tr_cmp (ev_name eo (q12.vd rfl)) ev_int eq_ii) (fun hb3 s13 q13 => ?_) (fun hb3 s13 q13 => absurd hb3 (by decide))
          have pg13 := (pg.up kp).up (R.kp.trans q13.kp)
          refine st_for (items := (List.range (((l.ls.length : Nat) : Int)).toNat).map fun i => D.int (i : Nat)) (τ := fun j => sgl (buiM a cs P' r.ls.length l.ls.length 14 (mailOf ((r.rows (rw6 cs)).map (upN j))) (mailOf (l.rows (rw6 cs))))) (τ1 := fun j d => upd (sgl (buiM a cs P' r.ls.length l.ls.length 14 (mailOf ((r.rows (rw6 cs)).map (upN j))) (mailOf (l.rows (rw6 cs))))) (Str.ofString "turn") (.d d)) (O := [a]) (Rt := fun _ => False)
            ao.hA R.fm (q13.toL _ ⟨rfl, rfl, rfl, by rw [up0]; rfl, rfl, rfl, rfl, trivial⟩) (fun i => sgl_own ⟨List.mem_cons_self, trivial⟩) (fun b hb => by rw [List.mem_singleton.mp hb]; exact List.mem_cons_self) (fun i => sgl_ni rfl) (gi_range1 eo (fr.kind _ _ (by kernel_rfl)) pg13.gl (pg13.free (by kernel_rfl)) (pg13.bl boot_range) (ev_name eo (q13.vd rfl)) (by omega) (by omega))
            (fun hb'' j d v s I E'' R2 hd q r hI => asg_name R2.fm (R2.sto _ (sto _ (by kernel_rfl))) q r) (fun hb'' j d s15 E15 R2 hd2 q15 => ?_) (fun s16 q16 => ?_) (fun _ _ _ h => h.elim)
          · have hj : j < l.ls.length := by
              have := (List.getElem?_eq_some_iff.mp hd2).1
              rw [List.length_map, List.length_range] at this; omega
            have pg15 := (pg.up kp).up (R.kp.trans (R2.kp.trans q15.kp))
            refine st_assign R2.fm q15 (R2.sto _ (sto _ (by kernel_rfl))) (ev_def pg15 mQuo (by kernel_rfl) eo (fr.kind _ _ (by kernel_rfl)) (gs_cons (ev_name eo (q15.vd rfl)) gs_nil) (fun h' vs fa pg' F' r' => (quo (x := so (mailOf ((r.rows (rw6 cs)).map (upN j)))) ao1.d pg' F' (by have := bnd (j := j) sr nr (by omega) (by omega); show (List.toArray _).size ≤ _; rw [List.size_toArray]; omega) r').cast (congrArg (fun l => D.str (so l)) (quoted_up sr j)))) fun s17 q17 => st_end ?_
            exact q17.toL _ ⟨rfl, rfl, rfl, rfl, rfl, rfl, rfl, trivial⟩
          · have e : ((List.range (((l.ls.length : Nat) : Int)).toNat).map fun i => D.int (i : Nat)).length = l.ls.length := by rw [List.length_map, List.length_range]; omega
            rw [e] at q16
            have b1 := bnd (j := l.ls.length) sr nr (by omega) (by omega)
            have b2 := bnd (j := 0) sl nl (by omega) (by omega)
            rw [up0] at b2
            refine st_end ?_
            refine st_append (d := enD cs (.t (.plus l r))) R.fm q16 rfl (Gv.cast (ev_tuple (gs_cons (ev_bin (ev_name eo (q16.vd rfl)) (ev_name eo (q16.vd rfl)) add_ii) (gs_cons (ev_bin (ev_name eo (q16.vd rfl)) (ev_name eo (q16.vd rfl)) (add_so (by omega))) gs_nil)) sz2) ?_) (by rw [List.length_map, List.length_reverse]; omega) fun s18 q18 => st_end (st_end (st_end (fin _ ?_)))
            · rw [← mailOf_app, show ((l.ls.length : Nat) : Int) + ((r.ls.length : Nat) : Int) = ((Tr.plus l r).ls.length : Int) by rw [Tr.ls, List.length_append]; omega]; rfl
            · rw [← hr] at q18
              exact q18.toL _ ⟨rfl, rfl, trivial⟩
        · simp only [List.length_cons] at hln hrl
          refine st_pop_two (ds := (.s 15 :: .t l :: P').reverse.map (enD cs)) (d1 := .int r.ls.length) (d2 := .str (so (mailOf (r.rows (rw6 cs))))) (a := a) ao1.hA R.fm q8 (by show _ = some (Sl.own a (_ ++ [enD cs (.t r)])); rw [← hr]; rfl) (by simp <;> omega) (sto _ (by kernel_rfl)) (sto _ (by kernel_rfl)) fun s9 q9 => ?_
          refine st_pop (ds := (.t l :: P').reverse.map (enD cs)) (d := .int 15) (a := a) R.fm q9 (by show _ = some (Sl.own a (_ ++ [enD cs (.s 15)])); rw [← hr]; rfl) (by simp <;> omega) (sto _ (by kernel_rfl)) fun s10 q10 => ?_
          refine st_pop_two (ds := P'.reverse.map (enD cs)) (d1 := .int l.ls.length) (d2 := .str (so (mailOf (l.rows (rw6 cs))))) (a := a) ao1.hA R.fm q10 (by show _ = some (Sl.own a (_ ++ [enD cs (.t l)])); rw [← hr]; rfl) (by simp <;> omega) (sto _ (by kernel_rfl)) (sto _ (by kernel_rfl)) fun s11 q11 => ?_
          have q12 := q11.toL (buiM a cs P' r.ls.length l.ls.length 15 (mailOf (r.rows (rw6 cs))) (mailOf (l.rows (rw6 cs)))) ⟨rfl, rfl, rfl, rfl, rfl, rfl, rfl, trivial⟩
          refine st_if q12 q12.xok (tr_cmp (ev_name eo (q12.vd rfl)) ev_int eq_ii) (fun hb3 s13 q13 => absurd hb3 (by decide)) (fun hb3 s13 q13 => ?_)
          refine st_if q13 q13.xok (tr_cmp (ev_name eo (q13.vd rfl)) ev_int eq_ii) (fun hb4 s14 q14 => ?_) (fun hb4 s14 q14 => absurd hb4 (by decide))
          have pg13 := (pg.up kp).up (R.kp.trans q14.kp)
          refine st_for (items := (List.range (((r.ls.length : Nat) : Int)).toNat).map fun i => D.int (i : Nat)) (τ := fun j => sgl (buiM a cs P' r.ls.length l.ls.length 15 (mailOf (r.rows (rw6 cs))) (mailOf ((l.rows (rw6 cs)).map (upN j))))) (τ1 := fun j d => upd (sgl (buiM a cs P' r.ls.length l.ls.length 15 (mailOf (r.rows (rw6 cs))) (mailOf ((l.rows (rw6 cs)).map (upN j))))) (Str.ofString "turn") (.d d)) (O := [a]) (Rt := fun _ => False)
            ao.hA R.fm (q14.toL _ ⟨rfl, rfl, rfl, rfl, rfl, rfl, by rw [up0]; rfl, trivial⟩) (fun i => sgl_own ⟨List.mem_cons_self, trivial⟩) (fun b hb => by rw [List.mem_singleton.mp hb]; exact List.mem_cons_self) (fun i => sgl_ni rfl) (gi_range1 eo (fr.kind _ _ (by kernel_rfl)) pg13.gl (pg13.free (by kernel_rfl)) (pg13.bl boot_range) (ev_name eo (q14.vd rfl)) (by omega) (by omega))
            (fun hb'' j d v s I E'' R2 hd q r hI => asg_name R2.fm (R2.sto _ (sto _ (by kernel_rfl))) q r) (fun hb'' j d s15 E15 R2 hd2 q15 => ?_) (fun s16 q16 => ?_) (fun _ _ _ h => h.elim)
          · have hj : j < r.ls.length := by
              have := (List.getElem?_eq_some_iff.mp hd2).1
              rw [List.length_map, List.length_range] at this; omega
            have pg15 := (pg.up kp).up (R.kp.trans (R2.kp.trans q15.kp))
            refine st_assign R2.fm q15 (R2.sto _ (sto _ (by kernel_rfl))) (ev_def pg15 mQuo (by kernel_rfl) eo (fr.kind _ _ (by kernel_rfl)) (gs_cons (ev_name eo (q15.vd rfl)) gs_nil) (fun h' vs fa pg' F' r' => (quo (x := so (mailOf ((l.rows (rw6 cs)).map (upN j)))) ao1.d pg' F' (by have := bnd (j := j) sl nl (by omega) (by omega); show (List.toArray _).size ≤ _; rw [List.size_toArray]; omega) r').cast (congrArg (fun l => D.str (so l)) (quoted_up sl j)))) fun s17 q17 => st_end ?_
            exact q17.toL _ ⟨rfl, rfl, rfl, rfl, rfl, rfl, rfl, trivial⟩
          · have e : ((List.range (((r.ls.length : Nat) : Int)).toNat).map fun i => D.int (i : Nat)).length = r.ls.length := by rw [List.length_map, List.length_range]; omega
            rw [e] at q16
            have b1 := bnd (j := r.ls.length) sl nl (by omega) (by omega)
            have b2 := bnd (j := 0) sr nr (by omega) (by omega)
            rw [up0] at b2
            refine st_end (st_end ?_)
            refine st_append (d := enD cs (.t (.minus l r))) R.fm q16 rfl (Gv.cast (ev_tuple (gs_cons (ev_bin (ev_name eo (q16.vd rfl)) (ev_name eo (q16.vd rfl)) add_ii) (gs_cons (ev_bin (ev_name eo (q16.vd rfl)) (ev_name eo (q16.vd rfl)) (add_so (by omega))) gs_nil)) sz2) ?_) (by rw [List.length_map, List.length_reverse]; omega) fun s18 q18 => st_end (st_end (st_end (fin _ ?_)))
            · rw [← mailOf_app, show ((l.ls.length : Nat) : Int) + ((r.ls.length : Nat) : Int) = ((Tr.minus l r).ls.length : Int) by rw [Tr.ls, List.length_append]; omega]; rfl
            · rw [← hr] at q18
              exact q18.toL _ ⟨rfl, rfl, trivial⟩
      · refine st_if q8 q8.xok (tr_cmp (ev_name eo (q8.vd rfl)) ev_int ne_ii) (fun hb3 s9 q9 => ?_) (fun hb3 s9 q9 => ?_)
        · have key : stB P c = .s (symB c) :: P := by
            rcases ok with rfl | rfl | rfl | ⟨j, hj, rfl⟩ | ⟨rfl, _⟩
            · simp [symB] at hb3
            · rfl
            · rfl
            · exfalso
              unfold symB at hb
              rw [if_neg (by omega), if_neg (by omega), if_neg (by omega), if_neg (by omega)] at hb
              exact absurd hb (by decide)
            · simp [symB] at hb2
          rw [key] at fin
          refine st_append (d := .int (symB c)) R.fm q9 rfl (ev_name eo (q9.vd rfl)) (by omega) fun s10 q10 => st_end (st_end (st_end (st_end (fin _ ?_))))
          have q11 : St s0 hb' env (a :: X) _ s10 := q10
          rw [show D.int (symB c) = enD cs (.s (symB c)) from rfl, ← hr] at q11
          exact q11.toL _ ⟨rfl, rfl, trivial⟩
        · have key : stB P c = P := by
            rcases ok with rfl | rfl | rfl | ⟨j, hj, rfl⟩ | ⟨rfl, _⟩
            · rfl
            · simp [symB] at hb3
            · simp [symB] at hb3
            · exfalso
              unfold symB at hb
              rw [if_neg (by omega), if_neg (by omega), if_neg (by omega), if_neg (by omega)] at hb
              exact absurd hb (by decide)
            · simp [symB] at hb2
          rw [key] at fin
          exact st_end (st_end (st_end (st_end (fin _ (q9.toL _ ⟨rfl, rfl, trivial⟩)))))
  · have e : atB wr (wr.toArray.toList.map fun c => D.str ⟨#[c]⟩).length = [.t t] := by
      rw [List.length_map]
      exact atB_end hrun
    rw [e] at q6
    exact st_ret0 (d := .str (so (mailOf (t.rows (rw6 cs))))) q6 (ev_item (ev_item (ev_name eo (q6.vo rfl)) ev_int (get_li (by decide) (by decide) rfl)) ev_int (get_ti (by decide) (by decide) rfl)) trivial fun v s7 k7 r7 => ⟨v, rfl, Rd.flat trivial r7, (q6.rest.kps q6.kp).tr k7⟩
end
end Mine
end
section
open PySem PySem.W PyProof.Rows PySem.SeqAt
namespace Mine
noncomputable def ivs : D → List Int
  | .lst ds => ds.map iOf
  | _ => []
theorem ivs_cv (f : List Int) : ivs (cvD f) = f := by
  show (f.map D.int).map iOf = f
  rw [List.map_map, show iOf ∘ D.int = id from rfl, List.map_id]
theorem cs_range {cs : List (List Int)} (h : cs.length = 6) : cs = (List.range 6).map fun i => cs.getD i [] := by
  match cs, h with
  | [a, b, c, d, e, f], _ => rfl
theorem cs_mem {cs : List (List Int)} (h : cs.length = 6) {i : Nat} (hi : i < 6) : cs[i]? = some (cs.getD i []) := by
  rw [List.getD_eq_getElem?_getD, List.getElem?_eq_getElem (by omega)]; rfl
noncomputable abbrev dLaw : DefRec := dOf VP "law"
theorem mLaw : dLaw ∈ recsOf VP := dOf_mem (by decide +kernel)
theorem bindLaw (v pm cd doc : Value) : bindArgs (Calls.docDef dLaw.name dLaw.params dLaw.body dLaw.scope pm cd doc) ⟨[v], []⟩ = pure [(Str.ofString "script", v)] := by kernel_rfl
theorem eol_get1 (k : Nat) : [D.str (so [10]), .str (so [13]), .str (so [13, 10])][((k : Int).fmod 3).toNat]? = some (.str (so (eolN (k % 3)))) := by
  have h : ((k : Int).fmod 3).toNat = k % 3 := by rw [Int.fmod_eq_emod_of_nonneg _ (by decide)]; omega
  rw [h]
  have : k % 3 < 3 := Nat.mod_lt _ (by decide)
  match k % 3, this with
  | 0, _ => rfl
  | 1, _ => rfl
  | 2, _ => rfl
theorem sum_pow {b : Int} {f : List Int} (h : b = 64 ∨ b = -64) : ((List.range 6).map fun k : Nat => at6 f k * b ^ (5 - (k : Int)).toNat).sum = if b = 64 then hR f else hL f := by
  rcases h with rfl | rfl
  · rw [if_pos rfl]; exact sum_R f
  · rw [if_neg (by decide)]; exact sum_L f
section
variable {prog : Program} {w : World} {A : Around} {X : List Addr} {mg mb : Str → Option Value} {s : Shared} {h : Heap} {vs : List Value} {fa : Addr}
theorem heiR {f : List Int} (ao : AOk A 2) (pg : Pg w mg mb h) (F : FnAt h mg dHei.name dHei.params dHei.body dHei.scope fa) (hf : Cv f) (r : Rds X h vs [cvD f]) : Gv prog w A h X (call (.ref fa) vs) (.int (hR f)) := by
  have e := cv_eq hf
  rw [cvD, e] at r
  exact (hei ao pg F (hf.b 0 (by decide)) (hf.b 1 (by decide)) (hf.b 2 (by decide)) (hf.b 3 (by decide)) (hf.b 4 (by decide)) (hf.b 5 (by decide)) r).cast (congrArg D.int (hor_R f))
theorem heiL {f : List Int} (ao : AOk A 2) (pg : Pg w mg mb h) (F : FnAt h mg dHei.name dHei.params dHei.body dHei.scope fa) (hf : Cv f) (r : Rds X h vs [.lst ([at6 f 0 * 0, at6 f 1 * 1, at6 f 2 * 0, at6 f 3 * 1, at6 f 4 * 0, at6 f 5 * 1].map .int)]) : Gv prog w A h X (call (.ref fa) vs) (.int (hor (at6 f 0 * 0) (at6 f 1 * 1) (at6 f 2 * 0) (at6 f 3 * 1) (at6 f 4 * 0) (at6 f 5 * 1))) := by
  have b0 := hf.b 0 (by decide)
  have b1 := hf.b 1 (by decide)
  have b2 := hf.b 2 (by decide)
  have b3 := hf.b 3 (by decide)
  have b4 := hf.b 4 (by decide)
  have b5 := hf.b 5 (by decide)
  exact hei ao pg F (by omega) (by omega) (by omega) (by omega) (by omega) (by omega) r
/-- sorted, of six curves -/
theorem sort_g {c : List (List Int)} (h6 : c.length = 6) (hl : ∀ f ∈ c, f.length = 6) (hd : ∀ i j, i < 6 → j < 6 → i ≠ j → c.getD i [] ≠ c.getD j []) (hu : A.units + 10 < cLine) (h' : Heap) (vs : List Value) (r : Rds X h' vs [.lst (c.map cvD)]) : Gv prog w A h' X (call (.builtin "sorted") vs) (.lst ((srt c).map cvD)) := by
  intro hX s Q E hk hQ
  obtain ⟨v, rfl, r1⟩ := (r.up hk).one
  have key := sorted_lists (prog := prog) (w := w) (A := A) (X := X) (s := s) (v0 := v) (xss := c) (m := 6) (Q := Q) (E := E) hu (by omega) (by omega) hl
  rw [h6] at key
  exact key ok6 (hX.up hk) r1 (fun i hi => (pos6_ok hd).2 i hi) hQ
end
noncomputable def lawL (cs : List (List Int)) : List (Str × Sl) := [(Str.ofString "curves", .d (.lst (cs.map cvD))), (Str.ofString "right", .d (.lst (cs.map fun f => .int (hR f)))), (Str.ofString "left", .d (.lst (cs.map fun f => .int (hL f))))]
noncomputable def lawO (a1 a2 : Addr) (cs us : List (List Int)) : List (Str × Sl) := [(Str.ofString "curves", .d (.lst (cs.map cvD))), (Str.ofString "right", .own a1 (us.map fun f => .int (hR f))), (Str.ofString "left", .own a2 (us.map fun f => .int (hL f)))]
section
variable {prog : Program} {w : World} {A : Around} {X : List Addr} {mg mb : Str → Option Value} {s : Shared} {h : Heap} {vs : List Value} {fa : Addr}
theorem law1 {script : List Int} (ao : AOk A 9) (pg : Pg w mg mb h) (F : FnAt h mg dLaw.name dLaw.params dLaw.body dLaw.scope fa) (hz : script.length ≤ 63) (r : Rds X h vs [.lst (script.map .int)]) :
    Gv prog w A h X (call (.ref fa) vs) (.bool true) := by
  refine enter1 ao.d pg.gl F r bindLaw (.inl (by kernel_rfl)) (fun env s0 s1 E' kp fr q => ?_) (by kernel_rfl) (by kernel_rfl) (by kernel_rfl)
  have eo := fr.fm.eo
  have hsl := sizeLine_val
  have ao1 : AOk (A.deeper env) 8 := ao.deeper
  have pg1 := (pg.up kp).up q.kp
  have six := six_of (numsOf1 script)
  have six5 := six5_of (numsOf1 script)
  refine st_assign (d := .lst ((srt (curvesOf (numsOf1 script))).map cvD)) fr.fm q (fr.sto _ (.inr (by kernel_rfl))) (ev_bf eo (fr.kind _ _ (by kernel_rfl)) pg1.gl (pg1.free (by kernel_rfl)) (pg1.bl boot_sorted) (gs_cons (ev_def pg1 mCur (by kernel_rfl) eo (fr.kind _ _ (by kernel_rfl)) (gs_cons (ev_name eo (q.vd rfl)) gs_nil) (fun h' vs fa pg' F' r' => cur (ao1.less (by omega)) pg' F' hz r')) gs_nil) (sort_g (curves_len _) (fun f hf => by
    obtain ⟨i, hi, rfl⟩ := List.mem_map.mp hf
    exact (curve_cv (List.mem_range.mp hi)).len) (curves_ne _) (ao1.c (by omega)))) fun s2 q2 => ?_
  generalize srt (curvesOf (numsOf1 script)) = cs at six six5 q2
  have cl := six.len
  have hcv := six.cv
  refine st_own fr.fm q2 (.inl (fr.kind _ _ (by kernel_rfl))) fun a1 s3 ha1 hba1 q3 => ?_
  refine st_own fr.fm q3 (fr.sto _ (.inr (by kernel_rfl))) fun a2 s4 ha2 hba2 q4 => ?_
  refine st_for (items := cs.map cvD) (τ := fun i => sgl (lawO a1 a2 cs (cs.take i))) (τ1 := fun i d => upd (sgl (lawO a1 a2 cs (cs.take i))) (Str.ofString "figures") (.d d)) (O := [a1, a2]) (Rt := fun _ => False)
    ao.hA fr.fm (q4.toL _ ⟨rfl, rfl, rfl, trivial⟩) (fun i => sgl_own ⟨List.mem_cons_self, List.mem_cons_of_mem _ List.mem_cons_self, trivial⟩) (fun b hb => by
      rcases List.mem_cons.mp hb with rfl | hb
      · exact List.mem_cons_of_mem _ List.mem_cons_self
      · rw [List.mem_singleton.mp hb]; exact List.mem_cons_self) (fun i => sgl_ni rfl) (gi_list (ev_name eo (q4.vd rfl)))
    (fun hb' i d v s I E'' R hd q r hI => asg_name R.fm (R.sto _ (fr.sto _ (.inr (by kernel_rfl)))) q r) (fun hb' i d s5 E'' R hd q5 => ?_) (fun s6 q6 => ?_) (fun _ _ _ h => h.elim)
  · obtain ⟨f, hf, rfl⟩ : ∃ f, cs[i]? = some f ∧ d = cvD f := by
      rw [List.getElem?_map] at hd
      obtain ⟨f, h1, h2⟩ := Option.map_eq_some_iff.mp hd
      exact ⟨f, h1, h2.symm⟩
    have cf := hcv f (List.mem_of_getElem? hf)
    have hi := (List.getElem?_eq_some_iff.mp hf).1
    have htl : (cs.take i).length = i := by rw [List.length_take]; omega
    have hts : cs.take (i + 1) = cs.take i ++ [f] := by rw [List.take_add_one, hf]; rfl
    have pg5 := (pg.up kp).up (R.kp.trans q5.kp)
    refine st_append (d := .int (hR f)) R.fm q5 rfl (ev_def pg5 mHei (by kernel_rfl) eo (fr.kind _ _ (by kernel_rfl)) (gs_cons (ev_name eo (q5.vd rfl)) gs_nil) (fun h' vs fa pg' F' r' => heiR (ao1.less (by omega)) pg' F' cf r')) (by rw [List.length_map, htl]; omega) fun s6 q6 => ?_
    have pg6 := (pg.up kp).up (R.kp.trans q6.kp)
    refine st_append0 (d := .int (hL f)) R.fm q6 rfl (Gv.cast (ev_bin (ev_bin ev_int (ev_def pg6 mHei (by kernel_rfl) eo (fr.kind _ _ (by kernel_rfl)) (gs_cons (d := .lst ([at6 f 0 * 0, at6 f 1 * 1, at6 f 2 * 0, at6 f 3 * 1, at6 f 4 * 0, at6 f 5 * 1].map .int)) (Gv.cast (ev_compn (x := Str.ofString "k") (items := (List.range 6).map fun i => D.int (i : Nat)) (fun d => .int (at6 f (iOf d).toNat * (iOf d).fmod 2)) [(Str.ofString "figures", cvD f)] ao1.hA eo (fv_one (q6.v0 rfl) (kc (fr.kind _ _ (by kernel_rfl)))) (gi_range1 eo (fr.kind _ _ (by kernel_rfl)) pg6.gl (pg6.free (by kernel_rfl)) (pg6.bl boot_range) ev_int (by decide) (by decide)) (by rw [hsl]; decide) (.inl (by kernel_rfl)) rfl (fun cenv h' X' d hd eo' kn kp' hx hfv => ?_) (fc (by rfl)) (ff (by rfl))) rfl) gs_nil) (fun h' vs fa pg' F' r' => heiL (ao1.less (by omega)) pg' F' cf r')) (mul_ii (mul_small (by decide) (by decide)))) (ev_item (ev_name eo (q6.vo rfl)) (ev_un ev_int neg_i) (get_last (by rw [List.length_map, htl]; omega))) sub_ii) (congrArg D.int (hor_L f))) trivial (by rw [List.length_map, htl]; omega) fun s7 q7 => st_end ?_
    · obtain ⟨k, hk, rfl⟩ := List.mem_map.mp hd
      have hk : k < 6 := List.mem_range.mp hk
      have hb := cf.b k hk
      exact ev_bin (ev_item (ev_name eo' (hfv _ _ rfl)) (ev_name eo' hx) (cv_get cf hk)) (ev_bin (ev_name eo' hx) ev_int (mod_ii (by decide))) (mul_ii (mul_small (by show -(2 ^ 60) ≤ at6 f k; omega) (by show at6 f k ≤ 2 ^ 60; omega)))
    · have e : lawO a1 a2 cs (cs.take (i + 1)) = [(Str.ofString "curves", .d (.lst (cs.map cvD))), (Str.ofString "right", .own a1 (((cs.take i).map fun f => D.int (hR f)) ++ [.int (hR f)])), (Str.ofString "left", .own a2 (((cs.take i).map fun f => D.int (hL f)) ++ [.int (hL f)]))] := by
        rw [lawO, hts, List.map_append, List.map_append]; rfl
      rw [e]
      exact q7.toL _ ⟨rfl, rfl, rfl, trivial⟩
  rw [List.length_map, List.take_of_length_le (Nat.le_refl _)] at q6
  have q7 := q6.disown (x := Str.ofString "left") (X' := a1 :: X) rfl (fun b hb => List.mem_cons_of_mem _ hb) ha2 (fun y b es hy e => by
    have := sgl_mem e
    simp [lawO] at this
    rcases this with h | h
    · rw [h.2.1]; exact List.mem_cons_self
    · exact absurd h.1 hy)
  have q8 := q7.toL [(Str.ofString "right", .own a1 (cs.map fun f => .int (hR f))), (Str.ofString "curves", .d (.lst (cs.map cvD))), (Str.ofString "left", .d (.lst (cs.map fun f => .int (hL f))))] ⟨rfl, rfl, rfl, trivial⟩
  have q9 := q8.disown (x := Str.ofString "right") (X' := X) rfl (fun b hb => List.mem_cons_of_mem _ hb) ha1 (fun y b es hy e => by
    have := sgl_mem e
    simp at this
    exact absurd this.1 hy)
  have q10 := q9.toL (lawL cs) ⟨rfl, rfl, rfl, trivial⟩
  clear q9 q8 q7
  -- the sums
  have pg10 := (pg.up kp).up q10.kp
  have hml : (cs.map cvD).length = 6 := by rw [List.length_map, cl]
  refine st_for (items := [.tup [.int 64, .lst (cs.map fun f => .int (hR f))], .tup [.int (-64), .lst (cs.map fun f => .int (hL f))]]) (τ := fun i => sgl (lawL cs)) (τ1 := fun i d => tau2 (sgl (lawL cs)) (Str.ofString "base") (Str.ofString "heights") d) (O := []) (Rt := fun _ => False)
    ao.hA fr.fm q10 (fun i => sgl_own trivial) (fun _ h => nomatch h) (fun i => sgl_ni rfl) (gi_list (ev_list (gs_cons (ev_tuple (gs_cons ev_int (gs_cons (ev_name eo (q10.vd rfl)) gs_nil)) sz2) (gs_cons (ev_tuple (gs_cons (ev_un ev_int neg_i) (gs_cons (ev_name eo (q10.vd rfl)) gs_nil)) sz2) gs_nil)) sz2))
    (fun hb' i d v s I E'' R hd q r hI => ?_) (fun hb' i d s5 E'' R hd q5 => ?_) (fun s11 q11 => ?_) (fun _ _ _ h => h.elim)
  · have hm := List.mem_of_getElem? hd
    rcases List.mem_cons.mp hm with rfl | hm
    · exact asg_pair ao.hA R.fm (R.sto _ (fr.sto _ (.inr (by kernel_rfl)))) (R.sto _ (.inl (fr.kind _ _ (by kernel_rfl)))) q r hI
    · obtain rfl := List.mem_singleton.mp hm
      exact asg_pair ao.hA R.fm (R.sto _ (fr.sto _ (.inr (by kernel_rfl)))) (R.sto _ (.inl (fr.kind _ _ (by kernel_rfl)))) q r hI
  · obtain ⟨b, hb, rfl⟩ : ∃ b : Int, (b = 64 ∨ b = -64) ∧ d = .tup [.int b, .lst (cs.map fun f => .int (if b = 64 then hR f else hL f))] := by
      have hm := List.mem_of_getElem? hd
      rcases List.mem_cons.mp hm with rfl | hm
      · exact ⟨64, .inl rfl, rfl⟩
      · obtain rfl := List.mem_singleton.mp hm
        exact ⟨-64, .inr rfl, rfl⟩
    have pg5 := (pg.up kp).up (R.kp.trans q5.kp)
    have hb64 : b.natAbs < 2 ^ 64 := by rcases hb with rfl | rfl <;> decide
    refine st_if (c := false) q5 q5.xok (tr_cmp (ev_name eo (q5.vd rfl)) (Gv.cast (ev_compn (x := Str.ofString "figures") (items := cs.map cvD) (fun d => .int (((List.range 6).map fun k : Nat => at6 (ivs d) k * b ^ (5 - (k : Int)).toNat).sum)) [(Str.ofString "base", .int b)] ao1.hA eo (fv_one (q5.vd rfl) (kc (fr.kind _ _ (by kernel_rfl)))) (gi_list (ev_name eo (q5.vd rfl))) (by rw [hml, hsl]; decide) (.inr (by kernel_rfl)) rfl (fun cenv h' X' d hd eo' kn kp' hx hfv => ?_) (fc (by rfl)) (ff (by rfl))) ?_) (ne_same (lay_lst (k := 0) fun d hd => ?_) (ao1.c (by omega)))) (fun hb => by cases hb) fun _ s6 q6 => st_end (st_end ?_)
    · obtain ⟨f, hf, rfl⟩ := List.mem_map.mp hd
      have cf := hcv f hf
      rw [ivs_cv]
      have pg6 := pg5.up kp'
      have hns : ((List.range 6).map fun i => D.int (i : Nat)).map (fun d => D.int (at6 f (iOf d).toNat * b ^ (5 - iOf d).toNat)) = ((List.range 6).map fun k : Nat => at6 f k * b ^ (5 - (k : Int)).toNat).map .int := by
        rw [List.map_map, List.map_map]; rfl
      refine ev_bf eo' (kn.gl (by kernel_rfl)) pg6.gl (pg6.free (by kernel_rfl)) (pg6.bl boot_sum) (gs_cons (d := .lst (((List.range 6).map fun k : Nat => at6 f k * b ^ (5 - (k : Int)).toNat).map .int)) (Gv.cast (ev_compn (x := Str.ofString "k") (items := (List.range 6).map fun i => D.int (i : Nat)) (fun d => .int (at6 f (iOf d).toNat * b ^ (5 - iOf d).toNat)) [(Str.ofString "base", .int b), (Str.ofString "figures", cvD f)] ao1.hA eo' (fv_two (hfv _ _ rfl) (kn.nl (k := .free) (by kernel_rfl) (by decide)) hx (kn.nl (k := .cell) (by kernel_rfl) (by decide))) (gi_range1 eo' (kn.gl (by kernel_rfl)) pg6.gl (pg6.free (by kernel_rfl)) (pg6.bl boot_range) ev_int (by decide) (by decide)) (by rw [hsl]; decide) (.inl (by kernel_rfl)) rfl (fun cenv2 h2 X2 d2 hd2 eo2 kn2 kp2 hx2 hfv2 => ?_) (fc (by rfl)) (ff (by rfl))) (congrArg D.lst hns)) gs_nil) (sum_l ao1.hA)
      obtain ⟨k, hk, rfl⟩ := List.mem_map.mp hd2
      have hk : k < 6 := List.mem_range.mp hk
      have hb2 := cf.b k hk
      exact ev_bin (ev_item (ev_name eo2 (hfv2 _ _ rfl)) (ev_name eo2 hx2) (cv_get cf hk)) (ev_bin (ev_name eo2 (hfv2 _ _ rfl)) (ev_bin ev_int (ev_name eo2 hx2) sub_ii) (pow_ii (by omega) (by omega) hb64)) (mul_ii (mul_small (by show -(2 ^ 60) ≤ at6 f k; omega) (by show at6 f k ≤ 2 ^ 60; omega)))
    · rw [List.map_map]
      refine congrArg D.lst (List.map_congr_left fun f hf => ?_)
      show D.int (((List.range 6).map fun k : Nat => at6 (ivs (cvD f)) k * b ^ (5 - (k : Int)).toNat).sum) = _
      rw [ivs_cv, sum_pow hb]
    · obtain ⟨f, _, rfl⟩ := List.mem_map.mp hd
      exact lay_int
    · exact q6.toL _ ⟨rfl, rfl, rfl, trivial⟩
  have q12 := q11.toL (lawL cs) ⟨rfl, rfl, rfl, trivial⟩
  clear q11 q10
  -- the pairs
  have gC : ∀ {A' : Around} {X' : List Addr} {i : Nat}, i < 6 → GetD prog w A' X' (.lst (cs.map cvD)) (.int i) (cvD (cs.getD i [])) := fun {A' X' i} hi => get_li (by omega) (by omega) (by rw [Int.toNat_natCast, List.getElem?_map, cs_mem cl hi]; rfl)
  have gR : ∀ {A' : Around} {X' : List Addr} {i : Nat}, i < 6 → GetD prog w A' X' (.lst (cs.map fun f => .int (hR f))) (.int i) (.int (hR (cs.getD i []))) := fun {A' X' i} hi => get_li (by omega) (by omega) (by rw [Int.toNat_natCast, List.getElem?_map, cs_mem cl hi]; rfl)
  have gL : ∀ {A' : Around} {X' : List Addr} {i : Nat}, i < 6 → GetD prog w A' X' (.lst (cs.map fun f => .int (hL f))) (.int i) (.int (lef cs i)) := fun {A' X' i} hi => get_li (by omega) (by omega) (by rw [Int.toNat_natCast, List.getElem?_map, cs_mem cl hi]; rfl)
  have pg12 := (pg.up kp).up q12.kp
  refine st_for (items := (List.range 6).map fun i => D.int (i : Nat)) (τ := fun i => sgl (lawL cs)) (τ1 := fun i d => upd (sgl (lawL cs)) (Str.ofString "j") (.d d)) (O := []) (Rt := fun _ => False)
    ao.hA fr.fm q12 (fun i => sgl_own trivial) (fun _ h => nomatch h) (fun i => sgl_ni rfl) (gi_range1 eo (fr.kind _ _ (by kernel_rfl)) pg12.gl (pg12.free (by kernel_rfl)) (pg12.bl boot_range) ev_int (by decide) (by decide))
    (fun hb' i d v s I E'' R hd q r hI => asg_name R.fm (R.sto _ (.inl (fr.kind _ _ (by kernel_rfl)))) q r) (fun hb' i0 d s5 E'' R hd q5 => ?_) (fun s13 q13 => ?_) (fun _ _ _ h => h.elim)
  · obtain ⟨j, hj, rfl⟩ := List.mem_map.mp (List.mem_of_getElem? hd)
    have hj : j < 6 := List.mem_range.mp hj
    have pg5 := (pg.up kp).up (R.kp.trans q5.kp)
    refine st_for (items := (List.range ((j : Nat) : Int).toNat).map fun i => D.int (i : Nat)) (τ := fun i => sgl ((Str.ofString "j", .d (.int (j : Nat))) :: lawL cs)) (τ1 := fun i d => upd (sgl ((Str.ofString "j", .d (.int (j : Nat))) :: lawL cs)) (Str.ofString "i") (.d d)) (O := []) (Rt := fun _ => False)
      ao.hA R.fm (q5.toL _ ⟨rfl, rfl, rfl, rfl, trivial⟩) (fun i => sgl_own trivial) (fun _ h => nomatch h) (fun i => sgl_ni rfl) (gi_range1 eo (fr.kind _ _ (by kernel_rfl)) pg5.gl (pg5.free (by kernel_rfl)) (pg5.bl boot_range) (ev_name eo (q5.vd rfl)) (by omega) (by omega))
      (fun hb'' i d v s I E'' R2 hd q r hI => asg_name R2.fm (R2.sto _ (R.sto _ (.inl (fr.kind _ _ (by kernel_rfl))))) q r) (fun hb'' i1 d s6 E6 R2 hd2 q6 => ?_) (fun s7 q7 => st_end (q7.toL _ ⟨rfl, rfl, rfl, trivial⟩)) (fun _ _ _ h => h.elim)
    obtain ⟨i, hi, rfl⟩ := List.mem_map.mp (List.mem_of_getElem? hd2)
    have hi : i < j := by have := List.mem_range.mp hi; omega
    have hi6 : i < 6 := by omega
    obtain ⟨m, hdif⟩ := six.dif hi hj
    obtain ⟨hh1, hh2, hh3⟩ := dif_h (six.at hi6) (six.at hj) hdif
    have pg6 := (pg.up kp).up (R.kp.trans (R2.kp.trans q6.kp))
    have hm2 : (m : Int).fmod 2 = ((m % 2 : Nat) : Int) := by rw [Int.fmod_eq_emod_of_nonneg _ (by decide)]; omega
    refine st_assign (d := .bool (decide (lef cs i < lef cs j))) R2.fm q6 (R2.sto _ (R.sto _ (.inl (fr.kind _ _ (by kernel_rfl))))) (Gv.cast (ev_cmp (ev_bin (ev_def pg6 mPar (by kernel_rfl) eo (fr.kind _ _ (by kernel_rfl)) (gs_cons (ev_item (ev_name eo (q6.vd rfl)) (ev_name eo (q6.vd rfl)) (gC hi6)) (gs_cons (ev_item (ev_name eo (q6.vd rfl)) (ev_name eo (q6.vd rfl)) (gC hj)) gs_nil)) (fun h' vs fa pg' F' r' => par (ao1.less (by omega)) pg' F' (six.at hi6) (six.at hj) hdif r')) ev_int (mod_ii (by decide))) ev_int eq_ii) (congrArg D.bool ?_)) fun s7 q7 => ?_
    · rw [hm2]
      rcases Nat.mod_two_eq_zero_or_one m with h | h
      · have h3 : hL (cs.getD j []) < hL (cs.getD i []) := hh3 h
        rw [h, decide_eq_false (by show ¬ hL (cs.getD i []) < hL (cs.getD j []); omega)]; rfl
      · have h3 : hL (cs.getD i []) < hL (cs.getD j []) := hh2 h
        rw [h, decide_eq_true (show lef cs i < lef cs j from h3)]; rfl
    · refine st_if (c := false) q7 q7.xok ((tr_or (a := false) (b := false) ((tr_cmp (ev_item (ev_name eo (q7.vd rfl)) (ev_name eo (q7.vd rfl)) (gR hi6)) (ev_item (ev_name eo (q7.vd rfl)) (ev_name eo (q7.vd rfl)) (gR hj)) ge_ii).cast (decide_eq_false (by omega))) (fun _ => (tr_or (a := false) (b := false) (tr_cmp (ev_cmp (ev_item (ev_name eo (q7.vd rfl)) (ev_name eo (q7.vd rfl)) (gL hi6)) (ev_item (ev_name eo (q7.vd rfl)) (ev_name eo (q7.vd rfl)) (gL hj)) lt_ii) (ev_name eo (q7.vd rfl)) (ne_same lay_bool (ao1.c (by omega)))) (fun _ => tr_or_nil)).cast rfl)).cast rfl) (fun hb => by cases hb) fun _ s8 q8 => st_end (st_end ?_)
      exact q8.toL _ ⟨rfl, rfl, rfl, rfl, trivial⟩
  have q14 := q13.toL (lawL cs) ⟨rfl, rfl, rfl, trivial⟩
  clear q13 q12
  -- below
  have hLl : (cs.map fun f => D.int (hL f)).length = 6 := by rw [List.length_map, cl]
  have hfilt : ∀ (v : Int) (l : List (List Int)), ((l.map fun f => D.int (hL f)).filter fun d => decide (iOf d < v)).length = l.countP fun f => decide (hL f < v) := fun v l => by
    induction l with
    | nil => rfl
    | cons f l ih =>
      rw [List.map_cons, List.filter_cons, List.countP_cons]
      by_cases h : hL f < v
      · rw [if_pos (show decide (iOf (D.int (hL f)) < v) = true from decide_eq_true h), List.length_cons, ih, decide_eq_true h]; rfl
      · rw [if_neg (show ¬ decide (iOf (D.int (hL f)) < v) = true from fun e => h (of_decide_eq_true e)), ih, decide_eq_false h]; rfl
  have hbelo : ∀ i, (cs.countP fun f => decide (hL f < lef cs i)) = belo cs i := fun i => by
    have e := congrArg (fun l => l.countP fun f => decide (hL f < lef cs i)) (cs_range cl)
    refine e.trans ?_
    show ((List.range 6).map fun i => cs.getD i []).countP _ = _
    rw [List.countP_map]; rfl
  have pg14 := (pg.up kp).up q14.kp
  refine st_assign (d := .lst ((List.range 6).map fun i => .int (belo cs i : Nat))) fr.fm q14 (fr.sto _ (.inr (by kernel_rfl))) (Gv.cast (ev_compn (x := Str.ofString "height") (items := cs.map fun f => .int (hL f)) (fun d => .int ((cs.countP fun f => decide (hL f < iOf d) : Nat) : Int)) [(Str.ofString "left", .lst (cs.map fun f => .int (hL f)))] ao1.hA eo (fv_one (q14.vd rfl) (kc (fr.kind _ _ (by kernel_rfl)))) (gi_list (ev_name eo (q14.vd rfl))) (by rw [hLl, hsl]; decide) (.inr (by kernel_rfl)) rfl (fun cenv h' X' d hd eo' kn kp' hx hfv => ?_) (fc (by rfl)) (ff (by rfl))) ?_) (fun s15 q15 => ?_) (sw_cell (fr.kind _ _ (by kernel_rfl)))
  · obtain ⟨f, hf, rfl⟩ := List.mem_map.mp hd
    have pg15 := pg14.up kp'
    have hfl : ((cs.map fun f => D.int (hL f)).filter fun d => decide (iOf d < hL f)).length ≤ 6 := by rw [← hLl]; exact List.length_filter_le ..
    refine Gv.cast (ev_bf eo' (kn.gl (by kernel_rfl)) pg15.gl (pg15.free (by kernel_rfl)) (pg15.bl boot_len) (gs_cons (ev_comp1 (x := Str.ofString "one") (items := cs.map fun f => .int (hL f)) (fun d => decide (iOf d < hL f)) (fun d => d) [(Str.ofString "height", .int (hL f))] ao1.hA eo' (fv_one hx (kn.nl (k := .cell) (by kernel_rfl) (by decide))) (gi_list (ev_name eo' (hfv _ _ rfl))) (by rw [hLl, hsl]; decide) (.inl (by kernel_rfl)) rfl (fun cenv2 h2 X2 d2 hd2 eo2 kn2 kp2 hx2 hfv2 => ?_) (fun cenv2 h2 X2 d2 hd2 _ eo2 kn2 kp2 hx2 hfv2 => ev_name eo2 hx2) (fc (by rfl)) (ff (by rfl))) gs_nil) (len_l (by rw [List.length_map]; omega))) (congrArg D.int ?_)
    · obtain ⟨g, _, rfl⟩ := List.mem_map.mp hd2
      exact gt_one (tr_cmp (ev_name eo2 hx2) (ev_name eo2 (hfv2 _ _ rfl)) lt_ii)
    · rw [List.length_map]
      show (((cs.map fun f => D.int (hL f)).filter fun d => decide (iOf d < hL f)).length : Int) = ((cs.countP fun g => decide (hL g < hL f) : Nat) : Int)
      rw [hfilt]
  · have e : (cs.map fun f => D.int (hL f)) = (List.range 6).map fun i => D.int (lef cs i) := by
      have := congrArg (fun l => l.map fun f => D.int (hL f)) (cs_range cl)
      refine this.trans ?_
      show ((List.range 6).map fun i => cs.getD i []).map _ = _
      rw [List.map_map]; rfl
    rw [e, List.map_map]
    refine congrArg D.lst (List.map_congr_left fun i hi => ?_)
    show D.int ((cs.countP fun f => decide (hL f < lef cs i) : Nat) : Int) = _
    rw [hbelo]
  -- the writing
  have pg15 := (pg.up kp).up q15.kp
  have gB : ∀ {A' : Around} {X' : List Addr} {i : Nat}, i < 6 → GetD prog w A' X' (.lst ((List.range 6).map fun i => .int (belo cs i : Nat))) (.int i) (.int (belo cs i : Nat)) := fun {A' X' i} hi => get_li (by omega) (by omega) (by rw [Int.toNat_natCast, List.getElem?_map, List.getElem?_range hi]; rfl)
  obtain ⟨tls, tsep⟩ := tre_ok six
  have hbne : (List.range 6).Pairwise fun a b => belo cs a ≠ belo cs b := List.Pairwise.imp_of_mem (fun {a b} h1 h2 h e => by
    have h1 := List.mem_range.mp h1
    have h2 := List.mem_range.mp h2
    obtain ⟨m, hdif⟩ := six.dif h h2
    obtain ⟨_, hh2, hh3⟩ := dif_h (six.at h1) (six.at h2) hdif
    rcases Nat.mod_two_eq_zero_or_one m with h | h
    · have := belo_lt (cs := cs) h2 (hh3 h); omega
    · have := belo_lt (cs := cs) h1 (hh2 h); omega) (List.pairwise_lt_range (n := 6))
  have hwl := wr_ln tsep
  rw [tls, List.length_range] at hwl
  refine st_assign (d := .str (so (tre cs).wr)) fr.fm q15 (.inl (fr.kind _ _ (by kernel_rfl))) (ev_def pg15 mSpl (by kernel_rfl) eo (fr.kind _ _ (by kernel_rfl)) (gs_cons (d := .lst ((List.range 6).map (itD (belo cs)))) (Gv.cast (ev_compn (x := Str.ofString "i") (items := (List.range 6).map fun i => D.int (i : Nat)) (fun d => itD (belo cs) (iOf d).toNat) [(Str.ofString "below", .lst ((List.range 6).map fun i => .int (belo cs i : Nat)))] ao1.hA eo (fv_one (q15.vd rfl) (kc (fr.kind _ _ (by kernel_rfl)))) (gi_range1 eo (fr.kind _ _ (by kernel_rfl)) pg15.gl (pg15.free (by kernel_rfl)) (pg15.bl boot_range) ev_int (by decide) (by decide)) (by rw [hsl]; decide) (.inl (by kernel_rfl)) rfl (fun cenv h' X' d hd eo' kn kp' hx hfv => ?_) (fc (by rfl)) (ff (by rfl))) (by rw [List.map_map]; rfl)) gs_nil) (fun h' vs fa pg' F' r' => spl 6 (ao1.less (by omega)) pg' F' (six_good six) hbne (by decide) (by decide) (by decide) r')) fun s16 q16 => ?_
  · obtain ⟨i, hi, rfl⟩ := List.mem_map.mp hd
    have hi : i < 6 := List.mem_range.mp hi
    exact ev_tuple (gs_cons (ev_item (ev_name eo' (hfv _ _ rfl)) (ev_name eo' hx) (gB hi)) (gs_cons (ev_item ev_str (ev_name eo' hx) (get_si (by omega) (by omega) (abc_get hi))) gs_nil)) sz2
  have pg16 := (pg.up kp).up q16.kp
  refine st_if (c := false) q16 q16.xok ((tr_cmp (ev_so (l := [63]) (by kernel_rfl)) (ev_name eo (q16.vd rfl)) in_ss).cast ?_) (fun hb => by cases hb) fun _ s17 q17 => st_end ?_
  · refine (PySem.StrLaws.found_one (so (tre cs).wr) 63).trans (decide_eq_false ?_)
    exact wr_no63 tsep fun i hi => by rw [tls] at hi; exact List.mem_range.mp hi
  -- the mails
  have gF5 : ∀ {A' : Around} {X' : List Addr} {f : List Int}, f ∈ cs → GetD prog w A' X' (cvD f) (.int 5) (.int (at6 f 5)) := fun {A' X' f} hf => cv_get (hcv f hf) (k := 5) (by decide)
  have pg17 := (pg.up kp).up q17.kp
  refine st_compn (x := Str.ofString "figures") (y := Str.ofString "mails") (items := cs.map cvD) (fun d => .str (so ([46] ++ [68 + (at6 (ivs d) 5).toNat] ++ eolN ((at6 (ivs d) 5).toNat % 3)))) [] ao1.hA fr.fm q17 fv_nil (gi_list (ev_name eo (q17.vd rfl))) (by rw [hml, hsl]; decide) (.inl (by kernel_rfl)) rfl (fun cenv h' X' d hd eo' kn kp' hx hfv => ?_) (fr.kind _ _ (by kernel_rfl)) (by rfl) (by kernel_rfl) (fc (by rfl)) (ff (by rfl)) fun s18 q18 => ?_
  · obtain ⟨f, hf, rfl⟩ := List.mem_map.mp hd
    have cf := hcv f hf
    have b5 := cf.b 5 (by decide)
    have pg18 := pg17.up kp'
    rw [ivs_cv]
    obtain ⟨p, hp⟩ := Int.eq_ofNat_of_zero_le b5.1
    have g5 : ∀ {A' : Around} {X' : List Addr}, GetD prog w A' X' (cvD f) (.int 5) (.int (p : Int)) := fun {A' X'} => hp ▸ gF5 hf
    rw [hp, Int.toNat_natCast]
    refine ev_bin (ev_bin (ev_so (l := [46]) (by kernel_rfl)) (Gv.cast (ev_bf eo' (kn.gl (by kernel_rfl)) pg18.gl (pg18.free (by kernel_rfl)) (pg18.bl boot_chr) (gs_cons (ev_bin ev_int (ev_item (ev_name eo' hx) ev_int g5) add_ii) gs_nil) (chr_i (by omega) (by omega))) ?_) (add_so szc)) (ev_item (ev_list (gs_cons (ev_so (l := [10]) (by kernel_rfl)) (gs_cons (ev_so (l := [13]) (by kernel_rfl)) (gs_cons (ev_so (l := [13, 10]) (by kernel_rfl)) gs_nil))) sz3) (ev_bin (ev_item (ev_name eo' hx) ev_int g5) ev_int (mod_ii (by decide))) (get_li (Int.fmod_nonneg_of_pos _ (by decide)) (by have := Int.fmod_lt_of_pos (p : Int) (b := 3) (by decide); omega) (eol_get1 p))) (add_so ?_)
    · rw [show (68 + (p : Int)).toNat = 68 + p by omega]
    · have : (eolN (p % 3)).length ≤ 2 := by unfold eolN; split; decide; split; decide; decide
      simp only [List.length_append, List.length_cons, List.length_nil]
      omega
  have em : (cs.map cvD).map (fun d => D.str (so ([46] ++ [68 + (at6 (ivs d) 5).toNat] ++ eolN ((at6 (ivs d) 5).toNat % 3)))) = (List.range 6).map fun i => D.str (so (rw6 cs i).cps) := by
    have e := congrArg (fun l => (l.map cvD).map (fun d => D.str (so ([46] ++ [68 + (at6 (ivs d) 5).toNat] ++ eolN ((at6 (ivs d) 5).toNat % 3))))) (cs_range cl)
    refine e.trans ?_
    show (((List.range 6).map fun i => cs.getD i []).map cvD).map _ = _
    rw [List.map_map, List.map_map]
    refine List.map_congr_left fun i _ => ?_
    show D.str (so ([46] ++ [68 + (at6 (ivs (cvD (cs.getD i []))) 5).toNat] ++ eolN ((at6 (ivs (cvD (cs.getD i []))) 5).toNat % 3))) = _
    rw [ivs_cv, List.append_assoc]; rfl
  rw [em] at q18
  -- what is told
  have hsml := tr_sml six5 (tre cs)
  have hrl := rows_len (R := rw6 cs) (tre cs)
  rw [tls, List.length_range] at hsml hrl
  have z1 := hsml.len
  rw [hrl] at z1
  have hq1 := quoted_up hsml 0
  rw [up0, Nat.zero_add] at hq1
  have z2 := (hsml.up 1).len
  rw [List.length_map, hrl] at z2
  have htold := tre_told six six5
  have hrun := runB_tr tsep (fun i hi => by rw [tls] at hi; exact List.mem_range.mp hi) (by rw [tls, List.length_range]; omega) []
  have pg18 := (pg.up kp).up q18.kp
  refine st_assign (d := .lst ((List.range 6).map fun i => .tup [.int ((belo cs i : Int) + 2), .int (64 * (4 + (plc cs i : Int)) + 13)])) fr.fm q18 (.inl (fr.kind _ _ (by kernel_rfl))) (ev_def pg18 mTol (by kernel_rfl) eo (fr.kind _ _ (by kernel_rfl)) (gs_cons (ev_def pg18 mQuo (by kernel_rfl) eo (fr.kind _ _ (by kernel_rfl)) (gs_cons (ev_def pg18 mBui (by kernel_rfl) eo (fr.kind _ _ (by kernel_rfl)) (gs_cons (ev_name eo (q18.vd rfl)) (gs_cons (ev_name eo (q18.vd rfl)) gs_nil)) (fun h' vs fa pg' F' r' => bui (ao1.less (by omega)) pg' F' six5 hrun (by omega) r')) gs_nil) (fun h' vs fa pg' F' r' => quo (x := so (mailOf ((tre cs).rows (rw6 cs)))) ao1.d pg' F' (by show (List.toArray _).size ≤ _; rw [List.size_toArray]; omega) r')) gs_nil) (fun h' vs fa pg' F' r' => told (x := so (quoted (mailOf ((tre cs).rows (rw6 cs))))) (by have := ao1.hd; omega) ao1.hA pg' F' (by show (List.toArray _).size ≤ _; rw [List.size_toArray, hq1]; omega) htold r')) fun s19 q19 => ?_
  have pg19 := (pg.up kp).up q19.kp
  refine st_ret (d := .bool true) q19 (ev_cmp (ev_name eo (q19.vd rfl)) (Gv.cast (ev_compn (x := Str.ofString "i") (items := (List.range 6).map fun i => D.int (i : Nat)) (fun d => .tup [.int ((belo cs (iOf d).toNat : Int) + 2), .int (64 * (4 + (plc cs (iOf d).toNat : Int)) + 13)]) [(Str.ofString "below", .lst ((List.range 6).map fun i => .int (belo cs i : Nat))), (Str.ofString "curves", .lst (cs.map cvD))] ao1.hA eo (fv_two (q19.vd rfl) (kc (fr.kind _ _ (by kernel_rfl))) (q19.vd rfl) (kc (fr.kind _ _ (by kernel_rfl)))) (gi_range1 eo (fr.kind _ _ (by kernel_rfl)) pg19.gl (pg19.free (by kernel_rfl)) (pg19.bl boot_range) ev_int (by decide) (by decide)) (by rw [hsl]; decide) (.inl (by kernel_rfl)) rfl (fun cenv h' X' d hd eo' kn kp' hx hfv => ?_) (fc (by rfl)) (ff (by rfl))) (by rw [List.map_map]; rfl)) (eq_same (lay_lst (k := 1) fun d hd => ?_) (ao1.c (by omega)))) fun v s2 k2 r2 => ⟨v, rfl, r2, (q19.rest.kps q19.kp).tr k2⟩
  · obtain ⟨i, hi, rfl⟩ := List.mem_map.mp hd
    have hi : i < 6 := List.mem_range.mp hi
    have b5 := (six.at hi).b 5 (by decide)
    have e5 : (plc cs i : Int) = at6 (cs.getD i []) 5 := by unfold plc; omega
    show Gv prog w (A.deeper env) h' X' _ (.tup [.int ((belo cs i : Int) + 2), .int (64 * (4 + (plc cs i : Int)) + 13)])
    rw [e5]
    exact ev_tuple (gs_cons (ev_bin (ev_item (ev_name eo' (hfv _ _ rfl)) (ev_name eo' hx) (gB hi)) ev_int add_ii) (gs_cons (ev_bin (ev_bin ev_int (ev_bin ev_int (ev_item (ev_item (ev_name eo' (hfv _ _ rfl)) (ev_name eo' hx) (gC hi)) ev_int (cv_get (six.at hi) (k := 5) (by decide))) add_ii) (mul_ii (mul_small (by decide) (by decide)))) ev_int add_ii) gs_nil)) sz2
  · obtain ⟨i, hi, rfl⟩ := List.mem_map.mp hd
    refine lay_tup (k := 0) fun d hd => ?_
    rcases List.mem_cons.mp hd with rfl | hd
    · exact lay_int
    · rw [List.mem_singleton.mp hd]; exact lay_int
end
end Mine
end
open PySem PySem.W PyProof.Rows
namespace Mine
theorem callerOk : AOk callerA 9 := ⟨by decide +kernel, rfl, by decide +kernel⟩
theorem post_ok (ns : List Int) : PySem.Challenge.rw_rs0074_01.row.claim.post [ofPy (PyData.list (ns.map PyData.int))] (.bool true) [ofPy (PyData.list (ns.map PyData.int))] = true := by wrow_post
theorem none_raised (args : List WData) (cls : ExcName) : PySem.Challenge.rw_rs0074_01.row.claim.raises args cls = false := raisesW_false allW_false_nil cls
noncomputable abbrev rowL : OpenRow := PySem.Challenge.rw_rs0074_01.row
theorem okL : (chainsOk VP && opensWell rowL.prog && (frees rowL.toRowW && rowL.within.isEmpty)) = true := by decide +kernel
theorem defL : defOf VP rowL.name = some (dLaw, []) := by kernel_rfl
theorem theL : rowL.prog.theDef rowL.name = some (dLaw.params, dLaw.body, dLaw.scope) := by kernel_rfl
theorem kwL : kwWritten? dLaw.params.kwonlyargs dLaw.params.kw_defaults = some [] := by kernel_rfl
theorem bareL : rowL.prog.bare := ⟨rfl, rfl, rfl, rfl, rfl, by decide +kernel⟩
theorem promL : PySem.Challenge.rw_rs0074_01.row.toRowW.promised := by w_witness2
theorem said0 : PySem.W.Fast.tw9446332074065402090 PySem.Challenge.rw_rs0074_01 = true := by kernel_rfl
theorem said : PySem.Challenge.rw_rs0074_01.wellSaid = true := (congrFun PySem.W.Fast.te9446332074065402090 _).trans said0
theorem ints_of {h : Heap} : ∀ {vs : List Value} {ns : List Int}, IntsAre vs ns → Rds [] h vs (ns.map .int)
  | _, _, .nil => trivial
  | _, _, .cons _ t r => ⟨⟨t, rfl⟩, ints_of r⟩
theorem well_list {P : Params} {h : Heap} {a : Addr} {d : WData} {xs : List WData} (x : Well P h (.ref a) d) (e : d = .list xs) : ∃ vs, h.get? a = some (LO vs 0) := by
  subst e
  cases x
  exact ⟨_, by assumption⟩
theorem lo_of {P : Params} {h : Heap} {a : Addr} {d : WData} {xs : List WData} {vs : List Value} (x : Well P h (.ref a) d) (e : d = .list xs) (hl : h.IsList a vs.toArray) : h.get? a = some (LO vs 0) := by
  obtain ⟨us, hu⟩ := well_list x e
  obtain ⟨o, ho, hc, n, hd⟩ := hl
  rw [hu] at ho
  cases ho
  have hd : Data.seq us.toArray 0 = Data.seq vs.toArray n := hd
  injection hd with e1 e2
  have : us = vs := by have := congrArg Array.toList e1; simpa using this
  rw [this] at hu; exact hu
theorem core {p : Program} {w : World} {mg mb : Str → Option Value} {s : Shared} {fa l : Addr} {vs : List Value} {ns : List Int} (pg : Pg w mg mb s.heap) (F : FnAt s.heap mg dLaw.name dLaw.params dLaw.body dLaw.scope fa) (hl : s.heap.get? l = some (LO vs 0)) (hi : IntsAre vs ns) (hn : ns.length ≤ 63)
    (Q : Value → Shared → Prop) (E : Value → Shared → Prop) (hQ : ∀ h' tk, (∀ b o, s.heap.get? b = some o → h'.get? b = some o) → Q (.bool true) { s with heap := h', toks := tk }) : wpAny (model p w) callerA (call (.ref fa) [.ref l]) Q E s :=
  law1 callerOk pg F hn (vs := [.ref l]) ⟨⟨l, vs, 0, rfl, List.not_mem_nil, hl, ints_of hi⟩, trivial⟩ XOk.nil s _ _ Kp.refl fun v s' k r => by
    have hv : v = .bool true := r
    obtain ⟨h', tk, rfl, hk⟩ := k.to
    rw [hv]
    exact hQ h' tk hk
end Mine
set_option maxHeartbeats 8000000 in
theorem PySem.Challenge.cw_rs0074_01_holds : PySem.Challenge.rw_rs0074_01.Holds := by
  w_on
  refine PySem.W.holds_law Mine.said fun sd => ?_
  refine PySem.W.holds_open (q := Mine.VP) (loose := Mine.loose) (Xt := Mine.Xt) (XP := fun mg h => ∀ p ∈ Mine.gtab, mg p.1 = p.2) (Yf := fun s => Mine.KA.map fun a => s.heap.get? a) (Ya := fun w => (Mine.KP w.params).map fun p : Addr × Obj => some p.2) (YP := fun w h => (Mine.KP w.params).In h) (N := 2000) (d := Mine.dLaw) (kwd := []) ?hl (fun w s e => Mine.Frag.in_of e) (fun w h h' x k => Frag.In.keeps x k)
    (fun s e p hp => of_decide_eq_true (List.all_eq_true.mp e p hp)) (fun mg h h' x k => x) ?hdef ?hp ?hk (fun s e => recFacts_nil rfl) (by rfl) sd Mine.okL Mine.bareL Mine.promL ?hc
  case hl => exact Mine.hd_left
  case hdef => exact Mine.defL
  case hp => exact Mine.theL
  case hk => exact Mine.kwL
  intro w s₀ s₁ mg mb G Y fa o pm cd doc dV kV ho hd hcd hD hmg hg args vals as hpre hlay hrd hwl hlo
  have T := G.T
  have X := G.X
  have pg : Mine.Pg w mg mb s₁.heap := ⟨⟨_, _, T⟩, Y, X⟩
  wrow_args hpre hlay hrd hwl hlo
  rename_i ns _ _ _ _ _ _ _ l vs _ hL _ _ _ hI _ hcond _
  obtain ⟨fa', F⟩ := pg.fn Mine.mLaw
  have hfa : fa' = fa := (Value.ref.inj (Option.some.inj (hmg.symm.trans F.glob))).symm
  subst hfa
  have hlo := Mine.lo_of (by assumption) (show ofPy (PyData.list (List.map PyData.int ns)) = .list _ from rfl) hL
  refine Mine.core pg F hlo hI (by omega) _ _ fun h' tk hk => GoodW.toG ⟨.inl ⟨.bool true, .bool true, [], rfl, Mine.none_raised _, .bool true, Mine.post_ok ns, fun _ => ⟨List.nodup_nil, fun a ha => nomatch ha⟩⟩, hk, rfl, hg⟩
