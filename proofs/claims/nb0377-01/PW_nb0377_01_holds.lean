import PyProof.Rows.All
import Wide.All
import OpenK.AllK
import Wide.FinOn
import PySem.Challenge.RW_nb0377_01
set_option Elab.async false

section
open PySem PySem.W PyProof.Rows
namespace Mine

/-- a ghost part of a heap -/
abbrev Gh := Addr → Option Obj

def Kp (Z Z' : Gh) : Prop := ∀ b o, Z b = some o → Z' b = some o
theorem Kp.rf {Z : Gh} : Kp Z Z := fun _ _ e => e
theorem Kp.tr {Z Z' Z'' : Gh} (a : Kp Z Z') (b : Kp Z' Z'') : Kp Z Z'' := fun x o e => b x o (a x o e)

def put (Z : Gh) (a : Addr) (o : Obj) : Gh := fun b => if b = a then some o else Z b
def del (Z : Gh) (a : Addr) : Gh := fun b => if b = a then none else Z b
theorem put_at {Z : Gh} {a : Addr} {o : Obj} : put Z a o a = some o := by simp [put]
theorem put_ne {Z : Gh} {a b : Addr} {o : Obj} (h : b ≠ a) : put Z a o b = Z b := by simp [put, h]
theorem del_at {Z : Gh} {a : Addr} : del Z a a = none := by simp [del]
theorem del_ne {Z : Gh} {a b : Addr} (h : b ≠ a) : del Z a b = Z b := by simp [del, h]
theorem kp_put {Z : Gh} {a : Addr} {o : Obj} (h : Z a = none) : Kp Z (put Z a o) := fun b o' e => by
  by_cases hb : b = a
  · subst hb; rw [h] at e; cases e
  · rw [put_ne hb]; exact e
theorem kp_del {Z : Gh} {a : Addr} : Kp (del Z a) Z := fun b o' e => by
  by_cases hb : b = a
  · subst hb; rw [del_at] at e; cases e
  · rw [del_ne hb] at e; exact e
theorem kp_to_del {Z Z' : Gh} {a : Addr} (k : Kp Z Z') (h : Z a = none) : Kp Z (del Z' a) := fun b o' e => by
  by_cases hb : b = a
  · subst hb; rw [h] at e; cases e
  · rw [del_ne hb]; exact k _ _ e

/-- all stays, but the slots of the frames S -/
def KpF (S : List Addr) (h h' : Heap) : Prop := ∀ b o, h.get? b = some o → (b ∉ S → h'.get? b = some o) ∧ (b ∈ S → ∃ sl, h'.get? b = some { o with slots := sl })
theorem KpF.of {S : List Addr} {h h' : Heap} (k : Kp h.get? h'.get?) : KpF S h h' := fun b o e => ⟨fun _ => k b o e, fun _ => ⟨o.slots, k b o e⟩⟩
theorem KpF.tr {S : List Addr} {h h' h'' : Heap} (a : KpF S h h') (b : KpF S h' h'') : KpF S h h'' := fun x o e => by
  refine ⟨fun hx => (b x o ((a x o e).1 hx)).1 hx, fun hx => ?_⟩
  obtain ⟨sl, e1⟩ := (a x o e).2 hx
  exact (b x _ e1).2 hx
theorem KpF.nil {h h' : Heap} (k : KpF [] h h') : Kp h.get? h'.get? := fun b o e => (k b o e).1 (by simp)
theorem KpF.any {S : List Addr} {h h' : Heap} (k : KpF S h h') {b : Addr} {o : Obj} (e : h.get? b = some o) : ∃ o', h'.get? b = some o' ∧ o'.cls = o.cls ∧ o'.data = o.data ∧ o'.dict = o.dict := by
  by_cases hb : b ∈ S
  · obtain ⟨sl, e1⟩ := (k b o e).2 hb
    exact ⟨_, e1, rfl, rfl, rfl⟩
  · exact ⟨o, (k b o e).1 hb, rfl, rfl, rfl⟩
theorem KpF.ns {S : List Addr} {h h' : Heap} (k : KpF S h h') {a : Addr} {m : Str → Option Value} (n : h.Ns a m) : h'.Ns a m := by
  obtain ⟨o, es, ep, e, d, r⟩ := n
  obtain ⟨o', e', _, d', _⟩ := k.any e
  exact ⟨o', es, ep, e', d'.trans d, r⟩
theorem KpF.noLimit {S : List Addr} {h h' : Heap} (k : KpF S h h') (n : h.NoLimit) : h'.NoLimit := by
  obtain ⟨m, a, b⟩ := n
  exact ⟨m, k.ns a, b⟩
theorem KpF.codeRec {S : List Addr} {h h' : Heap} (k : KpF S h h') {cd : Value} {q : Str} (n : h.CodeRec cd q) : h'.CodeRec cd q := by
  obtain ⟨c, oc, vs, t, e1, e2, e3, e4⟩ := n
  obtain ⟨o', e', _, d', _⟩ := k.any e2
  exact ⟨c, o', vs, t, e1, e', d'.trans e3, e4⟩

/-- pure growth: all that was stays, and the ghost part grows by new objects alone -/
structure Ext (h : Heap) (Z : Gh) (h' : Heap) (Z' : Gh) : Prop where
  hp : Kp h.get? h'.get?
  zz : Kp Z Z'
  zh : Kp Z' h'.get?
  old : ∀ b o, h.get? b = some o → Z' b = Z b
theorem Ext.rf {h : Heap} {Z : Gh} (k : Kp Z h.get?) : Ext h Z h Z := ⟨.rf, .rf, k, fun _ _ _ => rfl⟩
theorem Ext.tr {h h' h'' : Heap} {Z Z' Z'' : Gh} (a : Ext h Z h' Z') (b : Ext h' Z' h'' Z'') : Ext h Z h'' Z'' :=
  ⟨a.hp.tr b.hp, a.zz.tr b.zz, b.zh, fun x o e => (b.old x o (a.hp x o e)).trans (a.old x o e)⟩
/-- the ghost part may stay as it was -/
theorem Ext.still {h h' : Heap} {Z Z' Y : Gh} (a : Ext h Z h' Z') (k : Kp Y h.get?) : Ext h Y h' Y := ⟨a.hp, .rf, k.tr a.hp, fun _ _ _ => rfl⟩
theorem Ext.keeps {h h' : Heap} {Z : Gh} (k : Kp Z h.get?) (a : Kp h.get? h'.get?) : Ext h Z h' Z := ⟨a, .rf, k.tr a, fun _ _ _ => rfl⟩
theorem Ext.push {h : Heap} {Z : Gh} (k : Kp Z h.get?) (o : Obj) (hf : o.isFreed = false) : Ext h Z (h.push o) (put Z h.objs.size o) := by
  have hz : Z h.objs.size = none := by
    cases e : Z h.objs.size with
    | none => rfl
    | some o' => exact absurd (Heap.lt_size (k _ _ e)) (Nat.lt_irrefl _)
  refine ⟨fun b o' e => Heap.get?_push_of_some _ e, kp_put hz, fun b o' e => ?_, fun b o' e => put_ne (Nat.ne_of_lt (Heap.lt_size e))⟩
  by_cases hb : b = h.objs.size
  · subst hb; rw [put_at] at e; cases e; exact Heap.get?_push_size _ hf
  · rw [put_ne hb] at e; exact Heap.get?_push_of_some _ (k _ _ e)

def Post (s : Shared) (Z : Gh) (P : Gh → Prop) (s' : Shared) : Prop := ∃ h' tk Z', s' = { s with heap := h', toks := tk } ∧ Ext s.heap Z h' Z' ∧ P Z'

/-- the tree t, from any state that keeps H and Z, ends with a value that has P; it changes nothing that was -/
def Run {α : Type} (prog : Program) (w : World) (A : Around) (t : Sem α) (H : Heap) (Z : Gh) (P : Gh → α → Prop) : Prop :=
  ∀ (s : Shared) (Z' : Gh), Kp H.get? s.heap.get? → Kp Z Z' → Kp Z' s.heap.get? →
    wpAny (model prog w) A t (fun v s' => Post s Z' (fun Z'' => P Z'' v) s') (fun _ _ => False) s

section
variable {α β : Type} {prog : Program} {w : World} {A : Around} {H : Heap} {Z : Gh}

theorem Run.bind {t : Sem α} {f : α → Sem β} {P : Gh → α → Prop} {R : Gh → β → Prop} (h : Run prog w A t H Z P)
    (k : ∀ v H' Z', Kp H.get? H'.get? → Kp Z Z' → Kp Z' H'.get? → P Z' v → Run prog w A (f v) H' Z' R) : Run prog w A (t >>= f) H Z R := by
  intro s Z1 k1 k2 k3
  refine wpAny_bind (wpAny_mono (h s Z1 k1 k2 k3) (fun v s' hp => ?_) fun _ _ x => x.elim)
  obtain ⟨h', tk, Z', rfl, ex, hp⟩ := hp
  refine wpAny_mono (k v h' Z' (k1.tr ex.hp) (k2.tr ex.zz) ex.zh hp _ Z' .rf .rf ex.zh) (fun v' s'' q => ?_) fun _ _ x => x
  obtain ⟨h'', tk', Z'', rfl, ex', q⟩ := q
  exact ⟨h'', tk', Z'', rfl, ex.tr ex', q⟩

theorem Run.conseq {t : Sem α} {P R : Gh → α → Prop} (h : Run prog w A t H Z P) (k : ∀ Z' v, Kp Z Z' → P Z' v → R Z' v) : Run prog w A t H Z R := by
  intro s Z1 k1 k2 k3
  refine wpAny_mono (h s Z1 k1 k2 k3) (fun v s' hp => ?_) fun _ _ x => x
  obtain ⟨h', tk, Z', rfl, ex, hp⟩ := hp
  exact ⟨h', tk, Z', rfl, ex, k _ _ (k2.tr ex.zz) hp⟩

theorem Run.mono {t : Sem α} {P : Gh → α → Prop} {H' : Heap} {Z' : Gh} (h : Run prog w A t H Z P) (kh : Kp H.get? H'.get?) (kz : Kp Z Z') : Run prog w A t H' Z' P :=
  fun s Z1 k1 k2 k3 => h s Z1 (kh.tr k1) (kz.tr k2) k3

theorem Run.pure {v : α} {P : Gh → α → Prop} (h : ∀ Z', Kp Z Z' → P Z' v) : Run prog w A (Pure.pure v) H Z P :=
  fun s Z1 _ k2 k3 => wpAny_pure ⟨s.heap, s.toks, Z1, rfl, .rf k3, h _ k2⟩

/-- a step that leaves the state as it is -/
theorem Run.same {t : Sem α} {v : α} {P : Gh → α → Prop} (h : ∀ (s : Shared) (Q : α → Shared → Prop) (E : Value → Shared → Prop), Kp H.get? s.heap.get? → Q v s → wpAny (model prog w) A t Q E s)
    (hp : ∀ Z', Kp Z Z' → P Z' v) : Run prog w A t H Z P :=
  fun s Z1 k1 k2 k3 => h s _ _ k1 ⟨s.heap, s.toks, Z1, rfl, .rf k3, hp _ k2⟩

/-- a step that takes tokens alone -/
theorem Run.toks {t : Sem α} {P : Gh → α → Prop} (h : ∀ (s : Shared) (Q : α → Shared → Prop) (E : Value → Shared → Prop), Kp H.get? s.heap.get? → (∀ v tk, (∀ Z', Kp Z Z' → P Z' v) → Q v { s with toks := tk }) → wpAny (model prog w) A t Q E s) : Run prog w A t H Z P :=
  fun s Z1 k1 k2 k3 => h s _ _ k1 fun _ tk hp => ⟨s.heap, tk, Z1, rfl, .rf k3, hp _ k2⟩

/-- the value does not hang on the ghost part: another may be taken -/
theorem Run.scalar {t : Sem α} {P : α → Prop} {Y : Gh} (h : Run prog w A t H H.get? (fun _ v => P v)) : Run prog w A t H Y (fun _ v => P v) := by
  intro s Z1 k1 k2 k3
  refine wpAny_mono (h s s.heap.get? k1 k1 .rf) (fun v s' hp => ?_) fun _ _ x => x
  obtain ⟨h', tk, Z', rfl, ex, hp⟩ := hp
  exact ⟨h', tk, Z1, rfl, .keeps k3 ex.hp, hp⟩

theorem Run.use {t : Sem α} {P : Gh → α → Prop} {s : Shared} {Q : α → Shared → Prop} {E : Value → Shared → Prop} (h : Run prog w A t s.heap Z P) (kz : Kp Z s.heap.get?)
    (k : ∀ v h' tk Z', Ext s.heap Z h' Z' → P Z' v → Q v { s with heap := h', toks := tk }) : wpAny (model prog w) A t Q E s := by
  refine wpAny_mono (h s Z .rf .rf kz) (fun v s' hp => ?_) fun _ _ x => x.elim
  obtain ⟨h', tk, Z', rfl, ex, hp⟩ := hp
  exact k v h' tk Z' ex hp
end

/-- a list, a tuple of a ghost part -/
def IsL (Z : Gh) (a : Addr) (vs : List Value) : Prop := ∃ o, Z a = some o ∧ o.cls = .type "list" ∧ ∃ n, o.data = .seq vs.toArray n
def IsT (Z : Gh) (a : Addr) (vs : List Value) : Prop := ∃ o, Z a = some o ∧ o.cls = .type "tuple" ∧ ∃ n, o.data = .seq vs.toArray n
theorem IsL.mono {Z Z' : Gh} {a : Addr} {vs : List Value} (h : IsL Z a vs) (k : Kp Z Z') : IsL Z' a vs := let ⟨o, e, r⟩ := h; ⟨o, k _ _ e, r⟩
theorem IsT.mono {Z Z' : Gh} {a : Addr} {vs : List Value} (h : IsT Z a vs) (k : Kp Z Z') : IsT Z' a vs := let ⟨o, e, r⟩ := h; ⟨o, k _ _ e, r⟩
theorem IsL.isList {h : Heap} {a : Addr} {vs : List Value} (x : IsL h.get? a vs) : h.IsList a vs.toArray := x
theorem IsT.isTuple {h : Heap} {a : Addr} {vs : List Value} (x : IsT h.get? a vs) : h.IsTuple a vs.toArray := x

mutual
inductive Rd (Z : Gh) : Value → PyData → Prop
  | none : Rd Z .none .none
  | bool (b : Bool) : Rd Z (.bool b) (.bool b)
  | int (i : Int) (t : Tok) : Rd Z (.int i t) (.int i)
  | str (x : Str) (t : Tok) : Rd Z (.str x t) (.str x)
  | list {a : Addr} {vs : List Value} {ds : List PyData} : IsL Z a vs → RdAll Z vs ds → Rd Z (.ref a) (.list ds)
  | tuple {a : Addr} {vs : List Value} {ds : List PyData} : IsT Z a vs → RdAll Z vs ds → Rd Z (.ref a) (.tuple ds)
inductive RdAll (Z : Gh) : List Value → List PyData → Prop
  | nil : RdAll Z [] []
  | cons {v : Value} {vs : List Value} {d : PyData} {ds : List PyData} : Rd Z v d → RdAll Z vs ds → RdAll Z (v :: vs) (d :: ds)
end
mutual
theorem Rd.mono {Z Z' : Gh} (k : Kp Z Z') : ∀ {v : Value} {d : PyData}, Rd Z v d → Rd Z' v d
  | _, _, .none => .none
  | _, _, .bool b => .bool b
  | _, _, .int i t => .int i t
  | _, _, .str x t => .str x t
  | _, _, .list h r => .list (h.mono k) (RdAll.mono k r)
  | _, _, .tuple h r => .tuple (h.mono k) (RdAll.mono k r)
theorem RdAll.mono {Z Z' : Gh} (k : Kp Z Z') : ∀ {vs : List Value} {ds : List PyData}, RdAll Z vs ds → RdAll Z' vs ds
  | _, _, .nil => .nil
  | _, _, .cons h r => .cons (Rd.mono k h) (RdAll.mono k r)
end
mutual
theorem Rd.reads {Z : Gh} {h : Heap} (k : Kp Z h.get?) : ∀ {v : Value} {d : PyData}, Rd Z v d → ∃ as, Reads h v d as
  | _, _, .none => ⟨_, .none⟩
  | _, _, .bool b => ⟨_, .bool b⟩
  | _, _, .int i t => ⟨_, .int i t⟩
  | _, _, .str x t => ⟨_, .str x t⟩
  | _, _, .list ⟨_, e, c, _, d⟩ r => by
    obtain ⟨as, q⟩ := RdAll.reads k r
    exact ⟨_, .list (k _ _ e) c d (by simpa using q)⟩
  | _, _, .tuple ⟨_, e, c, _, d⟩ r => by
    obtain ⟨as, q⟩ := RdAll.reads k r
    exact ⟨_, .tuple (k _ _ e) c d (by simpa using q)⟩
theorem RdAll.reads {Z : Gh} {h : Heap} (k : Kp Z h.get?) : ∀ {vs : List Value} {ds : List PyData}, RdAll Z vs ds → ∃ as, ReadsAll h vs ds as
  | _, _, .nil => ⟨_, .nil⟩
  | _, _, .cons a r => by
    obtain ⟨as, q⟩ := Rd.reads k a
    obtain ⟨bs, p⟩ := RdAll.reads k r
    exact ⟨_, .cons q p⟩
end
section
variable {Z : Gh} {vs ws : List Value} {ds es : List PyData} {v : Value} {d : PyData}
theorem RdAll.length (h : RdAll Z vs ds) : vs.length = ds.length := by
  induction vs generalizing ds with
  | nil => cases h; rfl
  | cons v vs ih =>
    cases h with
    | cons _ r => simp [ih r]
theorem RdAll.append (h : RdAll Z vs ds) (k : RdAll Z ws es) : RdAll Z (vs ++ ws) (ds ++ es) := by
  induction vs generalizing ds with
  | nil => cases h; exact k
  | cons v vs ih =>
    cases h with
    | cons h r => exact .cons h (ih r)
theorem RdAll.one (h : Rd Z v d) : RdAll Z [v] [d] := .cons h .nil
theorem RdAll.get (h : RdAll Z vs ds) {k : Nat} {v : Value} (hk : vs[k]? = some v) : ∃ d, ds[k]? = some d ∧ Rd Z v d := by
  induction vs generalizing ds k with
  | nil => simp at hk
  | cons u vs ih =>
    cases h with
    | cons h r =>
      cases k with
      | zero => simp at hk; subst hk; exact ⟨_, rfl, h⟩
      | succ k => simpa using ih r (by simpa using hk)
theorem RdAll.get' (h : RdAll Z vs ds) {k : Nat} {d : PyData} (hk : ds[k]? = some d) : ∃ v, vs[k]? = some v ∧ Rd Z v d := by
  induction vs generalizing ds k with
  | nil => cases h; simp at hk
  | cons u vs ih =>
    cases h with
    | cons h r =>
      cases k with
      | zero => simp at hk; subst hk; exact ⟨_, rfl, h⟩
      | succ k => simpa using ih r (by simpa using hk)
theorem RdAll.of_get (hl : vs.length = ds.length) (h : ∀ (k : Nat) (v : Value) (d : PyData), vs[k]? = some v → ds[k]? = some d → Rd Z v d) : RdAll Z vs ds := by
  induction vs generalizing ds with
  | nil => cases ds with
    | nil => exact .nil
    | cons _ _ => simp at hl
  | cons u vs ih =>
    cases ds with
    | nil => simp at hl
    | cons d ds => exact .cons (h 0 _ _ rfl rfl) (ih (by simpa using hl) fun k v d a b => h (k + 1) v d (by simpa using a) (by simpa using b))
theorem RdAll.drop (h : RdAll Z vs ds) (k : Nat) : RdAll Z (vs.drop k) (ds.drop k) := by
  induction vs generalizing ds k with
  | nil => cases h; simpa using RdAll.nil
  | cons v vs ih =>
    cases h with
    | cons h r =>
      cases k with
      | zero => exact .cons h r
      | succ k => exact ih r k
theorem RdAll.take (h : RdAll Z vs ds) (k : Nat) : RdAll Z (vs.take k) (ds.take k) := by
  induction vs generalizing ds k with
  | nil => cases h; simpa using RdAll.nil
  | cons v vs ih =>
    cases h with
    | cons h r =>
      cases k with
      | zero => exact .nil
      | succ k => exact .cons h (ih r k)
theorem RdAll.reverse (h : RdAll Z vs ds) : RdAll Z vs.reverse ds.reverse := by
  induction vs generalizing ds with
  | nil => cases h; exact .nil
  | cons v vs ih =>
    cases h with
    | cons h r => simpa using (ih r).append (.one h)
theorem RdAll.eraseIdx (h : RdAll Z vs ds) (k : Nat) : RdAll Z (vs.eraseIdx k) (ds.eraseIdx k) := by
  induction vs generalizing ds k with
  | nil => cases h; simpa using RdAll.nil
  | cons v vs ih =>
    cases h with
    | cons h r =>
      cases k with
      | zero => simpa using r
      | succ k => simpa using RdAll.cons h (ih r k)
end

/-- a name's value, in every heap that keeps H -/
def Nm (env : Env) (H : Heap) (x : Str) (v : Value) : Prop :=
  ∀ (M : Model) (A : Around) (Q : Value → Shared → Prop) (E : Value → Shared → Prop) (s : Shared) (pos : Pos), Kp H.get? s.heap.get? → Q v s → wpAny M A (eval (.Name x pos) env) Q E s
theorem Nm.mono {env : Env} {H H' : Heap} {x : Str} {v : Value} (h : Nm env H x v) (k : Kp H.get? H'.get?) : Nm env H' x v :=
  fun M A Q E s pos k' q => h M A Q E s pos (k.tr k') q
theorem Nm.loc {env : Env} {H : Heap} {x : Str} {v : Value} {m : Str → Option Value} (hn : H.Ns env.locals m) (hv : m x = some v) (hk : env.scope.kind = .function := by rfl)
    (hl : env.kindOf x = some .local := by rfl) (hd : (x == ("__debug__" : Str)) = false := by decide) : Nm env H x v :=
  fun _ _ _ _ _ _ k q => wpAny_Name (wpAny_loadName_local hk hl (hn.keeps k) hv q) hd
theorem Nm.cell {env : Env} {H : Heap} {x : Str} {v : Value} {c : Addr} (hc : env.cells.lookup x = some c) (h : H.IsCell c (some v)) (hk : env.scope.kind = .function := by rfl)
    (hx : env.kindOf x = some .cell := by rfl) (hd : (x == ("__debug__" : Str)) = false := by decide) : Nm env H x v :=
  fun _ _ _ _ _ _ k q => wpAny_Name (wpAny_loadName_cell hk hx hc (h.keeps k) q) hd
theorem Nm.free {env : Env} {H : Heap} {x : Str} {v : Value} {c : Addr} (hc : env.cells.lookup x = some c) (h : H.IsCell c (some v)) (hk : env.scope.kind = .function := by rfl)
    (hx : env.kindOf x = some .free := by rfl) (hd : (x == ("__debug__" : Str)) = false := by decide) (hn : (x == ("__classdict__" : Str)) = false := by decide) : Nm env H x v :=
  fun _ _ _ _ _ _ k q => wpAny_Name (wpAny_loadName_free hk hx hc (h.keeps k) q hn) hd
end Mine
end

section
open PySem PySem.W PyProof.Rows
namespace Mine

section
variable {α β : Type} {prog : Program} {w : World} {A : Around} {H : Heap} {Z : Gh} {env : Env}

theorem Run.cps {t : Sem α} {P : Gh → α → Prop} {s : Shared} {Z1 : Gh} {Q : α → Shared → Prop} {E : Value → Shared → Prop} (h : Run prog w A t H Z P)
    (k1 : Kp H.get? s.heap.get?) (k2 : Kp Z Z1) (k3 : Kp Z1 s.heap.get?)
    (k : ∀ v h' tk Z2, Ext s.heap Z1 h' Z2 → P Z2 v → Q v { s with heap := h', toks := tk }) : wpAny (model prog w) A t Q E s := by
  refine wpAny_mono (h s Z1 k1 k2 k3) (fun v s' hp => ?_) fun _ _ x => x.elim
  obtain ⟨h', tk, Z', rfl, ex, hp⟩ := hp
  exact k v h' tk Z' ex hp
/-- the end of a run behind a growth -/
theorem Post.after {s : Shared} {Z1 Z2 : Gh} {h' : Heap} {tk : Nat} {P : Gh → Prop} {s' : Shared} (ex : Ext s.heap Z1 h' Z2) (p : Post { s with heap := h', toks := tk } Z2 P s') : Post s Z1 P s' := by
  obtain ⟨h'', tk', Z'', rfl, ex', q⟩ := p
  exact ⟨h'', tk', Z'', rfl, ex.tr ex', q⟩
/-- a run begun behind a growth -/
theorem Run.at {t : Sem α} {P : Gh → α → Prop} {s : Shared} {Z1 Z2 : Gh} {h' : Heap} {tk : Nat} (ex : Ext s.heap Z1 h' Z2) (h : Run prog w A t h' Z2 P) :
    wpAny (model prog w) A t (fun v s' => Post s Z1 (fun Z'' => P Z'' v) s') (fun _ _ => False) { s with heap := h', toks := tk } :=
  wpAny_mono (h _ Z2 .rf .rf ex.zh) (fun _ _ p => p.after ex) fun _ _ x => x

abbrev Mono (P : Gh → α → Prop) : Prop := ∀ Z Z' v, Kp Z Z' → P Z v → P Z' v
/-- the value bears d -/
abbrev Is (d : PyData) : Gh → Value → Prop := fun Z v => Rd Z v d
theorem mono_is (d : PyData) : Mono (Is d) := fun _ _ _ k h => h.mono k
theorem Rd.int_inv {v : Value} {i : Int} (h : Rd Z v (.int i)) : ∃ t, v = .int i t := by cases h; exact ⟨_, rfl⟩
theorem Rd.str_inv {v : Value} {x : Str} (h : Rd Z v (.str x)) : ∃ t, v = .str x t := by cases h; exact ⟨_, rfl⟩
theorem Rd.bool_inv {v : Value} {b : Bool} (h : Rd Z v (.bool b)) : v = .bool b := by cases h; rfl
theorem Rd.list_inv {v : Value} {ds : List PyData} (h : Rd Z v (.list ds)) : ∃ a vs, v = .ref a ∧ IsL Z a vs ∧ RdAll Z vs ds := by
  cases h with
  | list a b => exact ⟨_, _, rfl, a, b⟩
theorem Rd.tuple_inv {v : Value} {ds : List PyData} (h : Rd Z v (.tuple ds)) : ∃ a vs, v = .ref a ∧ IsT Z a vs ∧ RdAll Z vs ds := by
  cases h with
  | tuple a b => exact ⟨_, _, rfl, a, b⟩

-- names and constants
theorem ev_name {x : Str} {pos : Pos} {v : Value} {P : Gh → Value → Prop} (n : Nm env H x v) (h : ∀ Z', Kp Z Z' → P Z' v) : Run prog w A (eval (.Name x pos) env) H Z P :=
  Run.same (fun s _ _ k q => n _ _ _ _ s pos k q) h
theorem ev_name_is {x : Str} {pos : Pos} {v : Value} {d : PyData} (n : Nm env H x v) (h : Rd Z v d) : Run prog w A (eval (.Name x pos) env) H Z (Is d) :=
  ev_name n fun _ k => h.mono k
theorem ev_int {i : Int} {k : Nat} {pos : Pos} : Run prog w A (eval (.Constant (.int i) k pos) env) H Z (Is (.int i)) :=
  Run.toks fun _ _ _ _ q => wpAny_Constant_int (q _ _ fun _ _ => .int ..)
theorem ev_str {x : Str} {k : Nat} {pos : Pos} : Run prog w A (eval (.Constant (.str x) k pos) env) H Z (Is (.str x)) :=
  Run.toks fun _ _ _ _ q => wpAny_Constant_str (q _ _ fun _ _ => .str ..)
theorem ev_bool {b : Bool} {k : Nat} {pos : Pos} : Run prog w A (eval (.Constant (.bool b) k pos) env) H Z (Is (.bool b)) :=
  Run.same (fun _ _ _ _ q => wpAny_Constant_bool q) fun _ _ => .bool b

-- two operands
theorem ev_BinOp {l r : Expr} {op : Operator} {pos : Pos} {P1 P2 P : Gh → Value → Prop} (m1 : Mono P1) (hl : Run prog w A (eval l env) H Z P1) (hr : Run prog w A (eval r env) H Z P2)
    (ho : ∀ H' Z' a b, Kp H.get? H'.get? → Kp Z Z' → Kp Z' H'.get? → P1 Z' a → P2 Z' b → Run prog w A (binaryOp op a b) H' Z' P) : Run prog w A (eval (.BinOp l op r pos) env) H Z P := by
  intro s Z1 k1 k2 k3
  refine wpAny_BinOp (hl.cps k1 k2 k3 fun a h1 t1 Z2 e1 p1 => ?_)
  refine hr.cps (k1.tr e1.hp) (k2.tr e1.zz) e1.zh fun b h2 t2 Z3 e2 p2 => ?_
  exact Run.at (tk := t2) (e1.tr e2) (ho h2 Z3 a b (k1.tr (e1.hp.tr e2.hp)) (k2.tr (e1.zz.tr e2.zz)) e2.zh (m1 _ _ _ e2.zz p1) p2)
theorem ev_Compare {l r : Expr} {op : CmpOp} {pos : Pos} {P1 P2 P : Gh → Value → Prop} (m1 : Mono P1) (hl : Run prog w A (eval l env) H Z P1) (hr : Run prog w A (eval r env) H Z P2)
    (ho : ∀ H' Z' a b, Kp H.get? H'.get? → Kp Z Z' → Kp Z' H'.get? → P1 Z' a → P2 Z' b → Run prog w A (compareOp op a b) H' Z' P)
    (hm : behindInMarks op r = false := by with_unfolding_all rfl) : Run prog w A (eval (.Compare l [op] [r] pos) env) H Z P := by
  intro s Z1 k1 k2 k3
  refine wpAny_Compare1 (hl.cps k1 k2 k3 fun a h1 t1 Z2 e1 p1 => ?_) hm
  refine hr.cps (k1.tr e1.hp) (k2.tr e1.zz) e1.zh fun b h2 t2 Z3 e2 p2 => ?_
  exact Run.at (tk := t2) (e1.tr e2) (ho h2 Z3 a b (k1.tr (e1.hp.tr e2.hp)) (k2.tr (e1.zz.tr e2.zz)) e2.zh (m1 _ _ _ e2.zz p1) p2)

-- ints
theorem ev_add {l r : Expr} {pos : Pos} {a b : Int} (hl : Run prog w A (eval l env) H Z (Is (.int a))) (hr : Run prog w A (eval r env) H Z (Is (.int b))) :
    Run prog w A (eval (.BinOp l .Add r pos) env) H Z (Is (.int (a + b))) :=
  ev_BinOp (mono_is _) hl hr fun H' Z' x y _ _ _ p q => by
    obtain ⟨t, rfl⟩ := p.int_inv; obtain ⟨u, rfl⟩ := q.int_inv
    exact Run.toks fun _ _ _ _ k => add_int (k _ _ fun _ _ => .int ..)
theorem ev_sub {l r : Expr} {pos : Pos} {a b : Int} (hl : Run prog w A (eval l env) H Z (Is (.int a))) (hr : Run prog w A (eval r env) H Z (Is (.int b))) :
    Run prog w A (eval (.BinOp l .Sub r pos) env) H Z (Is (.int (a - b))) :=
  ev_BinOp (mono_is _) hl hr fun H' Z' x y _ _ _ p q => by
    obtain ⟨t, rfl⟩ := p.int_inv; obtain ⟨u, rfl⟩ := q.int_inv
    exact Run.toks fun _ _ _ _ k => sub_int (k _ _ fun _ _ => .int ..)
theorem ev_mod {l r : Expr} {pos : Pos} {a b : Int} (hb : b ≠ 0) (hl : Run prog w A (eval l env) H Z (Is (.int a))) (hr : Run prog w A (eval r env) H Z (Is (.int b))) :
    Run prog w A (eval (.BinOp l .Mod r pos) env) H Z (Is (.int (a.fmod b))) :=
  ev_BinOp (mono_is _) hl hr fun H' Z' x y _ _ _ p q => by
    obtain ⟨t, rfl⟩ := p.int_inv; obtain ⟨u, rfl⟩ := q.int_inv
    exact Run.toks fun _ _ _ _ k => mod_int hb (k _ _ fun _ _ => .int ..)

-- comparisons of data
theorem run_eq {a b : Value} {da db : PyData} (ra : Rd Z a da) (rb : Rd Z b db) (kz : Kp Z H.get?) (ha : SeqAt.shaped da = true) (hb : SeqAt.shaped db = true) (hu : A.units + 64 < cLine) :
    Run prog w A (compareOp .Eq a b) H Z (Is (.bool (PyData.eqv da db))) :=
  Run.same (fun s Q E k q => by
    obtain ⟨_, r1⟩ := ra.reads (h := s.heap) (kz.tr k)
    obtain ⟨_, r2⟩ := rb.reads (h := s.heap) (kz.tr k)
    exact eq_dataH r1 r2 ha hb hu q) fun _ _ => .bool _
theorem run_ne {a b : Value} {da db : PyData} (ra : Rd Z a da) (rb : Rd Z b db) (kz : Kp Z H.get?) (ha : SeqAt.shaped da = true) (hb : SeqAt.shaped db = true) (hu : A.units + 64 < cLine) :
    Run prog w A (compareOp .NotEq a b) H Z (Is (.bool (!PyData.eqv da db))) :=
  Run.same (fun s Q E k q => by
    obtain ⟨_, r1⟩ := ra.reads (h := s.heap) (kz.tr k)
    obtain ⟨_, r2⟩ := rb.reads (h := s.heap) (kz.tr k)
    exact ne_dataH r1 r2 ha hb hu q) fun _ _ => .bool _
theorem ev_eq {l r : Expr} {pos : Pos} {da db : PyData} (hl : Run prog w A (eval l env) H Z (Is da)) (hr : Run prog w A (eval r env) H Z (Is db))
    (ha : SeqAt.shaped da = true) (hb : SeqAt.shaped db = true) (hu : A.units + 64 < cLine) (hm : behindInMarks .Eq r = false := by with_unfolding_all rfl) :
    Run prog w A (eval (.Compare l [.Eq] [r] pos) env) H Z (Is (.bool (PyData.eqv da db))) :=
  ev_Compare (mono_is _) hl hr (fun _ _ _ _ _ _ kz p q => run_eq p q kz ha hb hu) hm
theorem ev_ne {l r : Expr} {pos : Pos} {da db : PyData} (hl : Run prog w A (eval l env) H Z (Is da)) (hr : Run prog w A (eval r env) H Z (Is db))
    (ha : SeqAt.shaped da = true) (hb : SeqAt.shaped db = true) (hu : A.units + 64 < cLine) (hm : behindInMarks .NotEq r = false := by with_unfolding_all rfl) :
    Run prog w A (eval (.Compare l [.NotEq] [r] pos) env) H Z (Is (.bool (!PyData.eqv da db))) :=
  ev_Compare (mono_is _) hl hr (fun _ _ _ _ _ _ kz p q => run_ne p q kz ha hb hu) hm
theorem ev_notIn {l r : Expr} {pos : Pos} {d : PyData} {xs : List PyData} (hl : Run prog w A (eval l env) H Z (Is d)) (hr : Run prog w A (eval r env) H Z (Is (.list xs)))
    (hxs : PyData.canLayAll0 xs = true) (hd : d.canLay0 = true) (hu : A.units + 1 + min (PyData.depthAll xs) d.depth < cLine) (hm : behindInMarks .NotIn r = false := by with_unfolding_all rfl) :
    Run prog w A (eval (.Compare l [.NotIn] [r] pos) env) H Z (Is (.bool (!xs.any fun y => PyData.eqv y d))) :=
  ev_Compare (mono_is _) hl hr (fun _ _ _ _ _ _ kz p q => Run.same (fun s Q E k qq => by
    obtain ⟨_, r1⟩ := p.reads (h := s.heap) (kz.tr k)
    obtain ⟨_, r2⟩ := q.reads (h := s.heap) (kz.tr k)
    exact SeqAt.notIn_list_reads r2 r1 hxs hd hu qq) fun _ _ => .bool _) hm

-- tests
def Tst (prog : Program) (w : World) (A : Around) (env : Env) (c : Expr) (H : Heap) (Z : Gh) (b : Bool) : Prop := Run prog w A (isTrue c env (eval c env)) H Z fun _ r => r = b
theorem tst_cmp {l r : Expr} {op : CmpOp} {pos : Pos} {b : Bool} (h : Run prog w A (eval (.Compare l [op] [r] pos) env) H Z (Is (.bool b))) : Tst prog w A env (.Compare l [op] [r] pos) H Z b := by
  have e : isTrue (.Compare l [op] [r] pos) env (eval (.Compare l [op] [r] pos) env) = (eval (.Compare l [op] [r] pos) env >>= fun c => holding [c] (truthy c)) := by
    rw [isTrue_Compare1, eval_Compare1]; simp only [bind_assoc]
  unfold Tst
  rw [e]
  refine h.bind fun v H' Z' _ _ _ p => ?_
  obtain rfl := p.bool_inv
  exact Run.same (fun _ _ _ _ q => wpAny_holding (wpAny_truthy_bool q)) fun _ _ => rfl
theorem tst_not {x : Expr} {pos : Pos} {b : Bool} (h : Tst prog w A env x H Z b) : Tst prog w A env (.UnaryOp .Not x pos) H Z (!b) :=
  fun _ _ k1 k2 k3 => wpAny_isTrue_Not (h.cps k1 k2 k3 fun _ h' tk Z' ex p => ⟨h', tk, Z', rfl, ex, by rw [p]⟩)
theorem tst_value {e : Expr} {b : Bool} (h : Run prog w A (eval e env) H Z (Is (.bool b)))
    (he : isTrue e env (eval e env) = (do let v ← eval e env; standAt e.pos; holding [v] (truthy v)) := by rfl) : Tst prog w A env e H Z b :=
  fun _ _ k1 k2 k3 => wpAny_isTrue_value (h.cps k1 k2 k3 fun v h' tk Z' ex p => by
    obtain rfl := p.bool_inv
    exact wpAny_truthy_bool ⟨h', tk, Z', rfl, ex, rfl⟩) he
theorem tst_and {x y : Expr} {pos : Pos} {b c : Bool} (hx : Tst prog w A env x H Z b) (hy : b = true → Tst prog w A env y H Z c) : Tst prog w A env (.BoolOp .And [x, y] pos) H Z (b && c) := by
  intro s Z1 k1 k2 k3
  refine wpAny_isTrue_BoolOp (wpAny_allTrue_And_cons (hx.cps k1 k2 k3 fun v h1 t1 Z2 e1 p1 => ?_))
  subst p1
  cases v with
  | false => exact ⟨h1, t1, Z2, rfl, e1, by simp⟩
  | true =>
    refine wpAny_allTrue_And_cons ((hy rfl).cps (k1.tr e1.hp) (k2.tr e1.zz) e1.zh fun v h2 t2 Z3 e2 p2 => ?_)
    subst p2
    cases v with
    | false => exact ⟨h2, t2, Z3, rfl, e1.tr e2, by simp⟩
    | true => exact wpAny_allTrue_And_nil ⟨h2, t2, Z3, rfl, e1.tr e2, by simp⟩
end
end Mine
end

section
open PySem PySem.W PyProof.Rows
namespace Mine
section
variable {prog : Program} {w : World} {A : Around} {H : Heap} {Z : Gh} {env : Env}

theorem none_of_new {H : Heap} {s : Shared} (k : Kp H.get? s.heap.get?) {a : Addr} (ha : s.heap.objs.size ≤ a) : H.get? a = none := by
  cases e : H.get? a with
  | none => rfl
  | some o => exact absurd (Heap.lt_size (k _ _ e)) (Nat.not_lt.mpr ha)
theorem gh_none_of_new {Z : Gh} {h : Heap} (k : Kp Z h.get?) {a : Addr} (ha : h.objs.size ≤ a) : Z a = none := by
  cases e : Z a with
  | none => rfl
  | some o => exact absurd (Heap.lt_size (k _ _ e)) (Nat.not_lt.mpr ha)
theorem heap_none_of_new {h : Heap} {a : Addr} (ha : h.objs.size ≤ a) : h.get? a = none := by
  cases e : h.get? a with
  | none => rfl
  | some o => exact absurd (Heap.lt_size e) (Nat.not_lt.mpr ha)

abbrev lst (vs : List Value) (n : Nat) : Obj := { cls := .type "list", data := .seq vs.toArray n }
abbrev tpl (vs : List Value) (n : Nat) : Obj := { cls := .type "tuple", data := .seq vs.toArray n }
/-- a new list: none of H's; what is said of its items stands without it -/
def NwL (H : Heap) (I : Gh → List Value → Prop) (Z : Gh) (v : Value) : Prop :=
  ∃ a vs n, v = .ref a ∧ H.get? a = none ∧ Z a = some (lst vs n) ∧ I (del Z a) vs
theorem NwL.weaken {H H' : Heap} {I : Gh → List Value → Prop} {v : Value} (k : Kp H.get? H'.get?) (h : NwL H' I Z v) : NwL H I Z v := by
  obtain ⟨a, vs, n, e, hn, hz, hi⟩ := h
  refine ⟨a, vs, n, e, ?_, hz, hi⟩
  cases q : H.get? a with
  | none => rfl
  | some o => rw [k _ _ q] at hn; cases hn
theorem NwL.imp {H : Heap} {I J : Gh → List Value → Prop} {v : Value} (k : ∀ Z vs, I Z vs → J Z vs) (h : NwL H I Z v) : NwL H J Z v := by
  obtain ⟨a, vs, n, e, hn, hz, hi⟩ := h
  exact ⟨a, vs, n, e, hn, hz, k _ _ hi⟩
abbrev Alls (ds : List PyData) : Gh → List Value → Prop := fun Z vs => RdAll Z vs ds
theorem mono_alls (ds : List PyData) : Mono (Alls ds) := fun _ _ _ k h => h.mono k
theorem NwL.is {H : Heap} {ds : List PyData} {v : Value} (h : NwL H (Alls ds) Z v) : Rd Z v (.list ds) := by
  obtain ⟨a, vs, n, rfl, _, hz, hi⟩ := h
  exact .list ⟨_, hz, rfl, n, rfl⟩ (hi.mono kp_del)

theorem Run.newL {t : Sem Value} {vs : List Value} {I : Gh → List Value → Prop}
    (ht : ∀ (s : Shared) (Q : Value → Shared → Prop) (E : Value → Shared → Prop), Kp H.get? s.heap.get? → (∀ (h' : Heap) (tk : Nat), Kp s.heap.get? h'.get? → Q (.ref h'.objs.size) { s with heap := h'.push (lst vs 0), toks := tk }) → wpAny (model prog w) A t Q E s)
    (mI : Mono I) (h : I Z vs) : Run prog w A t H Z (NwL H I) := by
  intro s Z1 k1 k2 k3
  refine ht s _ _ k1 fun h' tk k4 => ?_
  have e1 : Ext s.heap Z1 h' Z1 := .keeps k3 k4
  have e2 := Ext.push e1.zh (lst vs 0) rfl
  have hz : Z1 h'.objs.size = none := gh_none_of_new e1.zh (Nat.le_refl _)
  exact ⟨_, tk, _, rfl, e1.tr e2, _, vs, 0, rfl, none_of_new (s := { s with heap := h' }) (k1.tr k4) (Nat.le_refl _), put_at, mI _ _ _ (kp_to_del e2.zz hz) (mI _ _ _ k2 h)⟩
theorem run_newList {vs : List Value} {I : Gh → List Value → Prop} (mI : Mono I) (h : I Z vs) (hsz : vs.length ≤ sizeLine) : Run prog w A (newList vs) H Z (NwL H I) :=
  Run.newL (fun s _ _ _ q => wpAny_newList (q s.heap s.toks .rf) hsz) mI h

/-- a new tuple -/
def NwT (H : Heap) (I : Gh → List Value → Prop) (Z : Gh) (v : Value) : Prop :=
  ∃ a vs n, v = .ref a ∧ H.get? a = none ∧ Z a = some (tpl vs n) ∧ I (del Z a) vs
theorem NwT.is {H : Heap} {ds : List PyData} {v : Value} (h : NwT H (Alls ds) Z v) : Rd Z v (.tuple ds) := by
  obtain ⟨a, vs, n, rfl, _, hz, hi⟩ := h
  exact .tuple ⟨_, hz, rfl, n, rfl⟩ (hi.mono kp_del)
theorem NwT.weaken {H H' : Heap} {I : Gh → List Value → Prop} {v : Value} (k : Kp H.get? H'.get?) (h : NwT H' I Z v) : NwT H I Z v := by
  obtain ⟨a, vs, n, e, hn, hz, hi⟩ := h
  refine ⟨a, vs, n, e, ?_, hz, hi⟩
  cases q : H.get? a with
  | none => rfl
  | some o => rw [k _ _ q] at hn; cases hn
theorem Run.newT {t : Sem Value} {vs : List Value} {I : Gh → List Value → Prop}
    (ht : ∀ (s : Shared) (Q : Value → Shared → Prop) (E : Value → Shared → Prop), Kp H.get? s.heap.get? → (∀ (h' : Heap) (tk : Nat), Kp s.heap.get? h'.get? → Q (.ref h'.objs.size) { s with heap := h'.push (tpl vs 0), toks := tk }) → wpAny (model prog w) A t Q E s)
    (mI : Mono I) (h : I Z vs) : Run prog w A t H Z (NwT H I) := by
  intro s Z1 k1 k2 k3
  refine ht s _ _ k1 fun h' tk k4 => ?_
  have e1 : Ext s.heap Z1 h' Z1 := .keeps k3 k4
  have e2 := Ext.push e1.zh (tpl vs 0) rfl
  have hz : Z1 h'.objs.size = none := gh_none_of_new e1.zh (Nat.le_refl _)
  exact ⟨_, tk, _, rfl, e1.tr e2, _, vs, 0, rfl, none_of_new (s := { s with heap := h' }) (k1.tr k4) (Nat.le_refl _), put_at, mI _ _ _ (kp_to_del e2.zz hz) (mI _ _ _ k2 h)⟩

-- items of a display, arguments of a call
abbrev Items (prog : Program) (w : World) (A : Around) (env : Env) (pos : Pos) (es : List Expr) (H : Heap) (Z : Gh) (I : Gh → List Value → Prop) : Prop :=
  Run prog w A (spliced (backTo pos (starEach es env))) H Z I
theorem items_nil {pos : Pos} : Items prog w A env pos [] H Z (Alls []) := Run.same (fun _ _ _ _ q => wpAny_items_nil q) fun _ _ => .nil
theorem items_cons {pos : Pos} {e : Expr} {rest : List Expr} {d : PyData} {ds : List PyData} (h : Run prog w A (eval e env) H Z (Is d)) (hr : Items prog w A env pos rest H Z (Alls ds))
    (he : starEach (e :: rest) env = (false, eval e env) :: starEach rest env := by rfl) : Items prog w A env pos (e :: rest) H Z (Alls (d :: ds)) := by
  intro s Z1 k1 k2 k3
  refine wpAny_items_cons (h.cps k1 k2 k3 fun a h1 t1 Z2 e1 p1 => ?_) he
  refine hr.cps (k1.tr e1.hp) (k2.tr e1.zz) e1.zh fun b h2 t2 Z3 e2 p2 => ?_
  exact ⟨h2, t2, Z3, rfl, e1.tr e2, .cons (p1.mono e2.zz) p2⟩
/-- of values: what is said of the first, and of the rest -/
theorem items_consV {pos : Pos} {e : Expr} {rest : List Expr} {P : Gh → Value → Prop} {I : Gh → List Value → Prop} (mP : Mono P) (h : Run prog w A (eval e env) H Z P) (hr : Items prog w A env pos rest H Z I)
    (he : starEach (e :: rest) env = (false, eval e env) :: starEach rest env := by rfl) : Items prog w A env pos (e :: rest) H Z (fun Z vs => ∃ v us, vs = v :: us ∧ P Z v ∧ I Z us) := by
  intro s Z1 k1 k2 k3
  refine wpAny_items_cons (h.cps k1 k2 k3 fun a h1 t1 Z2 e1 p1 => ?_) he
  refine hr.cps (k1.tr e1.hp) (k2.tr e1.zz) e1.zh fun b h2 t2 Z3 e2 p2 => ?_
  exact ⟨h2, t2, Z3, rfl, e1.tr e2, _, _, rfl, mP _ _ _ e2.zz p1, p2⟩
theorem items_nilV {pos : Pos} : Items prog w A env pos [] H Z (fun _ vs => vs = []) := Run.same (fun _ _ _ _ q => wpAny_items_nil q) fun _ _ => rfl

theorem ev_List {es : List Expr} {pos : Pos} {I : Gh → List Value → Prop} (mI : Mono I) (h : Items prog w A env pos es H Z I) (hsz : ∀ Z vs, I Z vs → vs.length ≤ sizeLine) :
    Run prog w A (eval (.List es pos) env) H Z (NwL H I) := by
  intro s Z1 k1 k2 k3
  refine wpAny_List (h.cps k1 k2 k3 fun vs h1 t1 Z2 e1 p1 => ⟨hsz _ _ p1, ?_⟩)
  have e2 := Ext.push e1.zh (lst vs 0) rfl
  have hz : Z2 h1.objs.size = none := gh_none_of_new e1.zh (Nat.le_refl _)
  refine ⟨_, t1, _, rfl, e1.tr e2, _, vs, 0, rfl, none_of_new (s := { s with heap := h1 }) (k1.tr e1.hp) (Nat.le_refl _), put_at, mI _ _ _ (kp_to_del e2.zz hz) p1⟩
theorem ev_list {es : List Expr} {pos : Pos} {ds : List PyData} (h : Items prog w A env pos es H Z (Alls ds)) (hsz : ds.length ≤ sizeLine := by size_fits) :
    Run prog w A (eval (.List es pos) env) H Z (Is (.list ds)) :=
  (ev_List (mono_alls _) h fun _ _ p => by rw [p.length]; exact hsz).conseq fun _ _ _ p => p.is
theorem ev_Tuple {es : List Expr} {k : Nat} {pos : Pos} {I : Gh → List Value → Prop} (mI : Mono I) (h : Items prog w A env pos es H Z I) (hsz : ∀ Z vs, I Z vs → vs.length ≤ sizeLine) :
    Run prog w A (eval (.Tuple es k pos) env) H Z (NwT H I) := by
  intro s Z1 k1 k2 k3
  refine wpAny_Tuple (h.cps k1 k2 k3 fun vs h1 t1 Z2 e1 p1 => ⟨hsz _ _ p1, ?_⟩)
  have e2 := Ext.push e1.zh (tpl vs 0) rfl
  have hz : Z2 h1.objs.size = none := gh_none_of_new e1.zh (Nat.le_refl _)
  refine ⟨_, t1, _, rfl, e1.tr e2, _, vs, 0, rfl, none_of_new (s := { s with heap := h1 }) (k1.tr e1.hp) (Nat.le_refl _), put_at, mI _ _ _ (kp_to_del e2.zz hz) p1⟩

-- lists glued, repeated
theorem add_lists_at {s : Shared} {E : Value → Shared → Prop} {l b : Addr} {vs ws : List Value} {Q : Value → Shared → Prop} (hl : s.heap.IsList l vs.toArray) (hb : s.heap.IsList b ws.toArray)
    (h : Q (.ref s.heap.objs.size) { s with heap := s.heap.push (lst (vs ++ ws) 0) }) (hsz : vs.length + ws.length ≤ sizeLine) :
    wpAny (model prog w) A (binaryOp .Add (.ref l) (.ref b)) Q E s := by
  obtain ⟨⟨_, d1, _, sl1⟩, ho, hc, n, hd⟩ := id hl
  obtain ⟨⟨_, d2, _, sl2⟩, ho2, hc2, n2, hd2⟩ := id hb
  simp only at hc hd hc2 hd2
  subst hc hd hc2 hd2
  refine concat_meets ⟨_, ho, rfl⟩ ⟨_, ho2, rfl⟩ noFill_list_add seq_list_add PySem.F.slot_list_add PySem.F.entry_list_add (PySem.F.args_list_add_2 _ _) (list_addW l b vs.toArray ws.toArray n n2 d1 d2 sl1 sl2 (by simpa using hsz)) ⟨ho, ho2, ?_⟩
  rw [show vs.toArray ++ ws.toArray = (vs ++ ws).toArray by simp]
  exact h
theorem run_ladd {a b : Addr} {vs ws : List Value} {I : Gh → List Value → Prop} (mI : Mono I) (kz : Kp Z H.get?) (ha : IsL H.get? a vs) (hb : IsL H.get? b ws) (h : I Z (vs ++ ws)) (hsz : vs.length + ws.length ≤ sizeLine) :
    Run prog w A (binaryOp .Add (.ref a) (.ref b)) H Z (NwL H I) :=
  Run.newL (fun s _ _ k q => add_lists_at (ha.mono k).isList (hb.mono k).isList (q s.heap s.toks .rf) hsz) mI h
theorem ev_ladd {l r : Expr} {pos : Pos} {xs ys : List PyData} (hl : Run prog w A (eval l env) H Z (Is (.list xs))) (hr : Run prog w A (eval r env) H Z (Is (.list ys))) (hsz : xs.length + ys.length ≤ sizeLine) :
    Run prog w A (eval (.BinOp l .Add r pos) env) H Z (NwL H (Alls (xs ++ ys))) :=
  ev_BinOp (mono_is _) hl hr fun H' Z' x y kh _ kz p q => by
    obtain ⟨a, vs, rfl, ha, ra⟩ := p.list_inv
    obtain ⟨b, ws, rfl, hb, rb⟩ := q.list_inv
    exact (run_ladd (mono_alls _) kz (ha.mono kz) (hb.mono kz) (ra.append rb) (by rw [ra.length, rb.length]; exact hsz)).conseq fun _ _ _ p => p.weaken kh
theorem ev_laddI {l r : Expr} {pos : Pos} {xs ys : List PyData} (hl : Run prog w A (eval l env) H Z (Is (.list xs))) (hr : Run prog w A (eval r env) H Z (Is (.list ys))) (hsz : xs.length + ys.length ≤ sizeLine) :
    Run prog w A (eval (.BinOp l .Add r pos) env) H Z (Is (.list (xs ++ ys))) := (ev_ladd hl hr hsz).conseq fun _ _ _ p => p.is

-- items
theorem ev_item {value idx : Expr} {pos : Pos} {ds : List PyData} {k : Int} {d : PyData} (hv : Run prog w A (eval value env) H Z (Is (.list ds))) (hi : Run prog w A (eval idx env) H Z (Is (.int k)))
    (h0 : 0 ≤ k) (hfit : k < 2 ^ 63) (hx : ds[k.toNat]? = some d) (hs : ∀ o i, subscripted idx false o i = operate [o, i] (getItem o i) := by intro _ _; with_unfolding_all rfl) :
    Run prog w A (eval (.Subscript value idx pos) env) H Z (Is d) := by
  intro s Z1 k1 k2 k3
  refine Subscript_ (hv.cps k1 k2 k3 fun a h1 t1 Z2 e1 p1 => ?_)
  refine hi.cps (k1.tr e1.hp) (k2.tr e1.zz) e1.zh fun b h2 t2 Z3 e2 p2 => ?_
  obtain ⟨l, vs, rfl, hl, rl⟩ := p1.list_inv
  obtain ⟨u, rfl⟩ := p2.int_inv
  obtain ⟨v, hv, rv⟩ := rl.get' hx
  have hl' : ({ s with heap := h2, toks := t2 } : Shared).heap.IsList l vs.toArray := ((hl.mono e2.zz).mono e2.zh).isList
  refine tail_any hl'.typeIs slot_list_getitem.lookup (wpAny_getItem_list hl' h0 hfit (by simpa using hv) ?_) (hs _ _)
  exact ⟨h2, t2, Z3, rfl, e1.tr e2, rv.mono e2.zz⟩
theorem ev_itemNeg {value idx : Expr} {pos : Pos} {ds : List PyData} {k : Int} {d : PyData} (hv : Run prog w A (eval value env) H Z (Is (.list ds))) (hi : Run prog w A (eval idx env) H Z (Is (.int k)))
    (h0 : k < 0) (hn : -(ds.length : Int) ≤ k) (hfit : -(2 ^ 63) ≤ k) (hx : ds[(k + ds.length).toNat]? = some d) (hs : ∀ o i, subscripted idx false o i = operate [o, i] (getItem o i) := by intro _ _; with_unfolding_all rfl) :
    Run prog w A (eval (.Subscript value idx pos) env) H Z (Is d) := by
  intro s Z1 k1 k2 k3
  refine Subscript_ (hv.cps k1 k2 k3 fun a h1 t1 Z2 e1 p1 => ?_)
  refine hi.cps (k1.tr e1.hp) (k2.tr e1.zz) e1.zh fun b h2 t2 Z3 e2 p2 => ?_
  obtain ⟨l, vs, rfl, hl, rl⟩ := p1.list_inv
  obtain ⟨u, rfl⟩ := p2.int_inv
  obtain ⟨v, hv, rv⟩ := rl.get' hx
  have hl' : ({ s with heap := h2, toks := t2 } : Shared).heap.IsList l vs.toArray := ((hl.mono e2.zz).mono e2.zh).isList
  refine tail_any hl'.typeIs slot_list_getitem.lookup (wpAny_getItem_list_neg hl' h0 (by simpa [rl.length] using hn) hfit (by simpa [rl.length] using hv) ?_) (hs _ _)
  exact ⟨h2, t2, Z3, rfl, e1.tr e2, rv.mono e2.zz⟩
theorem ev_neg {x : Expr} {pos : Pos} {a : Int} (h : Run prog w A (eval x env) H Z (Is (.int a))) : Run prog w A (eval (.UnaryOp .USub x pos) env) H Z (Is (.int (-a))) := by
  intro s Z1 k1 k2 k3
  refine wpAny_UnaryOp (h.cps k1 k2 k3 fun v h1 t1 Z2 e1 p1 => ?_)
  obtain ⟨u, rfl⟩ := p1.int_inv
  exact neg_int ⟨h1, _, Z2, rfl, e1, .int ..⟩

-- slices
def Part (prog : Program) (w : World) (A : Around) (env : Env) (e : Option Expr) (H : Heap) (Z : Gh) (o : Option Int) : Prop := Run prog w A (evalPart e env) H Z fun _ v => IsPart v o
theorem part_none : Part prog w A env none H Z none := Run.same (fun _ _ _ _ q => evalPart_none_step q) fun _ _ => .none
theorem part_some {e : Expr} {i : Int} (h : Run prog w A (eval e env) H Z (Is (.int i))) : Part prog w A env (some e) H Z (some i) :=
  h.conseq fun _ _ _ p => by obtain ⟨t, rfl⟩ := p.int_inv; exact .int i t
theorem ev_slice {value : Expr} {lower upper : Option Expr} {p pos : Pos} {ds es : List PyData} {lo hi : Option Int} (hv : Run prog w A (eval value env) H Z (Is (.list ds))) (hlo : Part prog w A env lower H Z lo) (hhi : Part prog w A env upper H Z hi)
    (hp : ∀ Z vs, RdAll Z vs ds → RdAll Z (slicePick vs.toArray lo hi none).toList es) (hsz : ds.length ≤ sizeLine) (ht : ∀ o r, letTemporaryGo value o r = pure () := by intro _ _; rfl) :
    Run prog w A (eval (.Subscript value (.Slice lower upper none p) pos) env) H Z (Is (.list es)) := by
  intro s Z1 k1 k2 k3
  refine wpAny_Subscript_list_slice (hv.cps k1 k2 k3 fun a h1 t1 Z2 e1 p1 => ?_) ht
  refine hlo.cps (k1.tr e1.hp) (k2.tr e1.zz) e1.zh fun b h2 t2 Z3 e2 p2 => ?_
  refine hhi.cps (k1.tr (e1.hp.tr e2.hp)) (k2.tr (e1.zz.tr e2.zz)) e2.zh fun c h3 t3 Z4 e3 p3 => ?_
  obtain ⟨l, vs, rfl, hl, rl⟩ := p1.list_inv
  refine ⟨l, vs.toArray, lo, hi, rfl, (((hl.mono e2.zz).mono e3.zz).mono e3.zh).isList, by simp [rl.length]; exact hsz, p2, p3, ?_⟩
  have e4 : Ext h3 Z4 (h3.push { cls := .type "slice", data := .fields #[b, c, .none] }) Z4 := .keeps e3.zh fun _ _ e => Heap.get?_push_of_some _ e
  have e5 := Ext.push e4.zh (lst (slicePick vs.toArray lo hi none).toList 0) rfl
  rw [Heap.size_push] at e5
  refine ⟨_, t3, _, by simp [lst], (e1.tr (e2.tr e3)).tr (e4.tr e5), .list ⟨_, put_at, rfl, 0, rfl⟩ ?_⟩
  exact (hp _ _ ((rl.mono e2.zz).mono e3.zz)).mono e5.zz
theorem ev_upto {value upper : Expr} {p pos : Pos} {ds : List PyData} {b : Int} (hv : Run prog w A (eval value env) H Z (Is (.list ds))) (hb : Run prog w A (eval upper env) H Z (Is (.int b))) (h0 : 0 ≤ b)
    (hsz : ds.length ≤ sizeLine) (ht : ∀ o r, letTemporaryGo value o r = pure () := by intro _ _; rfl) :
    Run prog w A (eval (.Subscript value (.Slice none (some upper) none p) pos) env) H Z (Is (.list (ds.take b.toNat))) :=
  ev_slice hv part_none (part_some hb) (fun Z vs r => by
    obtain ⟨n, rfl⟩ := Int.eq_ofNat_of_zero_le h0
    rw [slicePick_upto']
    simpa using r.take n) hsz ht
theorem ev_from {value lower : Expr} {p pos : Pos} {ds : List PyData} {a : Int} (hv : Run prog w A (eval value env) H Z (Is (.list ds))) (ha : Run prog w A (eval lower env) H Z (Is (.int a))) (h0 : 0 ≤ a)
    (hsz : ds.length ≤ sizeLine) (ht : ∀ o r, letTemporaryGo value o r = pure () := by intro _ _; rfl) :
    Run prog w A (eval (.Subscript value (.Slice (some lower) none none p) pos) env) H Z (Is (.list (ds.drop a.toNat))) :=
  ev_slice hv (part_some ha) part_none (fun Z vs r => by
    obtain ⟨n, rfl⟩ := Int.eq_ofNat_of_zero_le h0
    rw [slicePick_from']
    simpa using r.drop n) hsz ht
theorem ev_between {value lower upper : Expr} {p pos : Pos} {ds : List PyData} {a b : Int} (hv : Run prog w A (eval value env) H Z (Is (.list ds))) (ha : Run prog w A (eval lower env) H Z (Is (.int a))) (hb : Run prog w A (eval upper env) H Z (Is (.int b)))
    (h0 : 0 ≤ a) (h1 : a ≤ b) (h2 : b ≤ ds.length) (hsz : ds.length ≤ sizeLine) (ht : ∀ o r, letTemporaryGo value o r = pure () := by intro _ _; rfl) :
    Run prog w A (eval (.Subscript value (.Slice (some lower) (some upper) none p) pos) env) H Z (Is (.list ((ds.drop a.toNat).take (b.toNat - a.toNat)))) :=
  ev_slice hv (part_some ha) (part_some hb) (fun Z vs r => by
    obtain ⟨n, rfl⟩ := Int.eq_ofNat_of_zero_le h0
    obtain ⟨m, rfl⟩ := Int.eq_ofNat_of_zero_le (Int.le_trans h0 h1)
    rw [slicePick_run vs.toArray n m (by simp [r.length]; omega) (by omega)]
    simpa using (r.drop n).take (m - n)) hsz ht
end
end Mine
end

section
open PySem PySem.W PyProof.Rows
namespace Mine
section
variable {prog : Program} {w : World} {A : Around} {H : Heap} {Z : Gh} {env : Env}

/-- going through the value v: n items, the i-th has P i; what it leans on, beside its own, lies in Bs -/
def SrcB (prog : Program) (w : World) (A : Around) (Bs : Addr → Prop) (v : Value) (H : Heap) (n : Nat) (P : Nat → Value → Prop) : Prop :=
  ∀ (s : Shared) (Q : Value → Shared → Prop) (E : Value → Shared → Prop), Kp H.get? s.heap.get? →
    (∀ (I : Addr) (fp wr : List Addr) (St : Nat → Heap → Prop) (h' : Heap) (tk : Nat), Walks prog w A I fp wr n P St → St 0 h' → Kp s.heap.get? h'.get? → (∀ b ∈ wr, s.heap.get? b = none) →
      (∀ i h, St i h → ∀ b ∈ fp, ∃ o, h.get? b = some o) → (∀ b ∈ fp, b ∈ wr ∨ Bs b) → wr.Nodup → Q (.ref I) { s with heap := h', toks := tk }) → wpAny (model prog w) A (pyIter v) Q E s
abbrev Src (prog : Program) (w : World) (A : Around) (v : Value) (H : Heap) (n : Nat) (P : Nat → Value → Prop) : Prop := SrcB prog w A (fun _ => True) v H n P
theorem SrcB.mono {Bs : Addr → Prop} {v : Value} {H H' : Heap} {n : Nat} {P : Nat → Value → Prop} (h : SrcB prog w A Bs v H n P) (k : Kp H.get? H'.get?) : SrcB prog w A Bs v H' n P :=
  fun s Q E k' q => h s Q E (k.tr k') q

theorem src_list {Bs : Addr → Prop} {a : Addr} {vs : List Value} (hh : A.handled = none) (hb : IsL H.get? a vs) (kb : Bs a) : SrcB prog w A Bs (.ref a) H vs.length (fun i v => vs[i]? = some v) := by
  intro s Q E k q
  have hl' := (hb.mono k).isList
  obtain ⟨o, ho, _⟩ := id hl'
  have hne : a ≠ s.heap.objs.size := Nat.ne_of_lt (Heap.lt_size ho)
  refine wpAny_pyIter_list hl' ?_
  have W := Walks.list (prog := prog) (w := w) hh s.heap.objs.size a hne vs.toArray
  simp only [List.size_toArray, List.getElem?_toArray] at W
  refine q s.heap.objs.size [s.heap.objs.size, a] [s.heap.objs.size] _ _ s.toks W ⟨⟨_, Heap.get?_push_size _ rfl, rfl, rfl⟩, hl'.push _⟩ (fun _ _ e => Heap.get?_push_of_some _ e) ?_ ?_ ?_ (by simp)
  · intro b hb; rw [List.mem_singleton.mp hb]; exact heap_none_of_new (Nat.le_refl _)
  · rintro i h ⟨⟨o1, h1, _⟩, ⟨o2, h2, _⟩⟩ b hb
    rcases List.mem_cons.mp hb with rfl | hb
    · exact ⟨_, h1⟩
    · rw [List.mem_singleton.mp hb]; exact ⟨_, h2⟩
  · intro b hb
    rcases List.mem_cons.mp hb with rfl | hb
    · exact .inl (List.mem_singleton.mpr rfl)
    · rw [List.mem_singleton.mp hb]; exact .inr kb
theorem src_tuple {Bs : Addr → Prop} {a : Addr} {vs : List Value} (hh : A.handled = none) (hb : IsT H.get? a vs) (kb : Bs a) : SrcB prog w A Bs (.ref a) H vs.length (fun i v => vs[i]? = some v) := by
  intro s Q E k q
  have hl' := (hb.mono k).isTuple
  obtain ⟨o, ho, _⟩ := id hl'
  have hne : a ≠ s.heap.objs.size := Nat.ne_of_lt (Heap.lt_size ho)
  refine wpAny_pyIter_tuple hl' ?_
  have W := Walks.tuple (prog := prog) (w := w) hh s.heap.objs.size a hne vs.toArray
  simp only [List.size_toArray, List.getElem?_toArray] at W
  refine q s.heap.objs.size [s.heap.objs.size, a] [s.heap.objs.size] _ _ s.toks W ⟨⟨_, Heap.get?_push_size _ rfl, rfl, rfl⟩, hl'.push _⟩ (fun _ _ e => Heap.get?_push_of_some _ e) ?_ ?_ ?_ (by simp)
  · intro b hb; rw [List.mem_singleton.mp hb]; exact heap_none_of_new (Nat.le_refl _)
  · rintro i h ⟨⟨o1, h1, _⟩, ⟨o2, h2, _⟩⟩ b hb
    rcases List.mem_cons.mp hb with rfl | hb
    · exact ⟨_, h1⟩
    · rw [List.mem_singleton.mp hb]; exact ⟨_, h2⟩
  · intro b hb
    rcases List.mem_cons.mp hb with rfl | hb
    · exact .inl (List.mem_singleton.mpr rfl)
    · rw [List.mem_singleton.mp hb]; exact .inr kb
/-- a range's object -/
def IsRg (a b c : Int) (Z : Gh) (v : Value) : Prop := ∃ r t u k, v = .ref r ∧ Z r = some { cls := .type "range", dict := none, data := .fields #[.int a t, .int b u, .int c k], slots := #[] }
theorem src_range {Bs : Addr → Prop} {a b c : Int} {v : Value} {n : Nat} (hh : A.handled = none) (hr : IsRg a b c H.get? v) (hsm : Builtin.Range.small a b c = true) (hn : Builtin.Range.rangeSize a b c = (n : Int)) :
    SrcB prog w A Bs v H n (fun i v => ∃ t, v = .int (a + i * c) t) := by
  intro s Q E k q
  obtain ⟨r, t, u, x, rfl, ho⟩ := hr
  refine wpAny_pyIter_range (k _ _ ho) hsm ?_
  refine q s.heap.objs.size [s.heap.objs.size] [s.heap.objs.size] _ _ s.toks (Walks.range hh s.heap.objs.size a c n) ?_ (fun _ _ e => Heap.get?_push_of_some _ e) ?_ ?_ (fun _ hb => .inl hb) (by simp)
  · show Heap.get? _ _ = _
    rw [hn]
    simpa using Heap.get?_push_size s.heap (o := { cls := .type "range_iterator", data := .fields #[rawInt a, rawInt n, rawInt c] }) rfl
  · intro b hb; rw [List.mem_singleton.mp hb]; exact heap_none_of_new (Nat.le_refl _)
  · intro i h st b hb
    rw [List.mem_singleton.mp hb]; exact ⟨_, st⟩

/-- a run that tells of the tokens too: begun at n or above -/
def RunK {α : Type} (prog : Program) (w : World) (A : Around) (t : Sem α) (H : Heap) (Z : Gh) (n : Nat) (P : Gh → Nat → α → Prop) : Prop :=
  ∀ (s : Shared) (Z' : Gh), Kp H.get? s.heap.get? → Kp Z Z' → Kp Z' s.heap.get? → n ≤ s.toks →
    wpAny (model prog w) A t (fun v s' => ∃ h' tk Z'', s' = { s with heap := h', toks := tk } ∧ Ext s.heap Z' h' Z'' ∧ P Z'' tk v) (fun _ _ => False) s
theorem Run.runK {α : Type} {t : Sem α} {n : Nat} {P : Gh → α → Prop} (h : Run prog w A t H Z P) : RunK prog w A t H Z n (fun Z _ v => P Z v) :=
  fun s Z1 k1 k2 k3 _ => h.cps k1 k2 k3 fun _ h' tk Z' ex p => ⟨h', tk, Z', rfl, ex, p⟩
theorem RunK.cps {α : Type} {t : Sem α} {P : Gh → Nat → α → Prop} {s : Shared} {n : Nat} {Z1 : Gh} {Q : α → Shared → Prop} {E : Value → Shared → Prop} (h : RunK prog w A t H Z n P)
    (k1 : Kp H.get? s.heap.get?) (k2 : Kp Z Z1) (k3 : Kp Z1 s.heap.get?) (hn : n ≤ s.toks)
    (k : ∀ v h' tk Z2, Ext s.heap Z1 h' Z2 → P Z2 tk v → Q v { s with heap := h', toks := tk }) : wpAny (model prog w) A t Q E s := by
  refine wpAny_mono (h s Z1 k1 k2 k3 hn) (fun v s' hp => ?_) fun _ _ x => x.elim
  obtain ⟨h', tk, Z', rfl, ex, hp⟩ := hp
  exact k v h' tk Z' ex hp

abbrev compTest (ifs : List Expr) (env : Env) : Sem Bool := forIn ifs true fun c r => if r = true then do let ok ← isTrue c env (eval c env); pure (ForInStep.yield ok) else pure (ForInStep.yield r)
theorem test_nil : Run prog w A (compTest [] env) H Z fun _ r => r = true := Run.same (fun _ _ _ _ q => by unfold compTest; rw [List.forIn_nil]; exact wpAny_pure q) fun _ _ => rfl
theorem test_one {c : Expr} {b : Bool} (h : Tst prog w A env c H Z b) : Run prog w A (compTest [c] env) H Z fun _ r => r = b := by
  intro s Z1 k1 k2 k3
  unfold compTest
  simp only [List.forIn_cons, List.forIn_nil, if_true]
  refine wpAny_bind (wpAny_bind (h.cps k1 k2 k3 fun v h1 t1 Z2 e1 p1 => wpAny_pure (wpAny_pure ?_)))
  exact ⟨h1, t1, Z2, rfl, e1, p1⟩

/-- what a comprehension's loop does: any code that takes the items one by one, tests, reckons, appends -/
theorem compCore {c : Code} {R : Result → Shared → Prop} {s : Shared} {elt : Expr} {x : Str} {px : Pos} {ifs : List Expr} {cenv : Env} {I D : Addr} {fp wr : List Addr} {n : Nat} {P : Nat → Value → Prop} {St : Nat → Heap → Prop} {ys₀ : List Value} {m : Str → Option Value}
    (hloop : ∀ (J : Nat → Shared → Prop), (∀ n s, J n s → wpAny (model prog w) A (pyNext (.ref I)) (fun r s₁ => match r with
      | none => R (.ok .next) s₁
      | some v => wpAny (model prog w) A (assign (.Name x px) cenv v) (fun _ s₂ =>
          wpAny (model prog w) A (compTest ifs cenv) (fun ok s₃ =>
            if ok = true then wpAny (model prog w) A (eval elt cenv) (fun x s₄ =>
              wpAny (model prog w) A (call (.builtin "list.append") [.ref D, x]) (fun _ s₅ => ∃ m, m < n ∧ J m s₅) (notedBy (model prog w) A cenv fun e s' => R (.error e) s') s₄) (notedBy (model prog w) A cenv fun e s' => R (.error e) s') s₃
            else ∃ m, m < n ∧ J m s₃) (notedBy (model prog w) A cenv fun e s' => R (.error e) s') s₂) (notedBy (model prog w) A cenv fun e s' => R (.error e) s') s₁) (notedBy (model prog w) A cenv fun e s' => R (.error e) s') s) →
      ∀ n, J n s → codeAny (model prog w) A c R s)
    (W : Walks prog w A I fp wr n P St) (live : ∀ i h, St i h → ∀ b ∈ fp, ∃ o, h.get? b = some o)
    (hx : cenv.kindOf x = some .local) (hp : (cenv.scope.kind == .class || (cenv.scope.kind == .module && cenv.locals != cenv.globals)) = false)
    (hDC : D ≠ cenv.locals) (hDf : D ∉ fp) (hCf : cenv.locals ∉ fp) (kz : Kp Z s.heap.get?) (hZC : Z cenv.locals = none) (hZD : Z D = none) (hZw : ∀ b ∈ wr, Z b = none)
    (hst : St 0 s.heap) (hD : s.heap.PlainList D ys₀.toArray) (hC : s.heap.Ns cenv.locals m) (J : Nat → Gh → Nat → List Value → Prop) (mJ : ∀ k Z Z' n n' ys, Kp Z Z' → n ≤ n' → J k Z n ys → J k Z' n' ys) (h0 : J 0 Z s.toks ys₀)
    (turn : ∀ k v (H : Heap) (Z' : Gh) (tk : Nat) ys m', k < n → P k v → (∀ b o, b ≠ cenv.locals → b ∉ wr → b ≠ D → s.heap.get? b = some o → H.get? b = some o) → Kp Z Z' → Kp Z' H.get? → H.Ns cenv.locals m' → m' x = some v → J k Z' tk ys →
      ∃ b, Run prog w A (compTest ifs cenv) H Z' (fun _ r => r = b) ∧ (b = false → J (k + 1) Z' tk ys) ∧ (b = true → RunK prog w A (eval elt cenv) H Z' tk fun Z'' tk' y => J (k + 1) Z'' tk' (ys ++ [y])))
    (hsz : ys₀.length + n ≤ sizeLine)
    (hR : ∀ h' tk Z' m' ys, (∀ b o, b ≠ cenv.locals → b ∉ wr → b ≠ D → s.heap.get? b = some o → h'.get? b = some o) → Kp Z Z' → Kp Z' h'.get? → (∀ b o, s.heap.get? b = some o → Z' b = Z b) →
      h'.Ns cenv.locals m' → h'.PlainList D ys.toArray → ys.length ≤ ys₀.length + n → J n Z' tk ys → R (.ok .next) { s with heap := h', toks := tk }) :
    codeAny (model prog w) A c R s := by
  have hCw : cenv.locals ∉ wr := fun h => hCf (W.sub _ h)
  have hDw : D ∉ wr := fun h => hDf (W.sub _ h)
  refine hloop (fun k s' => ∃ (h' : Heap) (tk : Nat) (Z' : Gh) (m' : Str → Option Value) (ys : List Value) (i : Nat), s' = { s with heap := h', toks := tk } ∧ k = n + 1 - i ∧ i ≤ n ∧ St i h' ∧ h'.PlainList D ys.toArray ∧ h'.Ns cenv.locals m' ∧ J i Z' tk ys ∧
      ys.length ≤ ys₀.length + i ∧ Kp Z Z' ∧ Kp Z' h'.get? ∧ (∀ b o, s.heap.get? b = some o → Z' b = Z b) ∧ (Z' cenv.locals = none ∧ Z' D = none ∧ ∀ b ∈ wr, Z' b = none) ∧
      ∀ b o, b ≠ cenv.locals → b ∉ wr → b ≠ D → s.heap.get? b = some o → h'.get? b = some o) ?_ (n + 1)
    ⟨s.heap, s.toks, Z, m, ys₀, 0, rfl, rfl, Nat.zero_le _, hst, hD, hC, h0, Nat.le_refl _, .rf, kz, fun _ _ _ => rfl, ⟨hZC, hZD, hZw⟩, fun _ _ _ _ _ e => e⟩
  rintro k s' ⟨H, tk, Z', m', ys, i, rfl, rfl, hi, hst', hD', hC', hJ, hlen, kz1, kz2, old, ⟨offC, offD, offw⟩, keep⟩
  by_cases hlt : i < n
  · refine wpAny_with_toks (n := tk) (Nat.le_refl _) (W.item i _ _ _ hlt hst' fun v h₁ tk₁ hPv hst₁ hk₁ htk₁ => ?_)
    replace htk₁ : tk ≤ tk₁ := htk₁
    replace hk₁ : ∀ b o, b ∉ wr → H.get? b = some o → h₁.get? b = some o := hk₁
    refine wpAny_assign_Name (wpAny_storeName_local hx (hC'.at' fun o e => hk₁ _ o hCw e) (fun h₂ hn₂ hs₂ => ?_) hp)
    replace hs₂ : Heap.SameBut cenv.locals h₁ h₂ := hs₂
    have up₂ : ∀ b o, b ≠ cenv.locals → b ∉ wr → H.get? b = some o → h₂.get? b = some o := fun b o hbC hbf e => hs₂.extBut b o hbC (hk₁ b o hbf e)
    have kz3 : Kp Z' h₂.get? := fun b o e => up₂ b o (fun q => by rw [q, offC] at e; cases e) (fun q => by rw [offw b q] at e; cases e) (kz2 b o e)
    have hst₂ : St (i + 1) h₂ := W.frame _ _ _ hst₁ fun b hb o e => hs₂.extBut b o (fun h => hCf (h ▸ hb)) e
    have hD₂ : h₂.PlainList D ys.toArray := hD'.at fun o e => up₂ D o hDC hDw e
    obtain ⟨b, hT, hF, hE⟩ := turn i v h₂ Z' tk ys _ hlt hPv (fun b o hbC hbf hbD e => up₂ b o hbC hbf (keep b o hbC hbf hbD e)) kz1 kz3 hn₂ (by simp) hJ
    refine wpAny_with_toks (n := tk) (Nat.le_succ_of_le htk₁) (hT.cps .rf .rf kz3 fun ok h₃ tk₃ Z₃ e₃ hok htk₃ => ?_)
    replace htk₃ : tk ≤ tk₃ := htk₃
    subst hok
    have liveC : ∃ o, h₂.get? cenv.locals = some o := let ⟨o, _, _, e, _⟩ := hn₂; ⟨o, e⟩
    have liveD : ∃ o, h₂.get? D = some o := let ⟨n, e⟩ := hD₂; ⟨_, e⟩
    have offs : ∀ (h₃ : Heap) (Z₃ : Gh), Ext h₂ Z' h₃ Z₃ → Z₃ cenv.locals = none ∧ Z₃ D = none ∧ ∀ b ∈ wr, Z₃ b = none := fun h₃ Z₃ e₃ => by
      obtain ⟨o1, l1⟩ := liveC
      obtain ⟨o2, l2⟩ := liveD
      refine ⟨(e₃.old _ _ l1).trans offC, (e₃.old _ _ l2).trans offD, fun b hb => ?_⟩
      obtain ⟨o3, l3⟩ := live _ _ hst₂ b (W.sub _ hb)
      exact (e₃.old _ _ l3).trans (offw b hb)
    have olds : ∀ (h₃ : Heap) (Z₃ : Gh), Ext h₂ Z' h₃ Z₃ → ∀ b o, s.heap.get? b = some o → Z₃ b = Z b := fun h₃ Z₃ e₃ b o e => by
      by_cases q : b = cenv.locals
      · rw [q, (offs _ _ e₃).1, hZC]
      · by_cases q2 : b = D
        · rw [q2, (offs _ _ e₃).2.1, hZD]
        · by_cases q3 : b ∈ wr
          · rw [(offs _ _ e₃).2.2 b q3, hZw b q3]
          · exact (e₃.old b o (up₂ b o q q3 (keep b o q q3 q2 e))).trans (old b o e)
    cases ok with
    | false =>
      simp only [Bool.false_eq_true, if_false]
      exact ⟨n + 1 - (i + 1), by omega, h₃, tk₃, Z₃, _, ys, i + 1, rfl, rfl, hlt, W.frame _ _ _ hst₂ fun b _ o e => e₃.hp b o e, hD₂.at fun o e => e₃.hp _ o e, hn₂.keeps e₃.hp, mJ _ _ _ _ _ _ e₃.zz htk₃ (hF rfl), by omega,
        kz1.tr e₃.zz, e₃.zh, olds _ _ e₃, offs _ _ e₃, fun b o hbC hbf hbD e => e₃.hp b o (up₂ b o hbC hbf (keep b o hbC hbf hbD e))⟩
    | true =>
      simp only [if_true]
      refine (hE rfl).cps e₃.hp e₃.zz e₃.zh htk₃ fun y h₄ tk₄ Z₄ e₄ hJ' => ?_
      have e₅ := e₃.tr e₄
      have hD₄ : h₄.PlainList D ys.toArray := hD₂.at fun o e => e₅.hp _ o e
      refine wpAny_list_append_plain hD₄ (fun h₅ hl₅ hs₅ => ?_) (by simp; omega)
      replace hs₅ : Heap.SameBut D h₄ h₅ := hs₅
      obtain ⟨oC, oD, ow⟩ := offs _ _ e₅
      refine ⟨n + 1 - (i + 1), by omega, h₅, tk₄, Z₄, _, ys ++ [y], i + 1, rfl, rfl, hlt, W.frame _ _ _ hst₂ fun b hb o e => hs₅.extBut b o (fun h => hDf (h ▸ hb)) (e₅.hp b o e), by simpa using hl₅,
        (hn₂.keeps e₅.hp).sameBut hs₅ (Ne.symm hDC), hJ', by simp; omega, kz1.tr e₅.zz, ?_, olds _ _ e₅, ⟨oC, oD, ow⟩, fun b o hbC hbf hbD e => hs₅.extBut b o hbD (e₅.hp b o (up₂ b o hbC hbf (keep b o hbC hbf hbD e)))⟩
      intro b o e
      exact hs₅.extBut b o (fun q => by rw [q, oD] at e; cases e) (e₅.zh b o e)
  · obtain rfl : i = n := by omega
    refine wpAny_with_toks (n := tk) (Nat.le_refl _) (W.done _ _ _ hst' fun h₁ tk₁ hk₁ htk₁ => ?_)
    replace htk₁ : tk ≤ tk₁ := htk₁
    replace hk₁ : ∀ b o, b ∉ wr → H.get? b = some o → h₁.get? b = some o := hk₁
    exact hR h₁ tk₁ Z' m' ys (fun b o hbC hbf hbD e => hk₁ b o hbf (keep b o hbC hbf hbD e)) kz1 (fun b o e => hk₁ b o (fun q => by rw [offw b q] at e; cases e) (kz2 b o e)) old (hC'.at' fun o e => hk₁ _ o hCw e)
      (hD'.at fun o e => hk₁ _ o hDw e) hlen (mJ _ _ _ _ _ _ .rf htk₁ hJ)
end
end Mine
end

section
open PySem PySem.W PyProof.Rows
namespace Mine
section
variable {prog : Program} {w : World} {A : Around} {H : Heap} {Z : Gh} {env : Env}

/-- what a comprehension's body does with each item of the value v -/
def CompBody (prog : Program) (w : World) (A : Around) (env : Env) (scope : Scope) (cl : List (Str × Addr)) (x : Str) (ifs : List Expr) (elt : Expr) (I : Gh → Nat → List Value → Prop) (v : Value) (H : Heap) (Z : Gh) : Prop :=
  ∃ (n : Nat) (P : Nat → Value → Prop) (J : Nat → Gh → Nat → List Value → Prop), Src prog w A v H n P ∧ n ≤ sizeLine ∧ (∀ k Z Z' n n' ys, Kp Z Z' → n ≤ n' → J k Z n ys → J k Z' n' ys) ∧ (∀ tk, J 0 Z tk []) ∧
    (∀ k u C H' Z' tk ys m, k < n → P k u → Kp H.get? H'.get? → Kp Z Z' → Kp Z' H'.get? → H'.Ns C m → m x = some u → J k Z' tk ys →
      ∃ b, Run prog w A (compTest ifs (compEnvC scope cl C env)) H' Z' (fun _ r => r = b) ∧ (b = false → J (k + 1) Z' tk ys) ∧ (b = true → RunK prog w A (eval elt (compEnvC scope cl C env)) H' Z' tk fun Z'' tk' y => J (k + 1) Z'' tk' (ys ++ [y]))) ∧
    ∀ Z' tk ys, J n Z' tk ys → I Z' tk ys

theorem comp_any {elt iter : Expr} {x : Str} {px : Pos} {ifs : List Expr} {scope : Scope} {pos pos' : Pos} {cl : List (Str × Addr)} {use : Option (Value → Sem Unit)} {Q : Value → Shared → Prop} {E : Value → Shared → Prop} {s : Shared} {Z1 : Gh}
    {Ps : Gh → Value → Prop} {I : Gh → Nat → List Value → Prop} (mI : ∀ tk, Mono (fun Z => I Z tk)) (k1 : Kp H.get? s.heap.get?) (k2 : Kp Z Z1) (k3 : Kp Z1 s.heap.get?)
    (hclos : closureFor scope env = pure cl) (hcell : ∀ y ∈ scope.names, y.2 ≠ .cell) (hkind : scope.kind = .function) (hnames : ∀ y ∈ scope.names, y.2 = .local → scope.names.lookup y.1 = some .local) (hx : scope.names.lookup x = some .local)
    (hs : ∀ x, foldedSetIterable iter env x = pure x) (hsrc : Run prog w A (eval iter env) H Z Ps)
    (hbody : ∀ v H' Z', Kp H.get? H'.get? → Kp Z Z' → Kp Z' H'.get? → Ps Z' v → CompBody prog w A env scope cl x ifs elt I v H' Z')
    (K : ∀ h' tk Z' D C, Ext s.heap Z1 h' Z' → NwL s.heap (fun Z => I Z tk) Z' (.ref D) → (∃ m, h'.Ns C m) → s.heap.get? C = none → Z' C = none → compPost (model prog w) A E use Q (.ref D) C (.ok .next) { s with heap := h', toks := tk }) :
    wpAny (model prog w) A (comprehension (.ListComp elt [⟨.Name x px, iter, ifs, 0⟩] scope pos) scope env pos' (newList []) false (eval iter env) use) Q E s := by
  refine wpAny_comprehension_free rfl hs hclos hkind hnames (hsrc.cps k1 k2 k3 fun v h1 t1 Z2 e1 p1 => ?_)
  obtain ⟨n, P, J, hS, hn, mJ, h0, turn, fin⟩ := hbody v h1 Z2 (k1.tr e1.hp) (k2.tr e1.zz) e1.zh p1
  refine hS _ _ _ .rf fun I₀ fp wr St h2 t2 W st0 k4 hwr live _ _ => ?_
  replace k4 : Kp h1.get? h2.get? := k4
  replace hwr : ∀ b ∈ wr, h1.get? b = none := hwr
  refine wpAny_newObj_type (wpAny_newFunctionEnv hcell (by intro y hy; simp at hy) (fun h3 hns hsb => ?_) hkind)
  dsimp only at hns hsb ⊢
  generalize hH2 : h2.push { cls := .type "list", dict := none, data := .seq ([] : List Value).toArray } = H2 at hns hsb ⊢
  have hC : H2.objs.size = h2.objs.size + 1 := by rw [← hH2, Heap.size_push]
  have hDC : h2.objs.size ≠ H2.objs.size := by rw [hC]; exact Nat.ne_of_lt (Nat.lt_succ_self _)
  have below : ∀ b, b < h2.objs.size → b ≠ H2.objs.size ∧ b ≠ h2.objs.size := fun b hb => ⟨by rw [hC]; exact Nat.ne_of_lt (Nat.lt_succ_of_lt hb), Nat.ne_of_lt hb⟩
  have old : Kp h2.get? h3.get? := fun b o e => hsb.extBut b o (below b (Heap.lt_size e)).1 (Heap.get?_push_of_some _ (hH2 ▸ Heap.get?_push_of_some _ e))
  have hacc : h3.PlainList h2.objs.size ([] : List Value).toArray := ⟨_, hsb.extBut _ _ hDC (Heap.get?_push_of_some _ (hH2 ▸ Heap.get?_push_size _ rfl))⟩
  have hst3 : St 0 h3 := W.frame _ _ _ st0 fun b _ o e => old b o e
  have kz2 : Kp Z2 h2.get? := e1.zh.tr k4
  have hZD : Z2 h2.objs.size = none := gh_none_of_new kz2 (Nat.le_refl _)
  have hZC : Z2 H2.objs.size = none := gh_none_of_new kz2 (by rw [hC]; exact Nat.le_succ _)
  have hZw : ∀ b ∈ wr, Z2 b = none := fun b hb => by
    cases q : Z2 b with
    | none => rfl
    | some o => have := e1.zh _ _ q; rw [hwr b hb] at this; cases this
  have hDf : h2.objs.size ∉ fp := fun hm => by obtain ⟨o, e⟩ := live _ _ st0 _ hm; exact Nat.lt_irrefl _ (Heap.lt_size e)
  have hCf : H2.objs.size ∉ fp := fun hm => by
    obtain ⟨o, e⟩ := live _ _ st0 _ hm
    have := Heap.lt_size e; rw [hC] at this; exact Nat.lt_irrefl _ (Nat.lt_of_succ_lt this)
  have loop : ∀ s3 : Shared, s3 = { s with heap := h3, toks := t2 + ([] : List (Str × Value)).length } →
      codeAny (model prog w) A (.compLoop (.ListComp elt [⟨.Name x px, iter, ifs, 0⟩] scope pos) 0 (.ref I₀) (.ref h2.objs.size) (compEnvC scope cl H2.objs.size env)) (compPost (model prog w) A E use Q (.ref h2.objs.size) H2.objs.size) s3 := by
    rintro s3 rfl
    refine compCore (cenv := compEnvC scope cl H2.objs.size env) (x := x) (px := px) (ifs := ifs) (elt := elt) (ys₀ := []) (fun J hJ n hn => codeAny_compLoop_tests J hJ n hn) W live (lookup_relabel_local hx) (by simp [compEnvC, relabel, hkind]) hDC hDf hCf (kz2.tr old) hZC hZD hZw hst3 hacc hns J mJ (h0 _) ?_ (by simpa using hn) ?_
    · intro k u H' Z' tk ys m' hk hP keep kz kz' hn' hm hJ
      refine turn k u H2.objs.size H' Z' tk ys m' hk hP (fun b o e => ?_) kz kz' hn' hm hJ
      have hb := k4 b o e
      exact keep b o (below b (Heap.lt_size hb)).1 (fun q => by rw [hwr b q] at e; cases e) (below b (Heap.lt_size hb)).2 (old b o hb)
    · intro h' tk Z' m' ys keep kz kz' hold hn' hD' _ hJ
      obtain ⟨nD, hD'⟩ := hD'
      have liveD : ∃ o, h3.get? h2.objs.size = some o := let ⟨_, e⟩ := hacc; ⟨_, e⟩
      have liveC : ∃ o, h3.get? H2.objs.size = some o := let ⟨o, _, _, e, _⟩ := hns; ⟨o, e⟩
      obtain ⟨oD, liveD⟩ := liveD
      obtain ⟨oC, liveC⟩ := liveC
      have zD : Z' h2.objs.size = none := (hold _ _ liveD).trans hZD
      have zC : Z' H2.objs.size = none := (hold _ _ liveC).trans hZC
      have oldS : ∀ b o, s.heap.get? b = some o → h2.get? b = some o := fun b o e => k4 b o (e1.hp b o e)
      have up : Kp s.heap.get? h'.get? := fun b o e => keep b o (below b (Heap.lt_size (oldS b o e))).1 (fun q => by have := e1.hp b o e; rw [hwr b q] at this; cases this) (below b (Heap.lt_size (oldS b o e))).2 (old b o (oldS b o e))
      refine K h' tk (put Z' h2.objs.size (lst ys nD)) h2.objs.size H2.objs.size ⟨up, (e1.zz.tr kz).tr (kp_put zD), fun b o e => ?_, fun b o e => ?_⟩ ⟨_, ys, nD, rfl, ?_, put_at, mI tk _ _ _ (kp_to_del (kp_put zD) zD) (fin _ _ _ hJ)⟩ ⟨m', hn'⟩ ?_ ?_
      · by_cases q : b = h2.objs.size
        · subst q; rw [put_at] at e; cases e; exact hD'
        · rw [put_ne q] at e; exact kz' b o e
      · rw [put_ne (below b (Heap.lt_size (oldS b o e))).2, hold b o (old b o (oldS b o e))]
        exact e1.old b o e
      · exact none_of_new (s := { s with heap := h2 }) oldS (Nat.le_refl _)
      · exact none_of_new (s := { s with heap := h2 }) oldS (by rw [hC]; exact Nat.le_succ _)
      · rw [put_ne (Ne.symm hDC)]; exact zC
  exact codeAny_compStart_list (loop _ rfl) (W.self 0 _ _ _ hst3 (loop _ rfl))

theorem ev_comp {elt iter : Expr} {x : Str} {px : Pos} {ifs : List Expr} {scope : Scope} {pos : Pos} {cl : List (Str × Addr)} {Ps : Gh → Value → Prop} {I : Gh → List Value → Prop} (mI : Mono I)
    (hsrc : Run prog w A (eval iter env) H Z Ps) (hclos : closureFor scope env = pure cl)
    (hbody : ∀ v H' Z', Kp H.get? H'.get? → Kp Z Z' → Kp Z' H'.get? → Ps Z' v → CompBody prog w A env scope cl x ifs elt (fun Z _ => I Z) v H' Z')
    (hcell : ∀ y ∈ scope.names, y.2 ≠ .cell := by decide) (hkind : scope.kind = .function := by rfl) (hnames : ∀ y ∈ scope.names, y.2 = .local → scope.names.lookup y.1 = some .local := by decide) (hx : scope.names.lookup x = some .local := by rfl)
    (hs : ∀ x, foldedSetIterable iter env x = pure x := by intro _; rfl) :
    Run prog w A (eval (.ListComp elt [⟨.Name x px, iter, ifs, 0⟩] scope pos) env) H Z (NwL H I) := by
  intro s Z1 k1 k2 k3
  rw [eval_ListComp]
  refine comp_any (use := none) (I := fun Z _ => I Z) (fun _ => mI) k1 k2 k3 hclos hcell hkind hnames hx hs hsrc hbody fun h' tk Z' D C ex nw hC hC0 hZC => ?_
  obtain ⟨m, hm⟩ := hC
  refine ⟨m, hm, fun h'' hs'' => ?_⟩
  have hne : ∀ b o, s.heap.get? b = some o → b ≠ C := fun b o e q => by rw [q, hC0] at e; cases e
  exact ⟨h'', tk, Z', rfl, ⟨fun b o e => hs''.extBut b o (hne b o e) (ex.hp b o e), ex.zz, fun b o e => hs''.extBut b o (fun q => by rw [q, hZC] at e; cases e) (ex.zh b o e), ex.old⟩, nw.weaken k1⟩

theorem ev_compK {elt iter : Expr} {x : Str} {px : Pos} {ifs : List Expr} {scope : Scope} {pos : Pos} {cl : List (Str × Addr)} {Ps : Gh → Value → Prop} {n : Nat} {I : Gh → Nat → List Value → Prop} (mI : ∀ tk, Mono (fun Z => I Z tk))
    (hsrc : Run prog w A (eval iter env) H Z Ps) (hclos : closureFor scope env = pure cl)
    (hbody : ∀ v H' Z', Kp H.get? H'.get? → Kp Z Z' → Kp Z' H'.get? → Ps Z' v → CompBody prog w A env scope cl x ifs elt I v H' Z')
    (hcell : ∀ y ∈ scope.names, y.2 ≠ .cell := by decide) (hkind : scope.kind = .function := by rfl) (hnames : ∀ y ∈ scope.names, y.2 = .local → scope.names.lookup y.1 = some .local := by decide) (hx : scope.names.lookup x = some .local := by rfl)
    (hs : ∀ x, foldedSetIterable iter env x = pure x := by intro _; rfl) :
    RunK prog w A (eval (.ListComp elt [⟨.Name x px, iter, ifs, 0⟩] scope pos) env) H Z n (fun Z' tk v => NwL H (fun Z => I Z tk) Z' v) := by
  intro s Z1 k1 k2 k3 _
  rw [eval_ListComp]
  refine comp_any (use := none) mI k1 k2 k3 hclos hcell hkind hnames hx hs hsrc hbody fun h' tk Z' D C ex nw hC hC0 hZC => ?_
  obtain ⟨m, hm⟩ := hC
  refine ⟨m, hm, fun h'' hs'' => ?_⟩
  have hne : ∀ b o, s.heap.get? b = some o → b ≠ C := fun b o e q => by rw [q, hC0] at e; cases e
  exact ⟨h'', tk, Z', rfl, ⟨fun b o e => hs''.extBut b o (hne b o e) (ex.hp b o e), ex.zz, fun b o e => hs''.extBut b o (fun q => by rw [q, hZC] at e; cases e) (ex.zh b o e), ex.old⟩, nw.weaken k1⟩

/-- going through v: the items bear the data ds -/
def SrcD (prog : Program) (w : World) (A : Around) (ds : List PyData) (v : Value) (H : Heap) (Z : Gh) : Prop := ∃ P, Src prog w A v H ds.length P ∧ ∀ i u, P i u → ∃ d, ds[i]? = some d ∧ Rd Z u d
theorem srcD_list {ds : List PyData} {v : Value} (hh : A.handled = none) (kz : Kp Z H.get?) (h : Rd Z v (.list ds)) : SrcD prog w A ds v H Z := by
  obtain ⟨a, vs, rfl, hl, rl⟩ := h.list_inv
  refine ⟨fun i v => vs[i]? = some v, rl.length ▸ src_list hh (hl.mono kz) trivial, fun i u e => rl.get e⟩
theorem srcD_tuple {ds : List PyData} {v : Value} (hh : A.handled = none) (kz : Kp Z H.get?) (h : Rd Z v (.tuple ds)) : SrcD prog w A ds v H Z := by
  obtain ⟨a, vs, rfl, hl, rl⟩ := h.tuple_inv
  refine ⟨fun i v => vs[i]? = some v, rl.length ▸ src_tuple hh (hl.mono kz) trivial, fun i u e => rl.get e⟩

theorem take_succ_of_get {α : Type} {l : List α} {k : Nat} {a : α} (h : l[k]? = some a) : l.take (k + 1) = l.take k ++ [a] := by
  rw [List.take_add_one, h]; rfl

/-- the body, by data: a test and a value for each item -/
theorem compBody_data {α : Type} {elt : Expr} {x : Str} {ifs : List Expr} {scope : Scope} {cl : List (Str × Addr)} {v : Value} (as : List α) (g : α → PyData) (p : α → Bool) (f : α → PyData) (hn : as.length ≤ sizeLine)
    (hS : SrcD prog w A (as.map g) v H Z)
    (htest : ∀ (k : Nat) (a : α), as[k]? = some a → ∀ u C H' Z' m, Kp H.get? H'.get? → Kp Z Z' → Kp Z' H'.get? → H'.Ns C m → m x = some u → Rd Z' u (g a) → Run prog w A (compTest ifs (compEnvC scope cl C env)) H' Z' (fun _ r => r = p a))
    (helt : ∀ (k : Nat) (a : α), as[k]? = some a → p a = true → ∀ u C H' Z' m, Kp H.get? H'.get? → Kp Z Z' → Kp Z' H'.get? → H'.Ns C m → m x = some u → Rd Z' u (g a) → Run prog w A (eval elt (compEnvC scope cl C env)) H' Z' (Is (f a))) :
    CompBody prog w A env scope cl x ifs elt (fun Z _ => Alls ((as.filter p).map f) Z) v H Z := by
  obtain ⟨P, hS, hP⟩ := hS
  refine ⟨as.length, P, fun k Z _ ys => RdAll Z ys (((as.take k).filter p).map f), by simpa using hS, hn, fun k Z Z' _ _ ys kz _ h => h.mono kz, fun _ => by simpa using RdAll.nil, ?_, fun Z' _ ys h => by dsimp only at h; rw [List.take_length] at h; exact h⟩
  intro k u C H' Z' tk ys m hk hPu kh kz kz' hn' hm hJ
  dsimp only at hJ ⊢
  obtain ⟨d, hd, rd⟩ := hP k u hPu
  obtain ⟨a, ha, rfl⟩ : ∃ a, as[k]? = some a ∧ g a = d := by simpa [List.getElem?_map] using hd
  have e1 := take_succ_of_get ha
  refine ⟨p a, htest k a ha u C H' Z' m kh kz kz' hn' hm (rd.mono kz), fun e => ?_, fun e => ?_⟩
  · rw [e1, List.filter_append]; simpa [e] using hJ
  · refine fun s Z1 k1 k2 k3 _ => (helt k a ha e u C H' Z' m kh kz kz' hn' hm (rd.mono kz)).cps k1 k2 k3 fun y h1 t1 Z2 ex p1 => ⟨h1, t1, Z2, rfl, ex, ?_⟩
    rw [e1, List.filter_append]
    simpa [e] using ((hJ.mono k2).mono ex.zz).append (RdAll.one p1)
end
end Mine
end

section
open PySem PySem.W PyProof.Rows
namespace Mine

/-- the state of a frame: its names (ρ), the frozen part (Z) and what it may still change (M) -/
structure St (S₀ : List Addr) (env : Env) (s₀ : Shared) (Z₀ : Gh) (Z : Gh) (s : Shared) (ρ : Str → Option Value) (M : List (Addr × (Obj → Prop))) : Prop where
  same : ∃ h tk, s = { s₀ with heap := h, toks := tk }
  keepF : KpF S₀ s₀.heap s.heap
  offS : ∀ b ∈ S₀, Z b = none ∧ ∃ o, s₀.heap.get? b = some o
  kz : Kp Z₀ Z
  keepZ : Kp Z s.heap.get?
  oldB : ∀ b o, s₀.heap.get? b = some o → Z b = Z₀ b
  ns : ∃ m, s.heap.Ns env.locals m ∧ ∀ x, env.kindOf x = some .local → m x = ρ x
  cell : ∀ n c, (n, c) ∈ env.cells → s.heap.IsCell c (ρ n)
  apart : env.cells.Pairwise fun x y => x.2 ≠ y.2
  names : (env.cells.map (·.1)).Nodup
  offL : s₀.heap.get? env.locals = none ∧ Z env.locals = none
  offC : ∀ n c, (n, c) ∈ env.cells → s₀.heap.get? c = none ∧ Z c = none ∧ c ≠ env.locals
  news : ∀ p ∈ M, (∃ o, s.heap.get? p.1 = some o ∧ p.2 o) ∧ s₀.heap.get? p.1 = none ∧ Z p.1 = none ∧ p.1 ≠ env.locals ∧ ∀ n c, (n, c) ∈ env.cells → p.1 ≠ c
  nodup : (M.map (·.1)).Nodup

def upd (ρ : Str → Option Value) (x : Str) (v : Value) : Str → Option Value := fun y => if y = x then some v else ρ y
theorem upd_at {ρ : Str → Option Value} {x : Str} {v : Value} : upd ρ x v x = some v := by simp [upd]
theorem upd_ne {ρ : Str → Option Value} {x y : Str} {v : Value} (h : y ≠ x) : upd ρ x v y = ρ y := by simp [upd, h]

theorem gh_none_sub {Y Z : Gh} {a : Addr} (k : Kp Y Z) (h : Z a = none) : Y a = none := by
  cases q : Y a with
  | none => rfl
  | some o' => have := k _ _ q; rw [h] at this; cases this
theorem apart_of_mem {cs : List (Str × Addr)} (h : cs.Pairwise fun x y => x.2 ≠ y.2) {n n' : Str} {c : Addr} (h1 : (n, c) ∈ cs) (h2 : (n', c) ∈ cs) : n = n' := by
  induction h with
  | nil => cases h1
  | cons hx _ ih =>
    rcases List.mem_cons.mp h1 with e1 | h1
    · rcases List.mem_cons.mp h2 with e2 | h2
      · rw [← e1] at e2; exact (congrArg Prod.fst e2).symm
      · exact absurd (congrArg Prod.snd e1) (fun q => hx _ h2 q.symm)
    · rcases List.mem_cons.mp h2 with e2 | h2
      · exact absurd (congrArg Prod.snd e2) (fun q => hx _ h1 q.symm)
      · exact ih h1 h2

section
variable {prog : Program} {w : World} {A : Around} {S₀ : List Addr} {env : Env} {s₀ s : Shared} {Z₀ Z : Gh} {ρ : Str → Option Value} {M : List (Addr × (Obj → Prop))}

theorem St.nmL {x : Str} {v : Value} (S : St S₀ env s₀ Z₀ Z s ρ M) (hv : ρ x = some v) (hl : env.kindOf x = some .local := by rfl) (hk : env.scope.kind = .function := by rfl) (hd : (x == ("__debug__" : Str)) = false := by decide) : Nm env s.heap x v := by
  obtain ⟨m, hn, hm⟩ := S.ns
  exact Nm.loc hn ((hm x hl).trans hv) hk hl hd
theorem St.nmC {x : Str} {v : Value} {c : Addr} (S : St S₀ env s₀ Z₀ Z s ρ M) (hv : ρ x = some v) (hl : env.kindOf x = some .cell := by rfl) (hc : env.cells.lookup x = some c := by rfl) (hk : env.scope.kind = .function := by rfl)
    (hd : (x == ("__debug__" : Str)) = false := by decide) : Nm env s.heap x v := Nm.cell hc (hv ▸ S.cell _ _ (PySem.mem_of_lookup hc)) hk hl hd

/-- behind a pure growth -/
theorem St.ext (S : St S₀ env s₀ Z₀ Z s ρ M) {h' : Heap} {tk : Nat} {Z' : Gh} (ex : Ext s.heap Z h' Z') : St S₀ env s₀ Z₀ Z' { s with heap := h', toks := tk } ρ M := by
  have liveL : ∃ o, s.heap.get? env.locals = some o := let ⟨_, ⟨o, _, _, e, _⟩, _⟩ := S.ns; ⟨o, e⟩
  obtain ⟨oL, eL⟩ := liveL
  obtain ⟨h, tk0, rfl⟩ := S.same
  refine ⟨⟨h', tk, rfl⟩, S.keepF.tr (.of ex.hp), fun b hb => ⟨let ⟨_, e⟩ := (S.offS b hb).2; let ⟨o', e', _⟩ := S.keepF.any e; (ex.old b o' e').trans (S.offS b hb).1, (S.offS b hb).2⟩, S.kz.tr ex.zz, ex.zh, fun b o e => let ⟨o', e', _⟩ := S.keepF.any e; (ex.old b o' e').trans (S.oldB b o e), let ⟨m, hn, hm⟩ := S.ns; ⟨m, hn.keeps ex.hp, hm⟩, fun n c e => (S.cell n c e).keeps ex.hp, S.apart, S.names,
    ⟨S.offL.1, (ex.old _ _ eL).trans S.offL.2⟩, fun n c hm => ?_, fun p hp => ?_, S.nodup⟩
  · obtain ⟨h1, h2, h3⟩ := S.offC n c hm
    obtain ⟨o, e, _⟩ := S.cell n c hm
    exact ⟨h1, (ex.old _ _ e).trans h2, h3⟩
  · obtain ⟨⟨o, e, po⟩, h1, h2, h3⟩ := S.news p hp
    exact ⟨⟨o, ex.hp _ _ e, po⟩, h1, (ex.old _ _ e).trans h2, h3⟩

/-- a pure tree in a frame -/
theorem St.ev {α : Type} {t : Sem α} {P : Gh → α → Prop} {Q : α → Shared → Prop} {E : Value → Shared → Prop} (S : St S₀ env s₀ Z₀ Z s ρ M) (h : Run prog w A t s.heap Z P)
    (k : ∀ v s' Z', St S₀ env s₀ Z₀ Z' s' ρ M → Kp Z Z' → Kp s.heap.get? s'.heap.get? → P Z' v → Q v s') : wpAny (model prog w) A t Q E s :=
  h.use S.keepZ fun v h' tk Z' ex p => k v _ Z' (S.ext ex) ex.zz ex.hp p
/-- the end of a frame -/
theorem St.post {P : Gh → Prop} (S : St [] env s₀ Z₀ Z s ρ M) (h : P Z) : Post s₀ Z₀ P s := by
  obtain ⟨h', tk, rfl⟩ := S.same
  exact ⟨h', tk, Z, rfl, ⟨S.keepF.nil, S.kz, S.keepZ, S.oldB⟩, h⟩
theorem St.kb (S : St [] env s₀ Z₀ Z s ρ M) : Kp s₀.heap.get? s.heap.get? := S.keepF.nil

/-- something of the frame's own is changed: one address, of which none of B, Z, the names speaks -/
theorem St.change (S : St S₀ env s₀ Z₀ Z s ρ M) {a : Addr} {h' : Heap} {tk : Nat} {ρ' : Str → Option Value} {M' : List (Addr × (Obj → Prop))} (hs : Heap.SameBut a s.heap h') (ha : s₀.heap.get? a = none) (hz : Z a = none)
    (ns : ∃ m, h'.Ns env.locals m ∧ ∀ x, env.kindOf x = some .local → m x = ρ' x) (cell : ∀ n c, (n, c) ∈ env.cells → h'.IsCell c (ρ' n))
    (news : ∀ p ∈ M', (∃ o, h'.get? p.1 = some o ∧ p.2 o) ∧ s₀.heap.get? p.1 = none ∧ Z p.1 = none ∧ p.1 ≠ env.locals ∧ ∀ n c, (n, c) ∈ env.cells → p.1 ≠ c) (nodup : (M'.map (·.1)).Nodup) :
    St S₀ env s₀ Z₀ Z { s with heap := h', toks := tk } ρ' M' := by
  obtain ⟨h, tk0, rfl⟩ := S.same
  have hne : ∀ b o, s₀.heap.get? b = some o → b ≠ a := fun b o e q => by rw [q, ha] at e; cases e
  exact ⟨⟨h', tk, rfl⟩, fun b o e => ⟨fun hb => hs.extBut b o (hne b o e) ((S.keepF b o e).1 hb), fun hb => let ⟨sl, e1⟩ := (S.keepF b o e).2 hb; ⟨sl, hs.extBut b _ (hne b o e) e1⟩⟩, S.offS, S.kz, fun b o e => hs.extBut b o (fun q => by rw [q, hz] at e; cases e) (S.keepZ b o e), S.oldB, ns, cell, S.apart, S.names, S.offL, S.offC, news, nodup⟩

theorem St.storeL {x : Str} {v : Value} {Q : Unit → Shared → Prop} {E : Value → Shared → Prop} {Mo : Model} (S : St S₀ env s₀ Z₀ Z s ρ M) (h : ∀ s', St S₀ env s₀ Z₀ Z s' (upd ρ x v) M → Q () s')
    (hl : env.kindOf x = some .local := by rfl) (hk : env.scope.kind = .function := by rfl) (hc : env.cells.lookup x = none := by rfl) : wpAny Mo A (storeName env x v) Q E s := by
  obtain ⟨m, hn, hm⟩ := S.ns
  refine wpAny_storeName_local hl hn (fun h' hn' hs => h _ (S.change (tk := s.toks + 1) hs S.offL.1 S.offL.2 ⟨_, hn', fun y hy => ?_⟩ (fun n c hmem => ?_) (fun p hp => ?_) S.nodup)) (by rw [hk]; rfl)
  · by_cases e : y = x
    · simp [e, upd]
    · simp [e, upd, hm y hy]
  · have hne : n ≠ x := fun q => by
      have e := lookup_of_mem_nodup S.names hmem
      rw [q, hc] at e; cases e
    rw [upd_ne hne]
    exact (S.cell n c hmem).sameBut hs (S.offC n c hmem).2.2
  · obtain ⟨⟨o, e, po⟩, r⟩ := S.news p hp
    exact ⟨⟨o, (hs.2 _ r.2.2.1).trans e, po⟩, r⟩

theorem St.storeC {x : Str} {v : Value} {c : Addr} {Q : Unit → Shared → Prop} {E : Value → Shared → Prop} {Mo : Model} (S : St S₀ env s₀ Z₀ Z s ρ M) (h : ∀ s', St S₀ env s₀ Z₀ Z s' (upd ρ x v) M → Q () s')
    (hl : env.kindOf x = some .cell := by rfl) (hc : env.cells.lookup x = some c := by rfl) (hk : env.scope.kind = .function := by rfl) : wpAny Mo A (storeName env x v) Q E s := by
  have hmem := PySem.mem_of_lookup hc
  obtain ⟨o1, o2, o3⟩ := S.offC x c hmem
  refine wpAny_storeName_cell hk hl hc (S.cell x c hmem) fun h' hv hs => h _ ?_
  refine S.change (tk := s.toks) hs o1 o2 ?_ (fun n c' hm' => ?_) (fun p hp => ?_) S.nodup
  · obtain ⟨m, hn, hm⟩ := S.ns
    refine ⟨m, hn.sameBut hs (Ne.symm o3), fun y hy => ?_⟩
    have hne : y ≠ x := fun q => by rw [q, hl] at hy; cases hy
    rw [upd_ne hne]; exact hm y hy
  · by_cases e : n = x
    · subst e
      by_cases e2 : c' = c
      · subst e2; rw [upd_at]; exact hv
      · have e3 := lookup_of_mem_nodup S.names hm'
        rw [hc] at e3
        exact absurd (Option.some.inj e3).symm e2
    · rw [upd_ne e]
      exact (S.cell n c' hm').sameBut hs fun q => e (apart_of_mem S.apart (q ▸ hm') hmem)
  · obtain ⟨⟨o, e, po⟩, r⟩ := S.news p hp
    exact ⟨⟨o, (hs.2 _ (r.2.2.2 x c hmem)).trans e, po⟩, r⟩

/-- a new object becomes the frame's own to change -/
theorem St.thaw (S : St S₀ env s₀ Z₀ Z s ρ M) {Y : Gh} {a : Addr} {o : Obj} {P : Obj → Prop} (kY : Kp Z₀ Y) (kYZ : Kp Y Z) (hY : Y a = none) (hYo : ∀ b o, s₀.heap.get? b = some o → Y b = Z₀ b) (ha : Z a = some o) (h0 : s₀.heap.get? a = none) (hP : P o) : St S₀ env s₀ Z₀ Y s ρ ((a, P) :: M) where
  same := S.same
  keepF := S.keepF
  offS := fun b hb => ⟨gh_none_sub kYZ (S.offS b hb).1, (S.offS b hb).2⟩
  kz := kY
  keepZ := kYZ.tr S.keepZ
  oldB := hYo
  ns := S.ns
  cell := S.cell
  apart := S.apart
  names := S.names
  offL := ⟨S.offL.1, gh_none_sub kYZ S.offL.2⟩
  offC := fun n c hm => ⟨(S.offC n c hm).1, gh_none_sub kYZ (S.offC n c hm).2.1, (S.offC n c hm).2.2⟩
  news := fun p hp => by
    rcases List.mem_cons.mp hp with rfl | hp
    · refine ⟨⟨o, S.keepZ _ _ ha, hP⟩, h0, hY, fun q => ?_, fun n c hm q => ?_⟩
      · rw [show a = env.locals from q, S.offL.2] at ha; cases ha
      · rw [show a = c from q, (S.offC n c hm).2.1] at ha; cases ha
    · obtain ⟨e, h1, h2, h3⟩ := S.news p hp
      exact ⟨e, h1, gh_none_sub kYZ h2, h3⟩
  nodup := by
    rw [List.map_cons, List.nodup_cons]
    refine ⟨fun hm => ?_, S.nodup⟩
    obtain ⟨p, hp, e⟩ := List.mem_map.mp hm
    have := (S.news p hp).2.2.1
    rw [e, ha] at this; cases this
end
end Mine
end

section
open PySem PySem.W PyProof.Rows PySem.Calls
namespace Mine

-- the program's text, by its places
def stm (k : Nat) : Stmt := PySem.Challenge.pw_nb0377_01.main.body.getD k (.Pass ⟨0, 0, 0, 0⟩)
def nameOf : Stmt → Str
  | .FunctionDef n _ _ _ _ _ _ _ _ _ => n
  | _ => Str.empty
def paramsOf : Stmt → Arguments
  | .FunctionDef _ a _ _ _ _ _ _ _ _ => a
  | _ => ⟨[], [], none, [], [], none, []⟩
def bodyOf : Stmt → List Stmt
  | .FunctionDef _ _ b _ _ _ _ _ _ _ => b
  | _ => []
def scopeOf : Stmt → Scope
  | .FunctionDef _ _ _ _ _ _ s _ _ _ => s
  | _ => { kind := .function, names := [], isGenerator := false, isCoroutine := false }

/-- the k-th statement's def lies at f -/
def Fn (k : Nat) (f : Addr) (H : Heap) : Prop := ∃ o pm cd doc, H.get? f = some o ∧ o.data = .func (docDef (nameOf (stm k)) (paramsOf (stm k)) (bodyOf (stm k)) (scopeOf (stm k)) pm cd doc) ∧ H.CodeRec cd (nameOf (stm k))
theorem Fn.mono {k : Nat} {f : Addr} {H H' : Heap} (h : Fn k f H) (kp : Kp H.get? H'.get?) : Fn k f H' := let ⟨o, pm, cd, doc, e, d, c⟩ := h; ⟨o, pm, cd, doc, kp _ _ e, d, c.keeps kp⟩

abbrev fenv (k : Nat) (L f : Addr) (cd : Value) : Env :=
  newEnv (scopeOf (stm k)) L mainGlobals (cellsFrom (L + 1) (scopeOf (stm k)).names []) (nameOf (stm k) ++ ".<locals>.") (some f) cd none builtinsNs

def bind0 (binds : List (Str × Value)) : Str → Option Value := binds.foldl (fun ρ p => upd ρ p.1 p.2) fun _ => none
theorem bindL_is (kd : Str → Option NameKind) : ∀ (binds : List (Str × Value)) (m ρ : Str → Option Value), (∀ x, kd x = some .local → m x = ρ x) → ∀ x, kd x = some .local → bindL kd binds m x = binds.foldl (fun ρ p => upd ρ p.1 p.2) ρ x
  | [], _, _, h, x, hx => h x hx
  | (n, v) :: r, m, ρ, h, x, hx => by
    unfold bindL
    refine bindL_is kd r _ (upd ρ n v) (fun y hy => ?_) x hx
    by_cases e : y = n
    · subst e; rw [if_pos hy]; simp [upd]
    · rw [upd_ne e]
      split
      · simp [e, h y hy]
      · exact h y hy
theorem bindC_is (kd : Str → Option NameKind) : ∀ (binds : List (Str × Value)) (m ρ : Str → Option Value), (∀ x, kd x ≠ some .local → m x = ρ x) → ∀ x, kd x ≠ some .local → bindC kd binds m x = binds.foldl (fun ρ p => upd ρ p.1 p.2) ρ x
  | [], _, _, h, x, hx => h x hx
  | (n, v) :: r, m, ρ, h, x, hx => by
    unfold bindC
    refine bindC_is kd r _ (upd ρ n v) (fun y hy => ?_) x hx
    by_cases e : y = n
    · subst e; rw [if_neg hy]; simp [upd]
    · rw [upd_ne e]
      split
      · exact h y hy
      · simp [e, h y hy]

theorem enter {S₀ : List Addr} {prog : Program} {w : World} {A : Around} {R : Result → Shared → Prop} {s : Shared} {Z : Gh} {k : Nat} {f : Addr} {args : List Value} {binds : List (Str × Value)}
    (hf : Fn k f s.heap) (hlim : s.heap.NoLimit) (hroom : A.depth < recursionLimit) (kz : Kp Z s.heap.get?) (hS : ∀ b ∈ S₀, Z b = none ∧ ∃ o, s.heap.get? b = some o)
    (h : ∀ L cd s₁, L = s.heap.objs.size → St S₀ (fenv k L f cd) s Z Z s₁ (bind0 binds) [] →
      wpAny (model prog w) (A.deeper (fenv k L f cd)) (execs (bodyOf (stm k)) (fenv k L f cd)) (fun fl s' => R (.ok (.ret (match fl with | .ret v => v | _ => .none))) s')
        (fun e s' => wpAny (model prog w) (A.deeper (fenv k L f cd)) (leaving (fenv k L f cd) e) (fun _ s'' => R (.error e) s'') (fun e' s'' => R (.error e') s'') s') s₁)
    (hbind : ∀ pm cd doc, bindArgs (docDef (nameOf (stm k)) (paramsOf (stm k)) (bodyOf (stm k)) (scopeOf (stm k)) pm cd doc) ⟨args, []⟩ = pure binds := by intro _ _ _; rfl)
    (hkind : ∀ n, ∀ x ∈ binds, (scopeOf (stm k)).names.lookup x.1 = some .local ∨ ((scopeOf (stm k)).names.lookup x.1 = some .cell ∧ ((cellsFrom n (scopeOf (stm k)).names []).lookup x.1).isSome = true) := by decide)
    (hnd : ((cellsFrom 0 (scopeOf (stm k)).names []).map (·.1)).Nodup := by decide) (hcl : ∀ n ∈ (cellsFrom 0 (scopeOf (stm k)).names []).map (·.1), (scopeOf (stm k)).names.lookup n ≠ some .local := by decide)
    (hco : (scopeOf (stm k)).isCoroutine = false := by rfl) (hgen : (scopeOf (stm k)).isGenerator = false := by rfl) (hk : (scopeOf (stm k)).kind = .function := by rfl) :
    codeAny (model prog w) A (.call (.ref f) ⟨args, []⟩) R s := by
  obtain ⟨o, pm, cd, doc, ho, hd, hc⟩ := hf
  refine codeAny_call_function hroom ho hd hco hgen rfl hc ?_
  rw [hbind]
  refine wpAny_pure (wpAny_newFunctionEnv_cells hk (hkind _) fun env he s' x => ?_)
  subst he
  obtain ⟨h₁, tk, rfl⟩ := x.toInCall.same
  have hkp := x.toInCall.keep
  refine ⟨hlim.keeps hkp, codeAny_func ?_⟩
  refine h s.heap.objs.size cd _ rfl ?_
  have hnames : ((cellsFrom (s.heap.objs.size + 1) (scopeOf (stm k)).names []).map (·.1)) = ((cellsFrom 0 (scopeOf (stm k)).names []).map (·.1)) := cellsFrom_names _ _ _ _ _ rfl
  refine ⟨⟨h₁, tk, rfl⟩, .of hkp, hS, .rf, kz.tr hkp, fun _ _ _ => rfl, ⟨_, x.toInCall.ns, fun y hy => ?_⟩, fun n c hm => ?_, x.apart, hnames ▸ hnd, ⟨heap_none_of_new x.toInCall.fresh, gh_none_of_new kz x.toInCall.fresh⟩, fun n c hm => ?_, (fun p hp => by cases hp), List.nodup_nil⟩
  · exact bindL_is _ binds _ _ (fun _ _ => rfl) y hy
  · have hne : (scopeOf (stm k)).names.lookup n ≠ some .local := hcl n (hnames ▸ List.mem_map.mpr ⟨_, hm, rfl⟩)
    have e := x.cell n c (lookup_of_mem_nodup (hnames ▸ hnd) hm)
    rw [bindC_is _ binds _ (fun _ => none) (fun _ _ => rfl) n hne] at e
    exact e
  · have hlt : s.heap.objs.size < c := Nat.lt_of_le_of_lt x.toInCall.fresh (x.above n c hm)
    exact ⟨heap_none_of_new (Nat.le_of_lt hlt), gh_none_of_new kz (Nat.le_of_lt hlt), fun q => Nat.lt_irrefl _ (Nat.lt_of_lt_of_le (x.above n c hm) (Nat.le_of_eq q))⟩


/-- what stands at the top, in every heap of the run -/
structure Gd (mg mb : Str → Option Value) (h : Heap) : Prop where
  g : h.Ns mainGlobals mg
  b : h.Ns builtinsNs mb
  nolimit : h.NoLimit
  fn : ∀ k ∈ ([1, 2, 3, 4, 5, 6, 8, 9, 10, 11, 12, 13] : List Nat), ∃ f, mg (nameOf (stm k)) = some (.ref f) ∧ Fn k f h
  blt : ∀ x ∈ (["hasattr", "enumerate", "ValueError", "isinstance", "int", "len", "range", "bool", "tuple"] : List Str), mg x = none ∧ mb x = bootBuiltins x
theorem Gd.keeps {mg mb : Str → Option Value} {h h' : Heap} (G : Gd mg mb h) (k : Kp h.get? h'.get?) : Gd mg mb h' :=
  ⟨G.g.keeps k, G.b.keeps k, G.nolimit.keeps k, fun j hj => let ⟨f, a, b⟩ := G.fn j hj; ⟨f, a, b.mono k⟩, G.blt⟩

theorem Nm.glob {env : Env} {H : Heap} {x : Str} {v : Value} {mg : Str → Option Value} (hg : H.Ns env.globals mg) (hv : mg x = some v) (hk : env.scope.kind = .function := by rfl) (hx : env.kindOf x = some .globalImplicit := by rfl)
    (hd : (x == ("__debug__" : Str)) = false := by decide) : Nm env H x v :=
  fun _ _ _ _ _ _ k q => Name_function_global hk hx (loadGlobal_global (hg.keeps k) hv q) hd
theorem Nm.blt {env : Env} {H : Heap} {x : Str} {v : Value} {mg mb : Str → Option Value} (hg : H.Ns env.globals mg) (hn : mg x = none) (hb : H.Ns env.builtins mb) (hv : mb x = some v) (hk : env.scope.kind = .function := by rfl)
    (hx : env.kindOf x = some .globalImplicit := by rfl) (hd : (x == ("__debug__" : Str)) = false := by decide) : Nm env H x v :=
  fun _ _ _ _ _ _ k q => Name_function_global hk hx (loadGlobal_builtin (hg.keeps k) hn (hb.keeps k) hv q) hd
theorem Gd.nmF {mg mb : Str → Option Value} {h : Heap} {env : Env} (G : Gd mg mb h) (k : Nat) (hm : k ∈ ([1, 2, 3, 4, 5, 6, 8, 9, 10, 11, 12, 13] : List Nat) := by decide) (hg : env.globals = mainGlobals := by rfl) (hk : env.scope.kind = .function := by rfl)
    (hx : env.kindOf (nameOf (stm k)) = some .globalImplicit := by rfl) (hd : (nameOf (stm k) == ("__debug__" : Str)) = false := by decide) : ∃ f, Nm env h (nameOf (stm k)) (.ref f) ∧ Fn k f h := by
  obtain ⟨f, a, b⟩ := G.fn k hm
  exact ⟨f, Nm.glob (hg ▸ G.g) a hk hx hd, b⟩
theorem Gd.nmB {mg mb : Str → Option Value} {h : Heap} {env : Env} (G : Gd mg mb h) {x : Str} {v : Value} (hv : bootBuiltins x = some v) (hm : x ∈ (["hasattr", "enumerate", "ValueError", "isinstance", "int", "len", "range", "bool", "tuple"] : List Str) := by decide)
    (hg : env.globals = mainGlobals := by rfl) (hb : env.builtins = builtinsNs := by rfl) (hk : env.scope.kind = .function := by rfl) (hx : env.kindOf x = some .globalImplicit := by rfl) (hd : (x == ("__debug__" : Str)) = false := by decide) : Nm env h x v :=
  Nm.blt (hg ▸ G.g) (G.blt x hm).1 (hb ▸ G.b) ((G.blt x hm).2.trans hv) hk hx hd

theorem boot_len : bootBuiltins "len" = some (.builtin "len") := by decide +kernel
theorem boot_range : bootBuiltins "range" = some (.type "range") := by decide +kernel
theorem boot_isinstance : bootBuiltins "isinstance" = some (.builtin "isinstance") := by decide +kernel
theorem boot_hasattr : bootBuiltins "hasattr" = some (.builtin "hasattr") := by decide +kernel
theorem boot_enumerate : bootBuiltins "enumerate" = some (.type "enumerate") := by decide +kernel
theorem boot_int : bootBuiltins "int" = some (.type "int") := by decide +kernel
theorem boot_bool : bootBuiltins "bool" = some (.type "bool") := by decide +kernel
theorem boot_tuple : bootBuiltins "tuple" = some (.type "tuple") := by decide +kernel
theorem boot_ValueError : bootBuiltins "ValueError" = some (.type "ValueError") := by decide +kernel

section
variable {prog : Program} {w : World} {A : Around} {H : Heap} {Z : Gh} {env : Env}
/-- a call of one of the program's defs -/
theorem ev_callF {x : Str} {p pos : Pos} {e : Expr} {rest : List Expr} {k : Nat} {f : Addr} {I : Gh → List Value → Prop} {P : Gh → Value → Prop} (n : Nm env H x (.ref f)) (hf : Fn k f H) (ha : Items prog w A env pos (e :: rest) H Z I)
    (hc : ∀ H' Z' vs, Kp H.get? H'.get? → Kp Z Z' → Kp Z' H'.get? → I Z' vs → Run prog w A (call (.ref f) vs) H' Z' P)
    (he : starEach (e :: rest) env = (false, eval e env) :: starEach rest env := by rfl)
    (hev : eval (.Call (.Name x p) (e :: rest) [] pos) env = (do callWith pos (← eval (.Name x p) env) [] (backTo pos (starEach (e :: rest) env)) (backToKw pos (keywordEach [] env))) := by rfl) :
    Run prog w A (eval (.Call (.Name x p) (e :: rest) [] pos) env) H Z P := by
  intro s Z1 k1 k2 k3
  refine Call_ (n _ _ _ _ s p k1 ?_) hev
  obtain ⟨o, pm, cd, doc, ho, hd, hcr⟩ := hf
  refine callWith_def hd (ha.cps k1 k2 k3 fun vs h1 t1 Z2 e1 p1 => ⟨e1.hp _ _ (k1 _ _ ho), ?_⟩) he
  exact Run.at e1 (hc h1 Z2 vs (k1.tr e1.hp) (k2.tr e1.zz) e1.zh p1)
theorem ev_callB {x : Str} {p pos : Pos} {e : Expr} {rest : List Expr} {id : String} {I : Gh → List Value → Prop} {P : Gh → Value → Prop} (n : Nm env H x (.builtin id)) (ha : Items prog w A env pos (e :: rest) H Z I)
    (hc : ∀ H' Z' vs, Kp H.get? H'.get? → Kp Z Z' → Kp Z' H'.get? → I Z' vs → Run prog w A (call (.builtin id) vs) H' Z' P)
    (he : starEach (e :: rest) env = (false, eval e env) :: starEach rest env := by rfl) (hplain : (backTo pos (starEach rest env)).any (·.1) = false := by rfl)
    (hev : eval (.Call (.Name x p) (e :: rest) [] pos) env = (do callWith pos (← eval (.Name x p) env) [] (backTo pos (starEach (e :: rest) env)) (backToKw pos (keywordEach [] env))) := by rfl) :
    Run prog w A (eval (.Call (.Name x p) (e :: rest) [] pos) env) H Z P := by
  intro s Z1 k1 k2 k3
  refine Call_ (n _ _ _ _ s p k1 ?_) hev
  refine callWith_builtin1 (ha.cps k1 k2 k3 fun vs h1 t1 Z2 e1 p1 => ?_) he hplain
  exact Run.at e1 (hc h1 Z2 vs (k1.tr e1.hp) (k2.tr e1.zz) e1.zh p1)
theorem ev_callT {x : Str} {p pos : Pos} {e : Expr} {rest : List Expr} {T : String} {I : Gh → List Value → Prop} {P : Gh → Value → Prop} (n : Nm env H x (.type T)) (ha : Items prog w A env pos (e :: rest) H Z I)
    (hc : ∀ H' Z' vs, Kp H.get? H'.get? → Kp Z Z' → Kp Z' H'.get? → I Z' vs → Run prog w A (call (.type T) vs) H' Z' P)
    (he : starEach (e :: rest) env = (false, eval e env) :: starEach rest env := by rfl) (hplain : (backTo pos (starEach rest env)).any (·.1) = false := by rfl)
    (hev : eval (.Call (.Name x p) (e :: rest) [] pos) env = (do callWith pos (← eval (.Name x p) env) [] (backTo pos (starEach (e :: rest) env)) (backToKw pos (keywordEach [] env))) := by rfl) :
    Run prog w A (eval (.Call (.Name x p) (e :: rest) [] pos) env) H Z P := by
  intro s Z1 k1 k2 k3
  refine Call_ (n _ _ _ _ s p k1 ?_) hev
  refine callWith_type1 (ha.cps k1 k2 k3 fun vs h1 t1 Z2 e1 p1 => ?_) he hplain
  exact Run.at e1 (hc h1 Z2 vs (k1.tr e1.hp) (k2.tr e1.zz) e1.zh p1)

-- len, range, isinstance, tuple
theorem ev_len {p pos : Pos} {e : Expr} {ds : List PyData} (n : Nm env H "len" (.builtin "len")) (h : Run prog w A (eval e env) H Z (Is (.list ds))) (hfit : (ds.length : Int) < 2 ^ 63)
    (he : starEach [e] env = (false, eval e env) :: starEach [] env := by rfl) (hev : eval (.Call (.Name "len" p) [e] [] pos) env = (do callWith pos (← eval (.Name "len" p) env) [] (backTo pos (starEach [e] env)) (backToKw pos (keywordEach [] env))) := by rfl) :
    Run prog w A (eval (.Call (.Name "len" p) [e] [] pos) env) H Z (Is (.int ds.length)) :=
  ev_callB n (items_consV (mono_is _) h items_nilV he) (fun H' Z' vs _ _ kz p => by
    obtain ⟨v, us, rfl, rv, rfl⟩ := p
    obtain ⟨a, ws, rfl, hl, rl⟩ := rv.list_inv
    exact Run.toks fun s _ _ k q => len_list ((hl.mono kz).mono k).isList (by simpa [rl.length] using hfit) (by
      have := q (.int ds.length (s.toks + 1)) (s.toks + 1 + 1) fun _ _ => .int ..
      simpa [rl.length] using this)) he rfl hev
theorem rg_mono (a b c : Int) : Mono (IsRg a b c) := fun _ _ _ k ⟨r, t, u, x, e, h⟩ => ⟨r, t, u, x, e, k _ _ h⟩
theorem ev_range1 {p pos : Pos} {e : Expr} {b : Int} (n : Nm env H "range" (.type "range")) (h : Run prog w A (eval e env) H Z (Is (.int b)))
    (he : starEach [e] env = (false, eval e env) :: starEach [] env := by rfl) (hev : eval (.Call (.Name "range" p) [e] [] pos) env = (do callWith pos (← eval (.Name "range" p) env) [] (backTo pos (starEach [e] env)) (backToKw pos (keywordEach [] env))) := by rfl) :
    Run prog w A (eval (.Call (.Name "range" p) [e] [] pos) env) H Z (IsRg 0 b 1) :=
  ev_callT n (items_consV (mono_is _) h items_nilV he) (fun H' Z' vs _ _ kz p => by
    obtain ⟨v, us, rfl, rv, rfl⟩ := p
    obtain ⟨t, rfl⟩ := rv.int_inv
    intro s Z1 k1 k2 k3
    refine call_range_1 ?_
    exact ⟨_, _, _, rfl, Ext.push k3 _ rfl, _, _, _, _, rfl, put_at⟩) he rfl hev
end
end Mine
end

section
open PySem PySem.W PyProof.Rows PySem.Calls
namespace Mine
section
variable {prog : Program} {w : World} {A : Around} {H : Heap} {Z : Gh} {env : Env}

theorem tst_or {x y : Expr} {pos : Pos} {b c : Bool} (hx : Tst prog w A env x H Z b) (hy : b = false → Tst prog w A env y H Z c) : Tst prog w A env (.BoolOp .Or [x, y] pos) H Z (b || c) := by
  intro s Z1 k1 k2 k3
  refine wpAny_isTrue_BoolOp (wpAny_allTrue_Or_cons (hx.cps k1 k2 k3 fun v h1 t1 Z2 e1 p1 => ?_))
  subst p1
  cases v with
  | true => exact ⟨h1, t1, Z2, rfl, e1, by simp⟩
  | false =>
    refine wpAny_allTrue_Or_cons ((hy rfl).cps (k1.tr e1.hp) (k2.tr e1.zz) e1.zh fun v h2 t2 Z3 e2 p2 => ?_)
    subst p2
    cases v with
    | true => exact ⟨h2, t2, Z3, rfl, e1.tr e2, by simp⟩
    | false => exact wpAny_allTrue_Or_nil ⟨h2, t2, Z3, rfl, e1.tr e2, by simp⟩

/-- «u is b or u == b» comes to q -/
def Same (prog : Program) (w : World) (A : Around) (u b : Value) (H : Heap) (q : Bool) : Prop :=
  ∃ r : Bool, (∀ Z, Run prog w A (compareOp .Is u b) H Z (Is (.bool r))) ∧ (r = true → q = true) ∧ (r = false → ∀ Z, Run prog w A (compareOp .Eq u b) H Z (Is (.bool q)))
theorem Same.mono {u b : Value} {H H' : Heap} {q : Bool} (h : Same prog w A u b H q) (k : Kp H.get? H'.get?) : Same prog w A u b H' q := by
  obtain ⟨r, h1, h2, h3⟩ := h
  exact ⟨r, fun Z => (h1 Z).mono k .rf, h2, fun e Z => (h3 e Z).mono k .rf⟩
theorem tst_same {x y : Str} {p1 p2 p3 p4 p5 p6 pos : Pos} {u b : Value} {q : Bool} (nx : Nm env H x u) (ny : Nm env H y b) (h : Same prog w A u b H q) :
    Tst prog w A env (.BoolOp .Or [.Compare (.Name x p1) [.Is] [.Name y p2] p3, .Compare (.Name x p4) [.Eq] [.Name y p5] p6] pos) H Z q := by
  obtain ⟨r, h1, h2, h3⟩ := h
  have t1 : Tst prog w A env (.Compare (.Name x p1) [.Is] [.Name y p2] p3) H Z r :=
    tst_cmp (ev_Compare (P1 := fun _ v => v = u) (P2 := fun _ v => v = b) (fun _ _ _ _ e => e) (ev_name nx fun _ _ => rfl) (ev_name ny fun _ _ => rfl) (fun H' Z' a c kh kz kz' pa pb => by subst pa pb; exact (h1 Z').mono kh .rf) rfl)
  cases r with
  | true => rw [h2 rfl]; exact tst_or t1 (c := true) (fun e => by cases e)
  | false =>
    have t2 := tst_or (pos := pos) t1 (y := .Compare (.Name x p4) [.Eq] [.Name y p5] p6) (c := q) fun _ =>
      tst_cmp (ev_Compare (P1 := fun _ v => v = u) (P2 := fun _ v => v = b) (fun _ _ _ _ e => e) (ev_name nx fun _ _ => rfl) (ev_name ny fun _ _ => rfl) (fun H' Z' a c kh kz kz' pa pb => by subst pa pb; exact (h3 rfl Z').mono kh .rf) rfl)
    simpa using t2

theorem same_list {u b : Value} {i j : Int} (hu : Rd H.get? u (.list [.int i])) (hb : Rd H.get? b (.list [.int j])) (hun : A.units + 64 < cLine) : Same prog w A u b H ((i == j)) := by
  have he : PyData.eqv (.list [.int i]) (.list [.int j]) = (i == j) := by simp [PyData.eqv, PyData.eqvAll]
  obtain ⟨x, vs, rfl, hx, rx⟩ := hu.list_inv
  obtain ⟨y, ws, rfl, hy, ry⟩ := hb.list_inv
  by_cases e : x = y
  · subst e
    refine ⟨true, fun Z => Run.same (fun _ _ _ _ q => wpAny_is_ref_self q) fun _ _ => .bool _, fun _ => ?_, (fun e => by cases e)⟩
    obtain ⟨o1, e1, _, n1, d1⟩ := hx
    obtain ⟨o2, e2, _, n2, d2⟩ := hy
    rw [e1] at e2; cases e2
    rw [d1] at d2; cases d2
    cases rx with
    | cons a1 r1 =>
      cases ry with
      | cons a2 r2 =>
        obtain ⟨_, q1⟩ := a1.int_inv
        obtain ⟨_, q2⟩ := a2.int_inv
        simp_all
  · refine ⟨false, fun Z => Run.same (fun s _ _ k q => ?_) fun _ _ => .bool _, (fun e => by cases e), fun _ Z => Run.same (fun s Q E k q => ?_) fun _ _ => .bool _⟩
    · obtain ⟨o1, e1, c1, _⟩ := hx
      obtain ⟨o2, e2, c2, _⟩ := hy
      exact wpAny_is_ref_other e (k _ _ e1) (k _ _ e2) (by rw [c1]; decide) q
    · obtain ⟨_, r1⟩ := hu.reads k
      obtain ⟨_, r2⟩ := hb.reads k
      exact eq_dataH r1 r2 rfl rfl hun (by rw [he]; exact q)

theorem same_int {i j : Int} {t u : Tok} (ht : t ≠ 0) (hu : u ≠ 0) (htu : t = u → i = j) (hs : smallInt i = true) (hun : A.units + 64 < cLine) : Same prog w A (.int i t) (.int j u) H ((i == j)) := by
  refine ⟨(i == j), fun Z => Run.same (fun s Q E k q => ?_) fun _ _ => .bool _, fun e => e, fun _ Z => Run.same (fun s Q E k q => ?_) fun _ _ => .bool _⟩
  · show wpAny (model prog w) A (do return Value.bool (← isSame (.int i t) (.int j u))) Q E s
    refine wpAny_bind ?_
    have e : isSame (.int i t) (.int j u) = (if i == j && smallInt i then isSame.cachedInt t u else isSame.created (i == j) t u) := rfl
    rw [e, hs]
    by_cases h : i = j
    · simp only [h, beq_self_eq_true, Bool.and_true, if_true, isSame.cachedInt, ht, hu]
      simp only [beq_self_eq_true, h] at q
      simp [ht, hu]
      exact wpAny_bind (wpAny_rule (wpAny_pure (wpAny_pure q)))
    · have hne : t ≠ u := fun x => h (htu x)
      have hb : (i == j) = false := by simpa using h
      simp only [hb, Bool.false_and, Bool.false_eq_true, if_false, isSame.created]
      simp [ht, hu, hne]
      rw [hb] at q
      exact wpAny_pure (wpAny_pure q)
  · have he : PyData.eqv (.int i) (.int j) = (i == j) := by simp [PyData.eqv]
    exact eq_dataH (Reads.int i t) (Reads.int j u) rfl rfl hun (by rw [he]; exact q)
end
end Mine
end

section
open PySem PySem.W PyProof.Rows PySem.Calls
namespace Mine
section
variable {prog : Program} {w : World} {A : Around} {S₀ : List Addr} {env : Env} {s₀ s : Shared} {Z₀ Z : Gh} {ρ : Str → Option Value} {M : List (Addr × (Obj → Prop))}

/-- x can be stored -/
def Sto (S₀ : List Addr) (env : Env) (s₀ : Shared) (Z₀ : Gh) (x : Str) : Prop := ∀ (Mo : Model) (A : Around) (Q : Unit → Shared → Prop) (E : Value → Shared → Prop) (Z : Gh) (s : Shared) (ρ : Str → Option Value) (M : List (Addr × (Obj → Prop))) (v : Value),
  St S₀ env s₀ Z₀ Z s ρ M → (∀ s', St S₀ env s₀ Z₀ Z s' (upd ρ x v) M → Q () s') → wpAny Mo A (storeName env x v) Q E s
theorem stoL {x : Str} (hl : env.kindOf x = some .local := by rfl) (hk : env.scope.kind = .function := by rfl) (hc : env.cells.lookup x = none := by rfl) : Sto S₀ env s₀ Z₀ x := fun _ _ _ _ _ _ _ _ _ S h => S.storeL h hl hk hc
theorem stoC {x : Str} {c : Addr} (hl : env.kindOf x = some .cell := by rfl) (hc : env.cells.lookup x = some c := by rfl) (hk : env.scope.kind = .function := by rfl) : Sto S₀ env s₀ Z₀ x := fun _ _ _ _ _ _ _ _ _ S h => S.storeC h hl hc hk

theorem St.sub {M' : List (Addr × (Obj → Prop))} (S : St S₀ env s₀ Z₀ Z s ρ M) (h : M'.Sublist M) : St S₀ env s₀ Z₀ Z s ρ M' :=
  { S with news := fun p hp => S.news p (h.subset hp), nodup := (h.map (·.1)).nodup S.nodup }

theorem assign_x {x : Str} {e : Expr} {pos pos' : Pos} {P : Gh → Value → Prop} {Q : Flow → Shared → Prop} {E : Value → Shared → Prop} (S : St S₀ env s₀ Z₀ Z s ρ M) (hx : Sto S₀ env s₀ Z₀ x) (h : Run prog w A (eval e env) s.heap Z P)
    (k : ∀ v s' Z', St S₀ env s₀ Z₀ Z' s' (upd ρ x v) M → Kp Z Z' → P Z' v → Q .next s') (hs : swapsWith e (some (.Name x pos')) pos.line env = pure false := by rfl) :
    wpAny (model prog w) A (exec (.Assign [.Name x pos'] e pos) env) Q E s :=
  wpAny_Assign_Name (S.ev h fun v s' Z' S' kz _ p => hx _ _ _ _ _ _ _ _ _ S' fun s'' S'' => k v s'' Z' S'' kz p) hs

theorem St.for_ {x : Str} {px pos : Pos} {iter : Expr} {body orelse : List Stmt} {n : Nat} {P : Nat → Value → Prop} {Ps : Gh → Value → Prop} {Q : Flow → Shared → Prop} {E : Value → Shared → Prop}
    (S : St S₀ env s₀ Z₀ Z s ρ M) (hx : Sto S₀ env s₀ Z₀ x) (J : Nat → Gh → (Str → Option Value) → List (Addr × (Obj → Prop)) → Prop) (hsrc : Run prog w A (eval iter env) s.heap Z Ps)
    (hS : ∀ v H' Z', Kp s.heap.get? H'.get? → Kp Z Z' → Kp Z' H'.get? → Ps Z' v → SrcB prog w A (fun b => (∃ o, s₀.heap.get? b = some o) ∧ b ∉ S₀) v H' n P) (h0 : ∀ Z', Kp Z Z' → J 0 Z' ρ M)
    (turn : ∀ k u Z' s' ρ' M' F, k < n → P k u → Kp Z Z' → J k Z' ρ' M' → St S₀ env s₀ Z₀ Z' s' (upd ρ' x u) (M' ++ F) →
      wpAny (model prog w) A (execs body env) (fun f s'' => match f with
        | .next | .cont => ∃ Z'' ρ'' M'', St S₀ env s₀ Z₀ Z'' s'' ρ'' (M'' ++ F) ∧ Kp Z' Z'' ∧ J (k + 1) Z'' ρ'' M''
        | .brk => Q .next s''
        | .ret v => Q (.ret v) s'') (fun _ _ => False) s')
    (done : ∀ Z' s' ρ' M', Kp Z Z' → J n Z' ρ' M' → St S₀ env s₀ Z₀ Z' s' ρ' M' → wpAny (model prog w) A (execs orelse env) (fun f s'' => Q f s'') (notedBy (model prog w) A env fun e s' => cameBackBy (model prog w) A env E e s') s')
    (hs : ∀ x, foldedSetIterable iter env x = pure x := by intro _; rfl) :
    wpAny (model prog w) A (exec (.For (.Name x px) iter body orelse pos) env) Q E s := by
  refine wpAny_For (S.ev hsrc fun v s1 Z1 S1 kz kh p => ?_) hs
  refine hS v s1.heap Z1 kh kz S1.keepZ p s1 _ _ .rf fun I fp wr Sti h' tk W st0 k4 hwr live hfp hnd => ?_
  have S2 : St S₀ env s₀ Z₀ Z1 { s1 with heap := h', toks := tk } ρ M := S1.ext (.keeps S1.keepZ k4)
  have liveL : ∀ {Z' : Gh} {s' : Shared} {ρ' : Str → Option Value} {M' : List (Addr × (Obj → Prop))}, St S₀ env s₀ Z₀ Z' s' ρ' M' → ∃ o, s'.heap.get? env.locals = some o := fun S' => let ⟨_, ⟨o, _, _, e, _⟩, _⟩ := S'.ns; ⟨o, e⟩
  have off0 : ∀ b ∈ wr, s₀.heap.get? b = none ∧ Z1 b = none ∧ b ≠ env.locals ∧ (∀ n c, (n, c) ∈ env.cells → b ≠ c) ∧ b ∉ M.map (·.1) := fun b hb => by
    have hb1 := hwr b hb
    refine ⟨?_, gh_none_sub S1.keepZ hb1, fun q => ?_, fun n c hm q => ?_, fun hm => ?_⟩
    · cases q : s₀.heap.get? b with
      | none => rfl
      | some o => obtain ⟨o', e', _⟩ := S1.keepF.any q; rw [hb1] at e'; cases e'
    · obtain ⟨o, e⟩ := liveL S1; rw [← q, hb1] at e; cases e
    · obtain ⟨o, e, _⟩ := S1.cell n c hm; rw [← q, hb1] at e; cases e
    · obtain ⟨p, hp, e⟩ := List.mem_map.mp hm
      obtain ⟨⟨o, e', _⟩, _⟩ := S1.news p hp
      rw [e, hb1] at e'; cases e'
  refine codeAny_forLoop (fun j s' => ∃ k Z' ρ' M', j = n + 1 - k ∧ k ≤ n ∧ Sti k s'.heap ∧ Kp Z Z' ∧ J k Z' ρ' M' ∧ St S₀ env s₀ Z₀ Z' s' ρ' M' ∧
    ∀ b ∈ wr, s₀.heap.get? b = none ∧ Z' b = none ∧ b ≠ env.locals ∧ (∀ n c, (n, c) ∈ env.cells → b ≠ c) ∧ b ∉ M'.map (·.1)) ?_ (n + 1) ⟨0, Z1, ρ, M, rfl, Nat.zero_le _, st0, kz, h0 _ kz, S2, off0⟩
  rintro j s' ⟨k, Z', ρ', M', rfl, hk, st, kz', hJ, S', off⟩
  by_cases hlt : k < n
  · refine W.item k s' _ _ hlt st fun u h₁ tk₁ hP st₁ keep₁ => ?_
    have S₁ : St S₀ env s₀ Z₀ Z' { s' with heap := h₁, toks := tk₁ } ρ' (M' ++ wr.map fun b => (b, fun o => h₁.get? b = some o)) := by
      obtain ⟨hh, tt, rfl⟩ := S'.same
      refine ⟨⟨h₁, tk₁, rfl⟩, fun b o e => ⟨fun hb => keep₁ b o (fun q => by rw [(off b q).1] at e; cases e) ((S'.keepF b o e).1 hb), fun hb => let ⟨sl, e1⟩ := (S'.keepF b o e).2 hb; ⟨sl, keep₁ b _ (fun q => by rw [(off b q).1] at e; cases e) e1⟩⟩, S'.offS, S'.kz, fun b o e => keep₁ b o (fun q => by rw [(off b q).2.1] at e; cases e) (S'.keepZ b o e), S'.oldB, ?_, fun n c hm => ?_, S'.apart, S'.names, S'.offL, S'.offC, fun p hp => ?_, ?_⟩
      · obtain ⟨m, hn, hm⟩ := S'.ns
        exact ⟨m, hn.at' fun o e => keep₁ _ o (fun q => (off _ q).2.2.1 rfl) e, hm⟩
      · obtain ⟨o, e, d⟩ := S'.cell n c hm
        exact ⟨o, keep₁ _ o (fun q => (off _ q).2.2.2.1 n c hm rfl) e, d⟩
      · rcases List.mem_append.mp hp with hp | hp
        · obtain ⟨⟨o, e, po⟩, r⟩ := S'.news p hp
          exact ⟨⟨o, keep₁ _ o (fun q => (off _ q).2.2.2.2 (List.mem_map_of_mem hp)) e, po⟩, r⟩
        · obtain ⟨b, hb, rfl⟩ := List.mem_map.mp hp
          obtain ⟨o, e⟩ := live _ _ st₁ b (W.sub _ hb)
          exact ⟨⟨o, e, e⟩, (off b hb).1, (off b hb).2.1, (off b hb).2.2.1, (off b hb).2.2.2.1⟩
      · rw [List.map_append, List.map_map]
        refine List.nodup_append.mpr ⟨S'.nodup, by simpa [Function.comp_def] using hnd, fun a ha b hb q => ?_⟩
        have hb' : b ∈ wr := by simpa [Function.comp_def] using hb
        exact (off b hb').2.2.2.2 (q ▸ ha)
    refine wpAny_assign_Name (hx _ _ _ _ _ _ _ _ u S₁ fun s₂ S₂ => ?_)
    refine wpAny_mono (turn k u Z' s₂ ρ' M' _ hlt hP kz' hJ S₂) (fun f s₃ hf => ?_) fun _ _ x => x.elim
    have fin : (∃ Z'' ρ'' M'', St S₀ env s₀ Z₀ Z'' s₃ ρ'' (M'' ++ wr.map fun b => (b, fun o => h₁.get? b = some o)) ∧ Kp Z' Z'' ∧ J (k + 1) Z'' ρ'' M'') → ∃ m, m < n + 1 - k ∧ ∃ k Z' ρ' M', m = n + 1 - k ∧ k ≤ n ∧ Sti k s₃.heap ∧ Kp Z Z' ∧ J k Z' ρ' M' ∧ St S₀ env s₀ Z₀ Z' s₃ ρ' M' ∧
        ∀ b ∈ wr, s₀.heap.get? b = none ∧ Z' b = none ∧ b ≠ env.locals ∧ (∀ n c, (n, c) ∈ env.cells → b ≠ c) ∧ b ∉ M'.map (·.1) := by
      rintro ⟨Z'', ρ'', M'', S₃, kz'', hJ'⟩
      refine ⟨n + 1 - (k + 1), by omega, k + 1, Z'', ρ'', M'', rfl, hlt, ?_, kz'.tr kz'', hJ', S₃.sub (List.sublist_append_left ..), fun b hb => ?_⟩
      · refine W.frame _ h₁ _ st₁ fun b hb o e => ?_
        by_cases hw : b ∈ wr
        · obtain ⟨⟨o', e1, e2⟩, _⟩ := S₃.news (b, fun o => h₁.get? b = some o) (List.mem_append_right _ (List.mem_map.mpr ⟨b, hw, rfl⟩))
          have e2 : h₁.get? b = some o' := e2
          rw [e] at e2; cases e2; exact e1
        · obtain hq | ⟨⟨o', e0⟩, hn0⟩ := hfp b hb
          · exact absurd hq hw
          · have e1 : h₁.get? b = some o' := (S₁.keepF b o' e0).1 hn0
            rw [e] at e1; cases e1; exact (S₃.keepF b _ e0).1 hn0
      · obtain ⟨_, r1, r2, r3, r4⟩ := S₃.news (b, fun o => h₁.get? b = some o) (List.mem_append_right _ (List.mem_map.mpr ⟨b, hb, rfl⟩))
        refine ⟨r1, r2, r3, r4, fun hm => ?_⟩
        have hn := S₃.nodup
        rw [List.map_append] at hn
        exact (List.nodup_append.mp hn).2.2 b hm b (List.mem_map.mpr ⟨_, List.mem_map.mpr ⟨b, hb, rfl⟩, rfl⟩) rfl
    cases f with
    | next => exact fin hf
    | cont => exact fin hf
    | brk => exact hf
    | ret v => exact hf
  · obtain rfl : k = n := by omega
    refine W.done s' _ _ st fun h₁ tk₁ keep₁ => ?_
    refine done Z' _ ρ' M' kz' hJ ?_
    obtain ⟨hh, tt, rfl⟩ := S'.same
    refine ⟨⟨h₁, tk₁, rfl⟩, fun b o e => ⟨fun hb => keep₁ b o (fun q => by rw [(off b q).1] at e; cases e) ((S'.keepF b o e).1 hb), fun hb => let ⟨sl, e1⟩ := (S'.keepF b o e).2 hb; ⟨sl, keep₁ b _ (fun q => by rw [(off b q).1] at e; cases e) e1⟩⟩, S'.offS, S'.kz, fun b o e => keep₁ b o (fun q => by rw [(off b q).2.1] at e; cases e) (S'.keepZ b o e), S'.oldB, ?_, fun n c hm => ?_, S'.apart, S'.names, S'.offL, S'.offC, fun p hp => ?_, S'.nodup⟩
    · obtain ⟨m, hn, hm⟩ := S'.ns
      exact ⟨m, hn.at' fun o e => keep₁ _ o (fun q => (off _ q).2.2.1 rfl) e, hm⟩
    · obtain ⟨o, e, d⟩ := S'.cell n c hm
      exact ⟨o, keep₁ _ o (fun q => (off _ q).2.2.2.1 n c hm rfl) e, d⟩
    · obtain ⟨⟨o, e, po⟩, r⟩ := S'.news p hp
      exact ⟨⟨o, keep₁ _ o (fun q => (off _ q).2.2.2.2 (List.mem_map_of_mem hp)) e, po⟩, r⟩
end
end Mine
end

section
open PySem PySem.W PyProof.Rows PySem.Calls
set_option maxRecDepth 100000
set_option maxHeartbeats 4000000
namespace Mine
theorem kind_hasattr : builtinKind "hasattr" = none := by decide +kernel
theorem plain_hasattr : plainId "hasattr" = true := by decide +kernel
theorem entry_hasattr : entryFor table "hasattr" = some Builtin.«hasattr» := entryFor_of_fast (by kernel_rfl)
theorem args_hasattr (a b : Value) : argsOk "hasattr" ⟨[a, b], []⟩ := by unfold argsOk; kernel_rfl

theorem ty_lgi : typeOf (.builtin "list.__getitem__") = pure (.type "method_descriptor") := by kernel_rfl
theorem slot_ld_get : Slot "method_descriptor" "__get__" "method_descriptor.__get__" :=
  .of (owner := "method_descriptor") (n := "__get__") (by rw [typeLookup_type, builtinLookup_eq_fast]; kernel_rfl) (by decide +kernel) (by decide +kernel) (by decide +kernel)
    (by first | exact .inl (by decide +kernel) | exact .inr (by decide +kernel)) (by rw [isSubtype_type]; kernel_rfl)
theorem lk_ld_set : typeLookup (.type "method_descriptor") "__set__" = pure none := by rw [typeLookup_type, builtinLookup_eq_fast]; kernel_rfl
theorem lk_ld_delete : typeLookup (.type "method_descriptor") "__delete__" = pure none := by rw [typeLookup_type, builtinLookup_eq_fast]; kernel_rfl
theorem entry_ld_get : entryFor table "method_descriptor.__get__" = some Builtin.«method_descriptor.__get__» := entryFor_of_tree (by kernel_rfl)
theorem args_ld_get (a b c : Value) : argsOk "method_descriptor.__get__" ⟨[a, b, c], []⟩ := by unfold argsOk; kernel_rfl
theorem lk_l_gi : typeLookup (.type "list") "__getitem__" = pure (some (.builtin "list.__getitem__")) := by rw [typeLookup_type, builtinLookup_eq_fast]; kernel_rfl
theorem sub_l_mod : isSubtype (.type "list") (.type "module") = pure false := by rw [isSubtype_type]; kernel_rfl
theorem sub_ll : isSubtype (.type "list") (.type "list") = pure true := by rw [isSubtype_type]; kernel_rfl
section
variable {prog : Program} {w : World} {A : Around} {E : Value → Shared → Prop}
theorem mdget_list {s : Shared} {a : Addr} {vs : List Value} {n : Nat} {R : Result → Shared → Prop} (hx : s.heap.get? a = some ({ cls := .type "list", data := .seq vs.toArray n } : Obj))
    (h : ∀ o, R (.ok (.ret (.ref s.heap.objs.size))) { s with heap := s.heap.push o }) : codeAny (model prog w) A (.call (.builtin "method_descriptor.__get__") ⟨[.builtin "list.__getitem__", .ref a, .type "list"], []⟩) R s := by
  obtain ⟨hp, g, d, tk, os⟩ := s
  have hT : (⟨hp, g, d, tk, os⟩ : Shared).TypeIs (.ref a) "list" := ⟨_, hx, rfl⟩
  have hT5 : (⟨hp, g, d, tk, os⟩ : Shared).TypeIs (.builtin "list.__getitem__") "method_descriptor" := ty_lgi
  have f8 := sub_ll
  have f9 : (Manifest.toldItsClass.contains "list.__getitem__") = false := by decide +kernel
  refine codeAny_call_builtin slot_ld_get.plain entry_ld_get (slot_ld_get.check _ _ _ _ _ _ _ _ hT5 (args_ld_get _ _ _) ?_)
  unfold Builtin.«method_descriptor.__get__»
  iterate 14 (first | assumption | wp_step)
  refine wpAny_of_eq (a := (Str.ofString "__getitem__", Value.type "list")) (by kernel_rfl) ?_
  iterate 8 (first | assumption | wp_step)
  repeat wp_step
  exact h _
theorem ga_list {s : Shared} {a : Addr} {vs : List Value} {n : Nat} {u : Tok} {Q : Fin → Shared → Prop} (hx : s.heap.get? a = some ({ cls := .type "list", data := .seq vs.toArray n } : Obj))
    (h : ∀ o, Q (.done (.ret (.ref s.heap.objs.size))) { s with heap := s.heap.push o }) : wpAny (model prog w) A (Builtin.«object.__getattribute__» ⟨[.ref a, .str "__getitem__" u], []⟩) Q E s := by
  obtain ⟨hp, g, d, tk, os⟩ := s
  have hT : (⟨hp, g, d, tk, os⟩ : Shared).TypeIs (.ref a) "list" := ⟨_, hx, rfl⟩
  have hT5 : (⟨hp, g, d, tk, os⟩ : Shared).TypeIs (.builtin "list.__getitem__") "method_descriptor" := ty_lgi
  have f1 := lk_l_gi
  have f5 := ty_lgi
  have f6 := slot_ld_get.lookup
  have f7 := lk_ld_set
  have f8 := lk_ld_delete
  unfold Builtin.«object.__getattribute__»
  repeat (any_goals (first | assumption | wp_step))
  exact mdget_list hx fun o => wpAny_pure (h o)
theorem hasattr_list {s : Shared} {a : Addr} {vs : List Value} {n : Nat} {u : Tok} {Q : Value → Shared → Prop} (hx : s.heap.get? a = some ({ cls := .type "list", data := .seq vs.toArray n } : Obj))
    (h : ∀ o, Q (.bool true) { s with heap := s.heap.push o }) : wpAny (model prog w) A (call (.builtin "hasattr") [.ref a, .str "__getitem__" u]) Q E s := by
  refine call_function_any kind_hasattr plain_hasattr entry_hasattr (args_hasattr _ _) ?_
  obtain ⟨hp, g, d, tk, os⟩ := s
  have hT : ∀ tk', (⟨hp, g, d, tk', os⟩ : Shared).TypeIs (.ref a) "list" := fun _ => ⟨_, hx, rfl⟩
  have f1 := lk_l_gi
  have f2 := sub_l_mod
  have f3 := F.slot_list_getattribute.lookup
  have f4 := F.slot_list_getattribute.bind (.ref a)
  have f5 := am_list_getattr_none
  unfold Builtin.«hasattr»
  repeat (any_goals (first | assumption | exact hT _ | wp_step))
  refine codeAny_call_builtin F.slot_list_getattribute.plain am_entry_list_getattribute (F.slot_list_getattribute.check _ _ _ _ _ _ _ _ (hT _) (F.args_list_getattribute_2 _ _) (ga_list hx fun o => ?_))
  repeat wp_step
  exact h o
end
end Mine
end

section
open PySem PySem.W PyProof.Rows PySem.Calls
set_option maxRecDepth 100000
set_option maxHeartbeats 4000000
namespace Mine

theorem ty_tgi : typeOf (.builtin "tuple.__getitem__") = pure (.type "wrapper_descriptor") := by kernel_rfl
theorem slot_td_get : Slot "wrapper_descriptor" "__get__" "wrapper_descriptor.__get__" :=
  .of (owner := "wrapper_descriptor") (n := "__get__") (by rw [typeLookup_type, builtinLookup_eq_fast]; kernel_rfl) (by decide +kernel) (by decide +kernel) (by decide +kernel)
    (by first | exact .inl (by decide +kernel) | exact .inr (by decide +kernel)) (by rw [isSubtype_type]; kernel_rfl)
theorem lk_td_set : typeLookup (.type "wrapper_descriptor") "__set__" = pure none := by rw [typeLookup_type, builtinLookup_eq_fast]; kernel_rfl
theorem lk_td_delete : typeLookup (.type "wrapper_descriptor") "__delete__" = pure none := by rw [typeLookup_type, builtinLookup_eq_fast]; kernel_rfl
theorem entry_td_get : entryFor table "wrapper_descriptor.__get__" = some Builtin.«wrapper_descriptor.__get__» := entryFor_of_tree (by kernel_rfl)
theorem args_td_get (a b c : Value) : argsOk "wrapper_descriptor.__get__" ⟨[a, b, c], []⟩ := by unfold argsOk; kernel_rfl
theorem lk_t_gi : typeLookup (.type "tuple") "__getitem__" = pure (some (.builtin "tuple.__getitem__")) := by rw [typeLookup_type, builtinLookup_eq_fast]; kernel_rfl
theorem sub_t_mod : isSubtype (.type "tuple") (.type "module") = pure false := by rw [isSubtype_type]; kernel_rfl
theorem sub_tt : isSubtype (.type "tuple") (.type "tuple") = pure true := by rw [isSubtype_type]; kernel_rfl
section
variable {prog : Program} {w : World} {A : Around} {E : Value → Shared → Prop}
theorem mdget_tuple {s : Shared} {a : Addr} {vs : List Value} {n : Nat} {R : Result → Shared → Prop} (hx : s.heap.get? a = some ({ cls := .type "tuple", data := .seq vs.toArray n } : Obj))
    (h : ∀ o, R (.ok (.ret (.ref s.heap.objs.size))) { s with heap := s.heap.push o }) : codeAny (model prog w) A (.call (.builtin "wrapper_descriptor.__get__") ⟨[.builtin "tuple.__getitem__", .ref a, .type "tuple"], []⟩) R s := by
  obtain ⟨hp, g, d, tk, os⟩ := s
  have hT : (⟨hp, g, d, tk, os⟩ : Shared).TypeIs (.ref a) "tuple" := ⟨_, hx, rfl⟩
  have hT5 : (⟨hp, g, d, tk, os⟩ : Shared).TypeIs (.builtin "tuple.__getitem__") "wrapper_descriptor" := ty_tgi
  have f8 := sub_tt
  have f9 : (Manifest.toldItsClass.contains "tuple.__getitem__") = false := by decide +kernel
  refine codeAny_call_builtin slot_td_get.plain entry_td_get (slot_td_get.check _ _ _ _ _ _ _ _ hT5 (args_td_get _ _ _) ?_)
  unfold Builtin.«wrapper_descriptor.__get__»
  iterate 12 (first | assumption | wp_step)
  refine wpAny_of_eq (a := (Str.ofString "__getitem__", Value.type "tuple")) (by kernel_rfl) ?_
  iterate 8 (first | assumption | wp_step)
  repeat wp_step
  exact h _
theorem ga_tuple {s : Shared} {a : Addr} {vs : List Value} {n : Nat} {u : Tok} {Q : Fin → Shared → Prop} (hx : s.heap.get? a = some ({ cls := .type "tuple", data := .seq vs.toArray n } : Obj))
    (h : ∀ o, Q (.done (.ret (.ref s.heap.objs.size))) { s with heap := s.heap.push o }) : wpAny (model prog w) A (Builtin.«object.__getattribute__» ⟨[.ref a, .str "__getitem__" u], []⟩) Q E s := by
  obtain ⟨hp, g, d, tk, os⟩ := s
  have hT : (⟨hp, g, d, tk, os⟩ : Shared).TypeIs (.ref a) "tuple" := ⟨_, hx, rfl⟩
  have hT5 : (⟨hp, g, d, tk, os⟩ : Shared).TypeIs (.builtin "tuple.__getitem__") "wrapper_descriptor" := ty_tgi
  have f1 := lk_t_gi
  have f5 := ty_tgi
  have f6 := slot_td_get.lookup
  have f7 := lk_td_set
  have f8 := lk_td_delete
  unfold Builtin.«object.__getattribute__»
  repeat (any_goals (first | assumption | wp_step))
  exact mdget_tuple hx fun o => wpAny_pure (h o)
theorem hasattr_tuple {s : Shared} {a : Addr} {vs : List Value} {n : Nat} {u : Tok} {Q : Value → Shared → Prop} (hx : s.heap.get? a = some ({ cls := .type "tuple", data := .seq vs.toArray n } : Obj))
    (h : ∀ o, Q (.bool true) { s with heap := s.heap.push o }) : wpAny (model prog w) A (call (.builtin "hasattr") [.ref a, .str "__getitem__" u]) Q E s := by
  refine call_function_any kind_hasattr plain_hasattr entry_hasattr (args_hasattr _ _) ?_
  obtain ⟨hp, g, d, tk, os⟩ := s
  have hT : ∀ tk', (⟨hp, g, d, tk', os⟩ : Shared).TypeIs (.ref a) "tuple" := fun _ => ⟨_, hx, rfl⟩
  have f1 := lk_t_gi
  have f2 := sub_t_mod
  have f3 := F.slot_tuple_getattribute.lookup
  have f4 := F.slot_tuple_getattribute.bind (.ref a)
  have f5 := am_tuple_getattr_none
  unfold Builtin.«hasattr»
  repeat (any_goals (first | assumption | exact hT _ | wp_step))
  refine codeAny_call_builtin F.slot_tuple_getattribute.plain am_entry_tuple_getattribute (F.slot_tuple_getattribute.check _ _ _ _ _ _ _ _ (hT _) (F.args_tuple_getattribute_2 _ _) (ga_tuple hx fun o => ?_))
  repeat wp_step
  exact h o
end
end Mine
end

section
open PySem PySem.W PyProof.Rows PySem.Calls
namespace Mine

/-- int keys whose tokens tell their numbers -/
def isTk (κ : Tok → Int) (k : Int) : Value → Bool
  | .int i t => i == k && (t != 0) && (κ t == i)
  | _ => false
theorem isTk_shape {κ : Tok → Int} {k : Int} {v : Value} (h : isTk κ k v = true) : ∃ t, v = .int k t ∧ t ≠ 0 ∧ κ t = k := by
  cases v <;> simp_all [isTk]
def tkKind (prog : Program) (w : World) (κ : Tok → Int) : KeyKind prog w Int where
  is := isTk κ
  hash := hashInt
  inj := fun v a b ha hb => by
    obtain ⟨t, rfl, _⟩ := isTk_shape ha
    obtain ⟨u, e, _⟩ := isTk_shape hb
    cases e; rfl
  byValue := fun k v h => by obtain ⟨t, rfl, _⟩ := isTk_shape h; rfl
  pyHash := fun hv h => by obtain ⟨t, rfl, _⟩ := isTk_shape hv; exact wpAny_pyHash_int h
  eqBool := fun hu hv h => by
    obtain ⟨t, rfl, _⟩ := isTk_shape hu
    obtain ⟨u, rfl, _⟩ := isTk_shape hv
    exact wpAny_eqBool_int h
  «strs» := fun k x t v h => by simp [isTk] at h

section
variable {prog : Program} {w : World} {A : Around} {H : Heap} {Z : Gh} {mg mb : Str → Option Value}

theorem run_call {k : Nat} {f : Addr} {args : List Value} {binds : List (Str × Value)} {P : Gh → Value → Prop} (hf : Fn k f H) (hlim : H.NoLimit) (hroom : A.depth < recursionLimit)
    (h : ∀ L cd s₀ Z₀ s₁, Kp H.get? s₀.heap.get? → Kp Z Z₀ → Kp Z₀ s₀.heap.get? → St [] (fenv k L f cd) s₀ Z₀ Z₀ s₁ (bind0 binds) [] →
      wpAny (model prog w) (A.deeper (fenv k L f cd)) (execs (bodyOf (stm k)) (fenv k L f cd)) (fun fl s' => Post s₀ Z₀ (fun Z' => P Z' (match fl with | .ret v => v | _ => .none)) s') (fun _ _ => False) s₁)
    (hbind : ∀ pm cd doc, bindArgs (docDef (nameOf (stm k)) (paramsOf (stm k)) (bodyOf (stm k)) (scopeOf (stm k)) pm cd doc) ⟨args, []⟩ = pure binds := by intro _ _ _; rfl)
    (hkind : (binds.all fun y => (scopeOf (stm k)).names.lookup y.1 == some .local || (scopeOf (stm k)).names.lookup y.1 == some .cell) = true := by rfl)
    (hnd : ((cellsFrom 0 (scopeOf (stm k)).names []).map (·.1)).Nodup := by decide) (hcl : ∀ n ∈ (cellsFrom 0 (scopeOf (stm k)).names []).map (·.1), (scopeOf (stm k)).names.lookup n ≠ some .local := by decide)
    (hco : (scopeOf (stm k)).isCoroutine = false := by rfl) (hgen : (scopeOf (stm k)).isGenerator = false := by rfl) (hk : (scopeOf (stm k)).kind = .function := by rfl) :
    Run prog w A (call (.ref f) args) H Z P := by
  intro s Z1 k1 k2 k3
  refine wpAny_call (enter (S₀ := []) (hf.mono k1) (hlim.keeps k1) hroom k3 (fun _ hb => by cases hb) (fun L cd s₁ _ S => ?_) hbind (kindsX hkind) hnd hcl hco hgen hk)
  exact wpAny_mono (h L cd s Z1 s₁ k1 k2 k3 S) (fun _ _ p => p) fun _ _ x => x.elim

theorem ret_post {env : Env} {s₀ s : Shared} {Z₀ Z : Gh} {ρ : Str → Option Value} {M : List (Addr × (Obj → Prop))} {e : Expr} {pos : Pos} {rest : List Stmt} {P : Gh → Value → Prop} {E : Value → Shared → Prop} (S : St [] env s₀ Z₀ Z s ρ M) (h : Run prog w A (eval e env) s.heap Z P) :
    wpAny (model prog w) A (execs (.Return (some e) pos :: rest) env) (fun fl s' => Post s₀ Z₀ (fun Z' => P Z' (match fl with | .ret v => v | _ => .none)) s') E s :=
  wpAny_execs_cons (wpAny_Return_some (S.ev h fun _ _ _ S' _ _ p => S'.post p))

/-- an item, by value -/
theorem ev_itemV {env : Env} {value idx : Expr} {pos : Pos} {a : Addr} {vs : List Value} {k : Int} {j : Nat} {x : Value} (hv : Run prog w A (eval value env) H Z (fun _ v => v = .ref a)) (hi : Run prog w A (eval idx env) H Z (fun _ v => ∃ t, v = .int k t))
    (hl : IsL H.get? a vs) (hfit : -(2 ^ 63) ≤ k ∧ k < 2 ^ 63) (hj : seqIndex? k vs.length = some j) (hx : vs[j]? = some x) (hs : ∀ o i, subscripted idx false o i = operate [o, i] (getItem o i) := by intro _ _; with_unfolding_all rfl) :
    Run prog w A (eval (.Subscript value idx pos) env) H Z (fun _ v => v = x) := by
  intro s Z1 k1 k2 k3
  refine Subscript_ (hv.cps k1 k2 k3 fun v h1 t1 Z2 e1 p1 => ?_)
  refine hi.cps (k1.tr e1.hp) (k2.tr e1.zz) e1.zh fun b h2 t2 Z3 e2 p2 => ?_
  subst p1
  obtain ⟨u, rfl⟩ := p2
  have hl' : ({ s with heap := h2, toks := t2 } : Shared).heap.IsList a vs.toArray := (hl.mono (k1.tr (e1.hp.tr e2.hp))).isList
  have fin : Post s Z1 (fun _ => x = x) { s with heap := h2, toks := t2 } := ⟨h2, t2, Z3, rfl, e1.tr e2, rfl⟩
  by_cases h0 : k < 0
  · have hb : -(vs.length : Int) ≤ k ∧ (k + vs.length).toNat = j := by
      simp only [seqIndex?, h0, ↓reduceIte] at hj
      split at hj
      · rename_i hc
        simp only [Bool.and_eq_true, decide_eq_true_eq] at hc
        cases hj
        exact ⟨by omega, rfl⟩
      · cases hj
    exact tail_any hl'.typeIs slot_list_getitem.lookup (wpAny_getItem_list_neg hl' h0 (by simpa using hb.1) hfit.1 (by simpa [hb.2] using hx) fin) (hs _ _)
  · have e : k.toNat = j := by
      simp only [seqIndex?, h0, ↓reduceIte] at hj
      split at hj
      · cases hj; rfl
      · cases hj
    exact tail_any hl'.typeIs slot_list_getitem.lookup (wpAny_getItem_list hl' (by omega) hfit.2 (by rw [e]; simpa using hx) fin) (hs _ _)

theorem getitem_list {f : Addr} {a : Addr} {vs : List Value} {k : Int} {t : Tok} {j : Nat} {x : Value} (G : Gd mg mb H) (hf : Fn 5 f H) (hroom : A.depth < recursionLimit) (hl : IsL H.get? a vs) (hfit : -(2 ^ 63) ≤ k ∧ k < 2 ^ 63) (hj : seqIndex? k vs.length = some j) (hx : vs[j]? = some x) :
    Run prog w A (call (.ref f) [.ref a, .int k t]) H Z (fun _ v => v = x) := by
  refine run_call (binds := [("a", .ref a), ("b", .int k t)]) hf G.nolimit hroom fun L cd s₀ Z₀ s₁ kh kz kz' S => ?_
  refine ret_post (P := fun _ v => v = x) S ?_
  exact ev_itemV (ev_name (S.nmL (x := "a") rfl) fun _ _ => rfl) (ev_name (S.nmL (x := "b") rfl) fun _ _ => ⟨_, rfl⟩) (hl.mono (kh.tr S.kb)) hfit hj hx
end
end Mine
end

section
open PySem PySem.W PyProof.Rows PySem.Calls
namespace Mine
section
variable {prog : Program} {w : World} {A : Around} {H : Heap} {Z : Gh} {mg mb : Str → Option Value}

theorem getitem_dict {κ : Tok → Int} {f d : Addr} {kvs : List (Int × Value)} {k : Int} {t : Tok} {x : Value} (G : Gd mg mb H) (hf : Fn 5 f H) (hroom : A.depth < recursionLimit) (hd : H.DictOf (tkKind prog w κ) d kvs) (hk : isTk κ k (.int k t) = true) (hx : valueAt kvs k = some x) :
    Run prog w A (call (.ref f) [.ref d, .int k t]) H Z (fun _ v => v = x) := by
  refine run_call (binds := [("a", .ref d), ("b", .int k t)]) hf G.nolimit hroom fun L cd s₀ Z₀ s₁ kh kz kz' S => ?_
  refine ret_post (P := fun _ v => v = x) S ?_
  have na := S.nmL (x := "a") rfl
  have nb := S.nmL (x := "b") rfl
  intro s Z1 k1 k2 k3
  refine Subscript_ (na _ _ _ _ _ _ k1 (nb _ _ _ _ _ _ k1 ?_))
  have hd' : s.heap.DictOf (tkKind prog w κ) d kvs := hd.keep (kh.tr (S.kb.tr k1))
  refine tail_any hd'.mapOf.typeIs slot_dict_getitem.lookup (wpAny_getItem_of (knd := tkKind prog w κ) (k := k) hk hd'.mapOf hx ?_) (by with_unfolding_all rfl)
  exact ⟨s.heap, s.toks + 1, Z1, rfl, .rf k3, rfl⟩

-- contains
theorem contains_list {f : Addr} {a b : Value} {xs : List PyData} {d : PyData} (G : Gd mg mb H) (hf : Fn 2 f H) (hroom : A.depth < recursionLimit) (ha : Rd H.get? a (.list xs)) (hb : Rd H.get? b d)
    (hxs : PyData.canLayAll0 xs = true) (hd : d.canLay0 = true) (hu : A.units + 64 < cLine) (hdp : d.depth ≤ 16) : Run prog w A (call (.ref f) [a, b]) H Z (Is (.bool (xs.any fun y => PyData.eqv y d))) := by
  refine run_call (binds := [("a", a), ("b", b)]) hf G.nolimit hroom fun L cd s₀ Z₀ s₁ kh kz kz' S => ?_
  refine ret_post (P := Is _) S ?_
  have na := S.nmL (x := "a") rfl
  have nb := S.nmL (x := "b") rfl
  refine ev_Compare (P1 := fun _ v => v = b) (P2 := fun _ v => v = a) (fun _ _ _ _ e => e) (ev_name nb fun _ _ => rfl) (ev_name na fun _ _ => rfl) (fun H' Z' x y kh' _ _ px py => ?_) rfl
  subst px py
  refine Run.same (fun s Q E k q => ?_) fun _ _ => .bool _
  obtain ⟨_, r1⟩ := ha.reads (h := s.heap) (kh.tr (S.kb.tr (kh'.tr k)))
  obtain ⟨_, r2⟩ := hb.reads (h := s.heap) (kh.tr (S.kb.tr (kh'.tr k)))
  refine SeqAt.in_list_reads r1 r2 hxs hd ?_ q
  have := Nat.min_le_right (PyData.depthAll xs) d.depth
  simp only [Around.deeper_units]; omega
theorem contains_tuple {f : Addr} {a b : Value} {xs : List PyData} {d : PyData} (G : Gd mg mb H) (hf : Fn 2 f H) (hroom : A.depth < recursionLimit) (ha : Rd H.get? a (.tuple xs)) (hb : Rd H.get? b d)
    (hxs : PyData.canLayAll0 xs = true) (hd : d.canLay0 = true) (hu : A.units + 64 < cLine) (hdp : d.depth ≤ 16) : Run prog w A (call (.ref f) [a, b]) H Z (Is (.bool (xs.any fun y => PyData.eqv y d))) := by
  refine run_call (binds := [("a", a), ("b", b)]) hf G.nolimit hroom fun L cd s₀ Z₀ s₁ kh kz kz' S => ?_
  refine ret_post (P := Is _) S ?_
  have na := S.nmL (x := "a") rfl
  have nb := S.nmL (x := "b") rfl
  refine ev_Compare (P1 := fun _ v => v = b) (P2 := fun _ v => v = a) (fun _ _ _ _ e => e) (ev_name nb fun _ _ => rfl) (ev_name na fun _ _ => rfl) (fun H' Z' x y kh' _ _ px py => ?_) rfl
  subst px py
  refine Run.same (fun s Q E k q => ?_) fun _ _ => .bool _
  obtain ⟨_, r1⟩ := ha.reads (h := s.heap) (kh.tr (S.kb.tr (kh'.tr k)))
  obtain ⟨_, r2⟩ := hb.reads (h := s.heap) (kh.tr (S.kb.tr (kh'.tr k)))
  refine SeqAt.in_tuple_reads r1 r2 hxs hd ?_ q
  have := Nat.min_le_right (PyData.depthAll xs) d.depth
  simp only [Around.deeper_units]; omega
theorem contains_dict {κ : Tok → Int} {f d : Addr} {kvs : List (Int × Value)} {k : Int} {t : Tok} (G : Gd mg mb H) (hf : Fn 2 f H) (hroom : A.depth < recursionLimit) (hd : H.DictOf (tkKind prog w κ) d kvs) (hds : (d == sysModules) = false) (hk : isTk κ k (.int k t) = true) :
    Run prog w A (call (.ref f) [.ref d, .int k t]) H Z (Is (.bool (valueAt kvs k).isSome)) := by
  refine run_call (binds := [("a", .ref d), ("b", .int k t)]) hf G.nolimit hroom fun L cd s₀ Z₀ s₁ kh kz kz' S => ?_
  refine ret_post (P := Is _) S ?_
  have na := S.nmL (x := "a") rfl
  have nb := S.nmL (x := "b") rfl
  refine ev_Compare (P1 := fun _ v => v = .int k t) (P2 := fun _ v => v = .ref d) (fun _ _ _ _ e => e) (ev_name nb fun _ _ => rfl) (ev_name na fun _ _ => rfl) (fun H' Z' x y kh' _ _ px py => ?_) rfl
  subst px py
  exact Run.toks fun s Q E k' q => wpAny_in_of (knd := tkKind prog w κ) hk hds (hd.keep (kh.tr (S.kb.tr (kh'.tr k')))).mapOf (q _ _ fun _ _ => .bool _)

-- concat
theorem concat_list {f a b : Addr} {vs ws : List Value} {n : Nat} {I : Gh → List Value → Prop} (mI : Mono I) (G : Gd mg mb H) (hf : Fn 1 f H) (hroom : A.depth < recursionLimit) (ha : H.get? a = some (lst vs n)) (hb : IsL H.get? b ws) (hI : I Z (vs ++ ws)) (hsz : vs.length + ws.length ≤ sizeLine) :
    Run prog w A (call (.ref f) [.ref a, .ref b]) H Z (NwL H I) := by
  refine run_call (binds := [("a", .ref a), ("b", .ref b)]) hf G.nolimit hroom fun L cd s₀ Z₀ s₁ kh kz kz' S => ?_
  have na := S.nmL (x := "a") rfl
  have G' := G.keeps (kh.tr S.kb)
  have nh : Nm (fenv 1 L f cd) s₁.heap "hasattr" (.builtin "hasattr") := G'.nmB boot_hasattr
  refine wpAny_execs_cons (wpAny_If (S.ev (P := fun _ b => b = false) (tst_not (b := true) (tst_value (ev_callB nh (items_consV (P := fun _ v => v = .ref a) (fun _ _ _ _ e => e) (ev_name na fun _ _ => rfl) (items_consV (mono_is _) ev_str items_nilV)) ?_) rfl)) fun r s2 Z2 S2 kz2 kh2 hr => ?_))
  · rintro H' Z' us kh' kz' kzz ⟨v, us, rfl, rfl, u2, us2, rfl, r2, rfl⟩
    obtain ⟨t, rfl⟩ := r2.str_inv
    intro s Z1 k1 k2 k3
    exact hasattr_list ((kh.tr (S.kb.tr (kh'.tr k1))) _ _ ha) fun o => ⟨_, s.toks, Z1, rfl, .keeps k3 fun _ _ e => Heap.get?_push_of_some _ e, .bool _⟩
  · subst hr
    simp only [Bool.false_eq_true, if_false]
    refine wpAny_execs_nil ?_
    refine ret_post (P := NwL H I) S2 ?_
    have na2 := S2.nmL (x := "a") rfl
    have nb2 := S2.nmL (x := "b") rfl
    refine ev_BinOp (P1 := fun _ v => v = .ref a) (P2 := fun _ v => v = .ref b) (fun _ _ _ _ e => e) (ev_name na2 fun _ _ => rfl) (ev_name nb2 fun _ _ => rfl) fun H' Z' x y kh' kz' kzz px py => ?_
    subst px py
    have kH : Kp H.get? H'.get? := kh.tr (S2.kb.tr kh')
    refine (run_ladd mI kzz ⟨_, kH _ _ ha, rfl, n, rfl⟩ (hb.mono kH) (mI _ _ _ (kz.tr (kz2.tr kz')) hI) hsz).conseq fun _ _ _ p => p.weaken kH
end
end Mine
end

section
open PySem PySem.W PyProof.Rows PySem.Calls
namespace Mine
section
variable {prog : Program} {w : World} {A : Around} {H : Heap} {Z : Gh} {mg mb : Str → Option Value}

theorem aug_add {env : Env} {s₀ s : Shared} {Z₀ : Gh} {ρ : Str → Option Value} {M : List (Addr × (Obj → Prop))} {x : Str} {p pos : Pos} {e : Expr} {a b : Int} {t : Tok} {Q : Flow → Shared → Prop} {E : Value → Shared → Prop} (S : St [] env s₀ Z₀ Z s ρ M) (hv : ρ x = some (.int a t))
    (he : Run prog w A (eval e env) s.heap Z (Is (.int b))) (k : ∀ s' Z' t', St [] env s₀ Z₀ Z' s' (upd ρ x (.int (a + b) t')) M → Kp Z Z' → Q .next s')
    (hl : env.kindOf x = some .local := by rfl) (hk : env.scope.kind = .function := by rfl) (hc : env.cells.lookup x = none := by rfl) :
    wpAny (model prog w) A (exec (.AugAssign (.Name x p) .Add e pos) env) Q E s := by
  obtain ⟨m, hn, hm⟩ := S.ns
  refine wpAny_AugAssign_Name (wpAny_loadName_local hk hl hn ((hm x hl).trans hv) (S.ev he fun v s1 Z1 S1 kz _ r => ?_))
  obtain ⟨u, rfl⟩ := r.int_inv
  refine iadd_int ?_
  have S2 : St [] env s₀ Z₀ Z1 { s1 with toks := s1.toks + 1 } ρ M := S1.ext (tk := s1.toks + 1) (.rf S1.keepZ)
  exact S2.storeL (fun s' S' => k s' Z1 _ S' kz) hl hk hc

theorem concat_tuple {f a b : Addr} {vs ws : List Value} {n : Nat} (G : Gd mg mb H) (hf : Fn 1 f H) (hroom : A.depth < recursionLimit) (kzH : Kp Z H.get?) (ha : Z a = some (tpl vs n)) (hb : IsT Z b ws) (hne : vs ≠ []) (hsz : vs.length + ws.length ≤ sizeLine) :
    Run prog w A (call (.ref f) [.ref a, .ref b]) H Z (fun Z' v => ∃ c, v = .ref c ∧ IsT Z' c (vs ++ ws)) := by
  refine run_call (binds := [("a", .ref a), ("b", .ref b)]) hf G.nolimit hroom fun L cd s₀ Z₀ s₁ kh kz kz' S => ?_
  have na := S.nmL (x := "a") rfl
  have G' := G.keeps (kh.tr S.kb)
  have nh : Nm (fenv 1 L f cd) s₁.heap "hasattr" (.builtin "hasattr") := G'.nmB boot_hasattr
  refine wpAny_execs_cons (wpAny_If (S.ev (P := fun _ b => b = false) (tst_not (b := true) (tst_value (ev_callB nh (items_consV (P := fun _ v => v = .ref a) (fun _ _ _ _ e => e) (ev_name na fun _ _ => rfl) (items_consV (mono_is _) ev_str items_nilV)) ?_) rfl)) fun r s2 Z2 S2 kz2 kh2 hr => ?_))
  · rintro H' Z' us kh' kz' kzz ⟨v, us, rfl, rfl, u2, us2, rfl, r2, rfl⟩
    obtain ⟨t, rfl⟩ := r2.str_inv
    intro s Z1 k1 k2 k3
    exact hasattr_tuple ((kh.tr (S.kb.tr (kh'.tr k1))) _ _ (kzH _ _ ha)) fun o => ⟨_, s.toks, Z1, rfl, .keeps k3 fun _ _ e => Heap.get?_push_of_some _ e, .bool _⟩
  · subst hr
    simp only [Bool.false_eq_true, if_false]
    refine wpAny_execs_nil ?_
    refine ret_post (P := fun Z' v => ∃ c, v = .ref c ∧ IsT Z' c (vs ++ ws)) S2 ?_
    have na2 := S2.nmL (x := "a") rfl
    have nb2 := S2.nmL (x := "b") rfl
    refine ev_BinOp (P1 := fun _ v => v = .ref a) (P2 := fun _ v => v = .ref b) (fun _ _ _ _ e => e) (ev_name na2 fun _ _ => rfl) (ev_name nb2 fun _ _ => rfl) fun H' Z' x y kh' kz' kzz px py => ?_
    subst px py
    intro s Z1 k1 k2 k3
    have kZ : Kp Z Z1 := kz.tr (kz2.tr (kz'.tr k2))
    obtain ⟨⟨_, d2, _, sl2⟩, ho2, hc2, n2, hd2⟩ := (hb.mono kZ).mono k3
    simp only at hc2 hd2
    subst hc2 hd2
    have ho : s.heap.get? a = some (tpl vs n) := k3 _ _ (kZ _ _ ha)
    by_cases hw : ws = []
    · refine concat_meets ⟨_, ho, rfl⟩ ⟨_, ho2, rfl⟩ noFill_tuple_add seq_tuple_add PySem.F.slot_tuple_add PySem.F.entry_tuple_add (PySem.F.args_tuple_add_2 _ _)
        (tuple_addW1 a b vs.toArray ws.toArray n n2 none d2 #[] sl2 (by simpa using hne) (by simp [hw])) ⟨ho, ho2, ?_⟩
      exact ⟨s.heap, s.toks, Z1, rfl, .rf k3, a, rfl, ⟨_, kZ _ _ ha, rfl, n, by simp [hw]⟩⟩
    · refine concat_meets ⟨_, ho, rfl⟩ ⟨_, ho2, rfl⟩ noFill_tuple_add seq_tuple_add PySem.F.slot_tuple_add PySem.F.entry_tuple_add (PySem.F.args_tuple_add_2 _ _)
        (tuple_addW2 a b vs.toArray ws.toArray n n2 none d2 #[] sl2 (by simpa using hne) (by simpa using hw) (by rw [List.size_toArray, List.size_toArray]; exact hsz)) ⟨ho, ho2, ?_⟩
      exact ⟨_, s.toks, _, rfl, Ext.push k3 _ rfl, _, rfl, ⟨_, put_at, rfl, 0, by simp⟩⟩

/-- how many of the first k have q -/
def cnt (q : Nat → Bool) : Nat → Int
  | 0 => 0
  | k + 1 => cnt q k + if q k then 1 else 0

theorem countOf_run {f : Addr} {a b : Value} {n : Nat} {P : Nat → Value → Prop} (q : Nat → Bool) (G : Gd mg mb H) (hf : Fn 3 f H) (hroom : A.depth < recursionLimit)
    (hS : ∀ env, SrcB prog w (A.deeper env) (fun b => ∃ o, H.get? b = some o) a H n P) (hq : ∀ env k u, P k u → Same prog w (A.deeper env) u b H (q k)) : Run prog w A (call (.ref f) [a, b]) H Z (Is (.int (cnt q n))) := by
  refine run_call (binds := [("a", a), ("b", b)]) hf G.nolimit hroom fun L cd s₀ Z₀ s₁ kh kz kz' S => ?_
  refine wpAny_execs_cons (assign_x S stoL ev_int fun c s2 Z2 S2 kz2 r2 => ?_)
  obtain ⟨t, rfl⟩ := r2.int_inv
  dsimp only
  refine wpAny_execs_cons (St.for_ S2 stoL (fun k _ ρ M => (∃ t, ρ "count" = some (.int (cnt q k) t)) ∧ ρ "b" = some b ∧ M = []) (ev_name (P := fun _ v => v = a) (S2.nmL (x := "a") rfl) fun _ _ => rfl)
    (n := n) (P := P) (fun v H' Z' k1 _ _ e => ?_) (fun _ _ => ⟨⟨t, rfl⟩, rfl, rfl⟩) (fun k u Z' s' ρ' M' F hk hP kz' hJ S' => ?_) fun Z' s' ρ' M' kz' hJ S' => ?_)
  · subst e
    intro s Q E k q
    exact (hS _).mono (kh.tr (S2.kb.tr (k1.tr k))) s Q E .rf fun I fp wr St h' tk W st0 k4 hwr live hfp hnd => q I fp wr St h' tk W st0 k4 hwr live (fun b hb => (hfp b hb).imp id fun ⟨o, e⟩ => ⟨⟨o, kh _ _ e⟩, by simp⟩) hnd
  · obtain ⟨⟨t', hc⟩, hb, rfl⟩ := hJ
    refine wpAny_execs_cons (wpAny_If (S'.ev (P := fun _ r => r = q k) (tst_same (S'.nmL (x := "i") upd_at) (S'.nmL (x := "b") (by rw [upd_ne (by decide)]; exact hb)) ((hq _ k u hP).mono (kh.tr S'.kb))) fun r s3 Z3 S3 kz3 _ hr => ?_))
    subst hr
    cases hqk : q k with
    | true =>
      simp only [if_true]
      refine wpAny_execs_cons (aug_add S3 (by rw [upd_ne (by decide)]; exact hc) ev_int fun s4 Z4 t4 S4 kz4 => ?_)
      refine wpAny_execs_nil (wpAny_execs_nil ⟨Z4, _, [], S4, kz3.tr kz4, ⟨⟨t4, ?_⟩, ?_, rfl⟩⟩)
      · rw [upd_at]; simp [cnt, hqk]
      · rw [upd_ne (by decide), upd_ne (by decide)]; exact hb
    | false =>
      simp only [Bool.false_eq_true, if_false]
      refine wpAny_execs_nil (wpAny_execs_nil ⟨Z3, _, [], S3, kz3, ⟨⟨t', ?_⟩, ?_, rfl⟩⟩)
      · rw [upd_ne (by decide)]; simpa [cnt, hqk] using hc
      · rw [upd_ne (by decide)]; exact hb
  · obtain ⟨⟨t', hc⟩, _, rfl⟩ := hJ
    refine wpAny_execs_nil ?_
    exact ret_post (P := Is _) S' (ev_name_is (S'.nmL (x := "count") hc) (.int ..))
end
end Mine
end

section
open PySem PySem.W PyProof.Rows PySem.Calls
namespace Mine
section
variable {prog : Program} {w : World} {A : Around} {mg mb : Str → Option Value}

theorem delitem_list {s : Shared} {Q : Value → Shared → Prop} {E : Value → Shared → Prop} {f a : Addr} {vs : List Value} {n : Nat} {i : Int} {t : Tok} {k : Nat} (G : Gd mg mb s.heap) (hf : Fn 4 f s.heap) (hroom : A.depth < recursionLimit) (ha : s.heap.get? a = some (lst vs n))
    (hfit : Builtin.List.listFitsIndex i = true) (hk : seqIndex? i vs.length = some k) (hsz : vs.length ≤ sizeLine)
    (h : ∀ h' tk n', (∀ b o, b ≠ a → s.heap.get? b = some o → h'.get? b = some o) → h'.get? a = some (lst (vs.eraseIdx k) n') → Q .none { s with heap := h', toks := tk }) :
    wpAny (model prog w) A (call (.ref f) [.ref a, .int i t]) Q E s := by
  refine wpAny_call (enter (Z := fun _ => none) (binds := [("a", .ref a), ("b", .int i t)]) hf G.nolimit hroom (fun _ _ e => by cases e) (S₀ := []) (fun _ hb => by cases hb) (fun L cd s₁ _ S => ?_) (fun _ _ _ => rfl) (kindsX rfl))
  have na := S.nmL (x := "a") rfl
  have nb := S.nmL (x := "b") rfl
  refine wpAny_execs_cons ?_
  refine wpAny_Delete ?_
  show wpAny _ _ (do delete _ _; deleteEach [] _) _ _ _
  refine wpAny_bind (wpAny_delete_Subscript (na _ _ _ _ _ _ .rf (nb _ _ _ _ _ _ .rf ?_)))
  refine delItem_at (hsz := by simpa using hsz) (S.kb _ _ ha) hfit (by simpa using hk) fun h' hs he => ?_
  refine wpAny_pure (wpAny_execs_nil ?_)
  obtain ⟨h1, tk1, rfl⟩ := S.same
  exact h h' tk1 _ (fun b o hb e => hs.extBut b o hb (S.kb b o e)) (by simpa using he)
theorem delitem_dict {κ : Tok → Int} {s : Shared} {Q : Value → Shared → Prop} {E : Value → Shared → Prop} {f d : Addr} {kvs : List (Int × Value)} {i : Int} {t : Tok} (G : Gd mg mb s.heap) (hf : Fn 4 f s.heap) (hroom : A.depth < recursionLimit) (hd : s.heap.DictOf (tkKind prog w κ) d kvs)
    (hi : isTk κ i (.int i t) = true) (hv : (valueAt kvs i).isSome = true) (hsz : kvs.length ≤ sizeLine)
    (h : ∀ h' tk, (∀ b o, b ≠ d → s.heap.get? b = some o → h'.get? b = some o) → h'.DictOf (tkKind prog w κ) d (without kvs i) → Q .none { s with heap := h', toks := tk }) :
    wpAny (model prog w) A (call (.ref f) [.ref d, .int i t]) Q E s := by
  refine wpAny_call (enter (Z := fun _ => none) (binds := [("a", .ref d), ("b", .int i t)]) hf G.nolimit hroom (fun _ _ e => by cases e) (S₀ := []) (fun _ hb => by cases hb) (fun L cd s₁ _ S => ?_) (fun _ _ _ => rfl) (kindsX rfl))
  have na := S.nmL (x := "a") rfl
  have nb := S.nmL (x := "b") rfl
  refine wpAny_execs_cons ?_
  refine wpAny_Delete ?_
  show wpAny _ _ (do delete _ _; deleteEach [] _) _ _ _
  refine wpAny_bind (wpAny_delete_Subscript (na _ _ _ _ _ _ .rf (nb _ _ _ _ _ _ .rf ?_)))
  have hD : s₁.heap.DictOf (tkKind prog w κ) d kvs := hd.keep S.kb
  unfold delItem
  refine wpAny_holding ?_
  refine wpAny_bind (wpAny_sequenceKey hD.typeIs (by decide) ?_)
  refine wpAny_bind (wpAny_callSpecial?_slot (name := Str.ofString "__delitem__") hD.typeIs PySem.F.slot_dict_delitem
    (call_meetsIn PySem.F.slot_dict_delitem hD.typeIs PySem.F.entry_dict_delitem (PySem.F.args_dict_delitem_2 _ _) (meets_dict_delitem_pairs (tkKind prog w κ) d hi) ⟨kvs, hD, hsz, hv, fun h' hmm hs => ?_⟩))
  refine wpAny_pure (wpAny_pure (wpAny_execs_nil ?_))
  obtain ⟨h1, tk1, rfl⟩ := S.same
  exact h h' _ (fun b o hb e => hs.extBut b o hb (S.kb b o e)) hmm
end
end Mine
end

section
open PySem PySem.W PyProof.Rows PySem.Calls
open AutoSeq1 (wpAny_loadPart')
set_option maxRecDepth 100000
namespace Mine
section
variable {prog : Program} {w : World} {A : Around} {E : Value → Shared → Prop} {s : Shared}

theorem nextOf_tuple_item {it t : Addr} {i : Nat} {items : Array Value} {x : Value} {Q : Value → Shared → Prop} (hit : s.heap.IsTupleIter it t i) (ht : s.heap.IsTuple t items) (hx : items[i]? = some x)
    (hQ : ∀ h', h'.IsTupleIter it t (i + 1) → Heap.SameBut it s.heap h' → Q x { s with heap := h' }) : wpAny (model prog w) A (Builtin.SmallTypes.nextOf (.ref it)) Q E s := by
  obtain ⟨o, ho, hc, hd⟩ := id hit
  obtain ⟨ol, hol, _, nl, hdl⟩ := ht
  unfold Builtin.SmallTypes.nextOf
  refine wpAny_bind (wpAny_callSpecial?_slot (name := Str.ofString "__next__") hit.typeIs F.slot_tuple_iterator_next
    (wpAny_call_entry F.slot_tuple_iterator_next hit.typeIs F.entry_tuple_iterator_next ?_ (F.args_tuple_iterator_next_1 _)))
  show wpAny _ _ (field (.ref it) 0 >>= _) _ _ s
  refine wpAny_bind (wpAny_field ho hd (x := .ref t) rfl ?_)
  show wpAny _ _ (if (Value.ref t == Value.none) = true then _ else _) _ _ s
  rw [if_neg (show ¬ ((Value.ref t == Value.none) = true) from Bool.false_ne_true)]
  show wpAny _ _ (field (.ref it) 1 >>= _) _ _ s
  refine wpAny_bind (wpAny_field ho hd (x := .int i 0) rfl ?_)
  show wpAny _ _ (seqItems? (.ref t) >>= _) _ _ s
  refine wpAny_bind (wpAny_seqItems hol hdl ?_)
  simp only [Int.toNat_natCast, hx]
  refine wpAny_bind (wpAny_setField ho hd (by simp) (wpAny_pure ⟨x, rfl, wpAny_pure (hQ _ ?_ (Heap.SameBut.update ..))⟩))
  exact ⟨_, Heap.get?_update_self _ ho (Obj.isFreed_of_fields (Obj.data_mapFields hd _)), (Obj.cls_mapFields ..).trans hc, by
    rw [Obj.data_mapFields hd]; simp [rawInt]⟩

theorem nextOf_tuple_end {it t : Addr} {i : Nat} {items : Array Value} {Q : Value → Shared → Prop} (hh : A.handled = none)
    (hit : s.heap.IsTupleIter it t i) (ht : s.heap.IsTuple t items) (hx : items[i]? = none)
    (hE : ∀ h' e, Heap.ExtBut it s.heap h' → (∃ o, h'.get? e = some o ∧ o.cls = .type "StopIteration") → E (.ref e) { s with heap := h' }) : wpAny (model prog w) A (Builtin.SmallTypes.nextOf (.ref it)) Q E s := by
  obtain ⟨o, ho, hc, hd⟩ := id hit
  obtain ⟨ol, hol, _, nl, hdl⟩ := ht
  unfold Builtin.SmallTypes.nextOf
  refine wpAny_bind (wpAny_callSpecial?_slot (name := Str.ofString "__next__") hit.typeIs F.slot_tuple_iterator_next
    (wpAny_call_entry F.slot_tuple_iterator_next hit.typeIs F.entry_tuple_iterator_next ?_ (F.args_tuple_iterator_next_1 _)))
  show wpAny _ _ (field (.ref it) 0 >>= _) _ _ s
  refine wpAny_bind (wpAny_field ho hd (x := .ref t) rfl ?_)
  show wpAny _ _ (if (Value.ref t == Value.none) = true then _ else _) _ _ s
  rw [if_neg (show ¬ ((Value.ref t == Value.none) = true) from Bool.false_ne_true)]
  show wpAny _ _ (field (.ref it) 1 >>= _) _ _ s
  refine wpAny_bind (wpAny_field ho hd (x := .int i 0) rfl ?_)
  show wpAny _ _ (seqItems? (.ref t) >>= _) _ _ s
  refine wpAny_bind (wpAny_seqItems hol hdl ?_)
  simp only [Int.toNat_natCast, hx]
  refine wpAny_bind (wpAny_rule (wpAny_bind (wpAny_setField ho hd (by simp) ?_)))
  show wpAny _ _ (newExc (.type "StopIteration") [] >>= _) _ _ _
  refine wpAny_bind ?_
  simp only [newExc, newTuple]
  refine wpAny_bind (wpAny_newObj_type ?_ (by size_fits))
  refine wpAny_bind (m := firstArgMember _ _) (wpAny_of_eq (a := Value.none) (by first | rfl | (simp only [firstArgMember]; rfl)) ?_)
  refine wpAny_newObj_type ?_ (by size_fits)
  simp only [raiseNew]
  refine wpAny_bind (wpAny_handled ?_)
  first | rw [show A.in1.handled = none from hh] | rw [hh]
  refine wpAny_bind (wpAny_pure (wpAny_throw ?_))
  exact hE _ _ (((Heap.SameBut.update ..).extBut.push _).push _) ⟨_, Heap.get?_push_size _ rfl, rfl⟩

theorem draws_tuple (hh : A.handled = none) (it t : Addr) (hne : t ≠ it) (items : Array Value) :
    Draws prog w A it [it, t] items.size (fun i v => items[i]? = some v) (fun i h => h.IsTupleIter it t i ∧ h.IsTuple t items) where
  live := fun _ _ st => let ⟨o, ho, _⟩ := st.1; ⟨o, ho⟩
  frame := fun _ _ _ st hk => ⟨let ⟨o, ho, r⟩ := st.1; ⟨o, hk it (by simp) o ho, r⟩, let ⟨o, ho, r⟩ := st.2; ⟨o, hk t (by simp) o ho, r⟩⟩
  item := fun i s Q E hi st hQ => by
    refine nextOf_tuple_item st.1 st.2 (x := items[i]) (by simp [hi]) fun h' hit' hs' => ?_
    exact hQ _ h' s.toks (by simp [hi]) ⟨hit', st.2.extBut hs'.extBut hne⟩ hs'
  done := fun s Q E st hE => nextOf_tuple_end hh st.1 st.2 (by simp) hE

section
variable {K : Type} [DecidableEq K] {knd : KeyKind prog w K}
theorem nextOf_keys_item {it d : Addr} {i ep : Nat} {kvs : List (K × Value)} {k : K} {v : Value} {Q : Value → Shared → Prop} (hit : s.heap.IsKeyIter it d i kvs.length ep)
    (hm : s.heap.DictAt knd d kvs ep) (hx : kvs[i]? = some (k, v))
    (hQ : ∀ key h', knd.is k key = true → h'.IsKeyIter it d (i + 1) kvs.length ep → Heap.SameBut it s.heap h' → Q key { s with heap := h' }) : wpAny (model prog w) A (Builtin.SmallTypes.nextOf (.ref it)) Q E s := by
  obtain ⟨o, ho, hc, hd⟩ := id hit
  obtain ⟨od, es, hod, hcd, hdd, hk, hp, hn⟩ := id hm
  unfold Builtin.SmallTypes.nextOf
  refine wpAny_bind (wpAny_callSpecial?_slot (name := Str.ofString "__next__") hit.typeIs F.slot_dict_keyiterator_next
    (wpAny_call_entry F.slot_dict_keyiterator_next hit.typeIs F.entry_dict_keyiterator_next ?_ (F.args_dict_keyiterator_next_1 _)))
  refine wpAny_bind (wpAny_pure ?_)
  refine wpAny_bind ?_
  refine wpAny_bind ?_
  first | refine wpAny_bind (wpAny_typeNameOfWhole_keyiter hit.typeIs (wpAny_pure ?_)) | refine wpAny_bind (wpAny_typeNameOf_keyiter hit.typeIs (wpAny_pure ?_))
  refine wpAny_bind (wpAny_fieldsOf ho hd ?_)
  have hown : Builtin.Dict_items.ownsTuple "dict_keyiterator" = false := by decide
  simp only [hown, Bool.false_eq_true, if_false]
  show wpAny _ _ (if (Value.ref d == Value.none) = true then _ else _) _ _ s
  rw [if_neg (show ¬ ((Value.ref d == Value.none) = true) from Bool.false_ne_true)]
  refine wpAny_bind (wpAny_pure ?_)
  refine wpAny_bind (wpAny_dictEntries hod hdd ?_)
  have hsz : es.size = kvs.length := by rw [← hp.length]; simp
  rw [if_neg (by rw [hsz]; simp)]
  refine wpAny_bind (wpAny_pure ?_)
  refine wpAny_bind (wpAny_dictEpoch hod hdd ?_)
  rw [if_neg (by simp)]
  refine wpAny_pure ?_
  have hlt : i < kvs.length := by
    rcases Nat.lt_or_ge i kvs.length with h | h
    · exact h
    · simp [List.getElem?_eq_none h] at hx
  have hlt' : i < es.size := by rw [hsz]; exact hlt
  have hkey : knd.is k es[i].key = true := (hp.get? (e := es[i]) (by simp [hlt']) hx).1
  simp only [show ¬ ((i : Int) < 0) from by omega, if_false, Int.toNat_natCast, Array.getElem?_eq_getElem hlt']
  refine wpAny_bind ?_
  first | refine wpAny_bind (wpAny_typeNameOfWhole_keyiter hit.typeIs (wpAny_pure ?_)) | refine wpAny_bind (wpAny_typeNameOf_keyiter hit.typeIs (wpAny_pure ?_))
  refine wpAny_bind (wpAny_isOneOf_keyiter hit.typeIs ?_)
  show wpAny _ _ (setField (.ref it) 1 (rawInt ((i : Int) + 1)) >>= _) _ _ s
  refine wpAny_bind (wpAny_setField ho hd (by simp) ?_)
  have hit' : (s.heap.update it (Obj.mapFields (·.setIfInBounds 1 (rawInt ((i : Int) + 1))))).IsKeyIter it d (i + 1) kvs.length ep :=
    ⟨_, Heap.get?_update_self _ ho (Obj.isFreed_of_fields (Obj.data_mapFields hd _)), (Obj.cls_mapFields ..).trans hc, by rw [Obj.data_mapFields hd]; simp [rawInt]⟩
  refine wpAny_bind (wpAny_holding ?_)
  refine wpAny_bind (wpAny_isOneOf_keyiter (s := { s with heap := s.heap.update it (Obj.mapFields (·.setIfInBounds 1 (rawInt ((i : Int) + 1)))) }) hit'.typeIs ?_)
  show wpAny _ _ (pure es[i].key) _ _ _
  exact wpAny_pure (wpAny_pure ⟨_, rfl, wpAny_pure (hQ _ _ hkey hit' (Heap.SameBut.update ..))⟩)

theorem nextOf_keys_end {it d : Addr} {i ep : Nat} {kvs : List (K × Value)} {Q : Value → Shared → Prop} (hh : A.handled = none) (hit : s.heap.IsKeyIter it d i kvs.length ep)
    (hm : s.heap.DictAt knd d kvs ep) (hx : kvs[i]? = none)
    (hE : ∀ h' e, Heap.ExtBut it s.heap h' → (∃ o, h'.get? e = some o ∧ o.cls = .type "StopIteration") → E (.ref e) { s with heap := h' }) : wpAny (model prog w) A (Builtin.SmallTypes.nextOf (.ref it)) Q E s := by
  obtain ⟨o, ho, hc, hd⟩ := id hit
  obtain ⟨od, es, hod, hcd, hdd, hk, hp, hn⟩ := id hm
  unfold Builtin.SmallTypes.nextOf
  refine wpAny_bind (wpAny_callSpecial?_slot (name := Str.ofString "__next__") hit.typeIs F.slot_dict_keyiterator_next
    (wpAny_call_entry F.slot_dict_keyiterator_next hit.typeIs F.entry_dict_keyiterator_next ?_ (F.args_dict_keyiterator_next_1 _)))
  refine wpAny_bind (wpAny_pure ?_)
  refine wpAny_bind ?_
  refine wpAny_bind ?_
  first | refine wpAny_bind (wpAny_typeNameOfWhole_keyiter hit.typeIs (wpAny_pure ?_)) | refine wpAny_bind (wpAny_typeNameOf_keyiter hit.typeIs (wpAny_pure ?_))
  refine wpAny_bind (wpAny_fieldsOf ho hd ?_)
  have hown : Builtin.Dict_items.ownsTuple "dict_keyiterator" = false := by decide
  simp only [hown, Bool.false_eq_true, if_false]
  show wpAny _ _ (if (Value.ref d == Value.none) = true then _ else _) _ _ s
  rw [if_neg (show ¬ ((Value.ref d == Value.none) = true) from Bool.false_ne_true)]
  refine wpAny_bind (wpAny_pure ?_)
  refine wpAny_bind (wpAny_dictEntries hod hdd ?_)
  have hsz : es.size = kvs.length := by rw [← hp.length]; simp
  rw [if_neg (by rw [hsz]; simp)]
  refine wpAny_bind (wpAny_pure ?_)
  refine wpAny_bind (wpAny_dictEpoch hod hdd ?_)
  rw [if_neg (by simp)]
  refine wpAny_pure ?_
  have hge : es.size ≤ i := by rw [hsz]; simpa using hx
  simp only [show ¬ ((i : Int) < 0) from by omega, if_false, Int.toNat_natCast, Array.getElem?_eq_none hge]
  refine wpAny_bind ?_
  first | refine wpAny_bind (wpAny_typeNameOfWhole_keyiter hit.typeIs (wpAny_pure ?_)) | refine wpAny_bind (wpAny_typeNameOf_keyiter hit.typeIs (wpAny_pure ?_))
  show wpAny _ _ (setField (.ref it) 0 .none >>= _) _ _ s
  refine wpAny_bind (wpAny_setField ho hd (by simp) ?_)
  show wpAny _ _ (newExc (.type "StopIteration") [] >>= _) _ _ _
  refine wpAny_bind ?_
  simp only [newExc, newTuple]
  refine wpAny_bind (wpAny_newObj_type ?_ (by size_fits))
  refine wpAny_bind (m := firstArgMember _ _) (wpAny_of_eq (a := Value.none) (by first | rfl | (simp only [firstArgMember]; rfl)) ?_)
  refine wpAny_newObj_type ?_ (by size_fits)
  simp only [raiseNew]
  refine wpAny_bind (wpAny_handled ?_)
  first | rw [show A.in1.handled = none from hh] | rw [hh]
  refine wpAny_bind (wpAny_pure (wpAny_throw ?_))
  exact hE _ _ (((Heap.SameBut.update ..).extBut.push _).push _) ⟨_, Heap.get?_push_size _ rfl, rfl⟩

theorem draws_keys (hh : A.handled = none) (it d : Addr) (hne : d ≠ it) (kvs : List (K × Value)) (ep : Nat) :
    Draws prog w A it [it, d] kvs.length (fun i v => ∃ k x, kvs[i]? = some (k, x) ∧ knd.is k v = true) (fun i h => h.IsKeyIter it d i kvs.length ep ∧ h.DictAt knd d kvs ep) where
  live := fun _ _ st => let ⟨o, ho, _⟩ := st.1; ⟨o, ho⟩
  frame := fun _ _ _ st hk => ⟨let ⟨o, ho, r⟩ := st.1; ⟨o, hk it (by simp) o ho, r⟩, let ⟨o, es, ho, r⟩ := st.2; ⟨o, es, hk d (by simp) o ho, r⟩⟩
  item := fun i s Q E hi st hQ => by
    refine nextOf_keys_item st.1 st.2 (k := (kvs[i]).1) (v := (kvs[i]).2) (by simp [hi]) fun key h' hk hit' hs' => ?_
    exact hQ _ h' s.toks ⟨_, (kvs[i]).2, by simp [hi], hk⟩ ⟨hit', st.2.extBut hs'.extBut hne⟩ hs'
  done := fun s Q E st hE => nextOf_keys_end hh st.1 st.2 (by simp) hE
end

/-- the making of an enumerate, over anything whose iteration makes one object -/
theorem meets_enum (l : Addr) (o it : Obj) (hpi : ∀ (prog : Program) (w : World) (A : Around) (Q : Value → Shared → Prop) (E : Value → Shared → Prop) (s : Shared), s.heap.get? l = some o → Q (.ref s.heap.objs.size) { s with heap := s.heap.push it } → wpAny (model prog w) A (pyIter (.ref l)) Q E s) :
    Meets (Builtin.«enumerate.__new__» ⟨[.type "enumerate", .ref l], []⟩) (fun _ R s => s.heap.get? l = some o ∧
      R (.ok (.ret (.ref (s.heap.push it).objs.size))) { s with heap := (s.heap.push it).push { cls := .type "enumerate", data := .fields #[.none, .bool false, .ref s.heap.objs.size, rawInt 0, .none, .none] } }) :=
  .of_wp fun prog w A R s h => by
    obtain ⟨hp, g, d, tk, os⟩ := s; obtain ⟨hl, h⟩ := h
    have hsub := sub_enumerate
    have hp' := fun A Q E => hpi prog w A Q E ⟨hp, g, d, tk, os⟩ hl
    wp_walk using wpAny_loadPart' hl
    refine wpAny_stack_any fun st => wpAny_pure ?_
    split
    · rename_i c _ _ _ _ _
      cases (c == Value.type "enumerate")
      · wp_walk using wpAny_loadPart' hl, hp' _ _ _
        exact ⟨_, rfl, h⟩
      · wp_walk using wpAny_loadPart' hl, hp' _ _ _
        exact ⟨_, rfl, h⟩
    · wp_walk using wpAny_loadPart' hl, hp' _ _ _
      exact ⟨_, rfl, h⟩

theorem call_enum {l : Addr} {o it : Obj} {Q : Value → Shared → Prop} (hpi : ∀ (prog : Program) (w : World) (A : Around) (Q : Value → Shared → Prop) (E : Value → Shared → Prop) (s : Shared), s.heap.get? l = some o → Q (.ref s.heap.objs.size) { s with heap := s.heap.push it } → wpAny (model prog w) A (pyIter (.ref l)) Q E s)
    (hl : s.heap.get? l = some o) (h : ∀ h', IsEnum h' (s.heap.objs.size + 1) s.heap.objs.size 0 .none → h'.get? s.heap.objs.size = some it → Kp s.heap.get? h'.get? → Q (.ref (s.heap.objs.size + 1)) { s with heap := h' }) (hit : it.isFreed = false) :
    wpAny (model prog w) A (call (.type "enumerate") [.ref l]) Q E s := by
  refine callType_new F.called_enumerate (by decide) (F.typeCall_enumerate_1 _) (F.newCall_enumerate_1 _) (fun obj => F.args_object_init_2 obj _) F.entry_enumerate_new (meets_enum l o it hpi) ⟨hl, ?_⟩
  have hz : (s.heap.push it).objs.size = s.heap.objs.size + 1 := Heap.size_push ..
  show _ ∧ _
  rw [hz]
  have he : IsEnum ((s.heap.push it).push { cls := .type "enumerate", data := .fields #[.none, .bool false, .ref s.heap.objs.size, rawInt 0, .none, .none] }) (s.heap.objs.size + 1) s.heap.objs.size 0 .none := by
    have := Heap.get?_push_size (s.heap.push it) (o := { cls := .type "enumerate", data := .fields #[.none, .bool false, .ref s.heap.objs.size, rawInt 0, .none, .none] }) rfl
    rw [hz] at this; exact this
  exact ⟨⟨_, he, rfl⟩, h _ he (Heap.get?_push_of_some _ (Heap.get?_push_size _ hit)) fun b o x => Heap.get?_push_of_some _ (Heap.get?_push_of_some _ x)⟩

/-- going through enumerate(v) -/
def EnS (prog : Program) (w : World) (A : Around) (Bs : Addr → Prop) (v : Value) (H : Heap) (n : Nat) (P : Nat → Value → Prop) : Prop :=
  ∀ (s : Shared) (Q : Value → Shared → Prop) (E : Value → Shared → Prop), Kp H.get? s.heap.get? →
    (∀ (I : Addr) (fp wr : List Addr) (St : Nat → Heap → Prop) (Mid : Nat → Addr → Heap → Prop) (h' : Heap) (tk : Nat), WalksT prog w A I fp wr n (fun i vals => ∃ t x, P i x ∧ vals = #[.int i t, x]) St Mid → St 0 h' → Kp s.heap.get? h'.get? → (∀ b ∈ wr, s.heap.get? b = none) →
      (∀ i h, St i h → ∀ b ∈ fp, ∃ o, h.get? b = some o) → (∀ b ∈ fp, b ∈ wr ∨ Bs b) → wr.Nodup → Q (.ref I) { s with heap := h', toks := tk }) → wpAny (model prog w) A (call (.type "enumerate") [v]) Q E s
theorem EnS.mono {Bs : Addr → Prop} {v : Value} {H H' : Heap} {n : Nat} {P : Nat → Value → Prop} (h : EnS prog w A Bs v H n P) (k : Kp H.get? H'.get?) : EnS prog w A Bs v H' n P :=
  fun s Q E k' q => h s Q E (k.tr k') q

theorem ens_of {Bs : Addr → Prop} {l : Addr} {H : Heap} {n : Nat} {P : Nat → Value → Prop} {o : Obj} {it : Obj} {St : Addr → Nat → Heap → Prop}
    (hpi : ∀ (prog : Program) (w : World) (A : Around) (Q : Value → Shared → Prop) (E : Value → Shared → Prop) (s : Shared), s.heap.get? l = some o → Q (.ref s.heap.objs.size) { s with heap := s.heap.push it } → wpAny (model prog w) A (pyIter (.ref l)) Q E s)
    (ho : H.get? l = some o) (hit : it.isFreed = false) (D : ∀ x, l ≠ x → Draws prog w A.in1 x [x, l] n P (St x)) (h0 : ∀ x (h : Heap), h.get? x = some it → h.get? l = some o → St x 0 h) (hlive : ∀ x i (h : Heap), St x i h → (∃ o, h.get? x = some o) ∧ ∃ o, h.get? l = some o) (kb : Bs l) :
    EnS prog w A Bs (.ref l) H n P := by
  intro s Q E k q
  have hl := k _ _ ho
  refine call_enum hpi hl (fun h' he hi kp => ?_) hit
  have hlt : l < s.heap.objs.size := Heap.lt_size hl
  have W := WalksT.enumerateD (A := A) (D s.heap.objs.size (Nat.ne_of_lt hlt)) (s.heap.objs.size + 1) (Nat.succ_ne_self _) (fun hm => by
    rcases List.mem_cons.mp hm with q | hm
    · exact Nat.succ_ne_self _ q
    · exact Nat.ne_of_gt (Nat.lt_succ_of_lt hlt) (List.mem_singleton.mp hm)) (by simp)
  refine q _ _ _ _ _ h' s.toks W ⟨⟨_, by simpa using he⟩, h0 _ _ hi (kp _ _ hl)⟩ kp ?_ ?_ ?_ (by simp)
  · intro b hb
    rcases List.mem_cons.mp hb with rfl | hb
    · exact heap_none_of_new (Nat.le_succ _)
    · rw [List.mem_singleton.mp hb]; exact heap_none_of_new (Nat.le_refl _)
  · rintro i h ⟨⟨old, e⟩, st⟩ b hb
    obtain ⟨l1, l2⟩ := hlive _ _ _ st
    rcases List.mem_cons.mp hb with rfl | hb
    · exact ⟨_, e⟩
    · rcases List.mem_cons.mp hb with rfl | hb
      · exact l1
      · rw [List.mem_singleton.mp hb]; exact l2
  · intro b hb
    rcases List.mem_cons.mp hb with rfl | hb
    · exact .inl (by simp)
    · rcases List.mem_cons.mp hb with rfl | hb
      · exact .inl (by simp)
      · rw [List.mem_singleton.mp hb]; exact .inr kb

theorem ens_list {Bs : Addr → Prop} {H : Heap} {a : Addr} {vs : List Value} (hh : A.handled = none) (hb : IsL H.get? a vs) (kb : Bs a) : EnS prog w A Bs (.ref a) H vs.length (fun i v => vs[i]? = some v) := by
  obtain ⟨o, ho, hc, n, hd⟩ := hb
  have := ens_of (prog := prog) (w := w) (A := A) (Bs := Bs) (l := a) (H := H) (o := o) (it := { cls := .type "list_iterator", data := .fields #[.ref a, .int 0 0] }) (fun prog w A Q E s e q => wpAny_pyIter_list ⟨o, e, hc, n, hd⟩ q) ho rfl
    (fun x hx => Draws.list (A := A.in1) hh x a hx vs.toArray) (fun x h e1 e2 => ⟨⟨_, e1, rfl, rfl⟩, ⟨_, e2, hc, n, hd⟩⟩) (fun x i h st => ⟨let ⟨o, e, _⟩ := st.1; ⟨o, e⟩, let ⟨o, e, _⟩ := st.2; ⟨o, e⟩⟩) kb
  simpa using this
theorem ens_tuple {Bs : Addr → Prop} {H : Heap} {a : Addr} {vs : List Value} (hh : A.handled = none) (hb : IsT H.get? a vs) (kb : Bs a) : EnS prog w A Bs (.ref a) H vs.length (fun i v => vs[i]? = some v) := by
  obtain ⟨o, ho, hc, n, hd⟩ := hb
  have := ens_of (prog := prog) (w := w) (A := A) (Bs := Bs) (l := a) (H := H) (o := o) (it := { cls := .type "tuple_iterator", data := .fields #[.ref a, .int 0 0] }) (fun prog w A Q E s e q => wpAny_pyIter_tuple ⟨o, e, hc, n, hd⟩ q) ho rfl
    (fun x hx => draws_tuple (A := A.in1) hh x a hx vs.toArray) (fun x h e1 e2 => ⟨⟨_, e1, rfl, rfl⟩, ⟨_, e2, hc, n, hd⟩⟩) (fun x i h st => ⟨let ⟨o, e, _⟩ := st.1; ⟨o, e⟩, let ⟨o, e, _⟩ := st.2; ⟨o, e⟩⟩) kb
  simpa using this
theorem pairs_any {prog' : Program} {w' : World} {κ : Tok → Int} {es : List DictEntry} {kvs : List (Int × Value)} (h : Pairs (tkKind prog w κ) es kvs) : Pairs (tkKind prog' w' κ) es kvs := by
  induction h with
  | nil => exact .nil
  | cons h1 h2 _ ih => exact .cons h1 h2 ih
theorem ens_keys {κ : Tok → Int} {Bs : Addr → Prop} {H : Heap} {d : Addr} {kvs : List (Int × Value)} (hh : A.handled = none) (hb : H.DictOf (tkKind prog w κ) d kvs) (hds : (d == sysModules) = false) (kb : Bs d) :
    EnS prog w A Bs (.ref d) H kvs.length (fun i v => ∃ k x, kvs[i]? = some (k, x) ∧ isTk κ k v = true) := by
  obtain ⟨ep, o, es, ho, hc, hd, hk, hp, hn⟩ := hb.dictAt
  exact ens_of (prog := prog) (w := w) (A := A) (Bs := Bs) (l := d) (H := H) (o := o) (it := { cls := .type "dict_keyiterator", data := .fields #[.ref d, .int 0 0, .int kvs.length 0, .int ep 0] })
    (fun prog w A Q E s e q => wpAny_pyIter_dict (knd := tkKind prog w κ) hds ⟨o, es, e, hc, hd, hk, pairs_any hp, hn⟩ q) ho rfl
    (fun x hx => draws_keys (A := A.in1) (knd := tkKind prog w κ) hh x d hx kvs ep) (fun x h e1 e2 => ⟨⟨_, e1, rfl, rfl⟩, ⟨_, _, e2, hc, hd, hk, hp, hn⟩⟩) (fun x i h st => ⟨let ⟨o, e, _⟩ := st.1; ⟨o, e⟩, let ⟨o, _, e, _⟩ := st.2; ⟨o, e⟩⟩) kb
end
end Mine
end

section
open PySem PySem.W PyProof.Rows PySem.Calls
namespace Mine
section
variable {prog : Program} {w : World} {A : Around} {S₀ : List Addr} {env : Env} {s₀ s : Shared} {Z₀ Z : Gh} {ρ : Str → Option Value} {M : List (Addr × (Obj → Prop))}

/-- some of the frame's own is kept, all but wr; wr are new things of an iterator -/
theorem St.walk {wr : List Addr} {Z' : Gh} {s' : Shared} {ρ' : Str → Option Value} {M' : List (Addr × (Obj → Prop))} {h₁ : Heap} {tk₁ : Nat} (S' : St S₀ env s₀ Z₀ Z' s' ρ' M')
    (off : ∀ b ∈ wr, s₀.heap.get? b = none ∧ Z' b = none ∧ b ≠ env.locals ∧ (∀ n c, (n, c) ∈ env.cells → b ≠ c) ∧ b ∉ M'.map (·.1)) (keep₁ : ∀ b o, b ∉ wr → s'.heap.get? b = some o → h₁.get? b = some o) (live : ∀ b ∈ wr, ∃ o, h₁.get? b = some o) (hnd : wr.Nodup) :
    St S₀ env s₀ Z₀ Z' { s' with heap := h₁, toks := tk₁ } ρ' (M' ++ wr.map fun b => (b, fun o => h₁.get? b = some o)) := by
  obtain ⟨hh, tt, rfl⟩ := S'.same
  refine ⟨⟨h₁, tk₁, rfl⟩, fun b o e => ⟨fun hb => keep₁ b o (fun q => by rw [(off b q).1] at e; cases e) ((S'.keepF b o e).1 hb), fun hb => let ⟨sl, e1⟩ := (S'.keepF b o e).2 hb; ⟨sl, keep₁ b _ (fun q => by rw [(off b q).1] at e; cases e) e1⟩⟩, S'.offS, S'.kz, fun b o e => keep₁ b o (fun q => by rw [(off b q).2.1] at e; cases e) (S'.keepZ b o e), S'.oldB, ?_, fun n c hm => ?_, S'.apart, S'.names, S'.offL, S'.offC, fun p hp => ?_, ?_⟩
  · obtain ⟨m, hn, hm⟩ := S'.ns
    exact ⟨m, hn.at' fun o e => keep₁ _ o (fun q => (off _ q).2.2.1 rfl) e, hm⟩
  · obtain ⟨o, e, d⟩ := S'.cell n c hm
    exact ⟨o, keep₁ _ o (fun q => (off _ q).2.2.2.1 n c hm rfl) e, d⟩
  · rcases List.mem_append.mp hp with hp | hp
    · obtain ⟨⟨o, e, po⟩, r⟩ := S'.news p hp
      exact ⟨⟨o, keep₁ _ o (fun q => (off _ q).2.2.2.2 (List.mem_map_of_mem hp)) e, po⟩, r⟩
    · obtain ⟨b, hb, rfl⟩ := List.mem_map.mp hp
      obtain ⟨o, e⟩ := live b hb
      exact ⟨⟨o, e, e⟩, (off b hb).1, (off b hb).2.1, (off b hb).2.2.1, (off b hb).2.2.2.1⟩
  · rw [List.map_append, List.map_map]
    refine List.nodup_append.mpr ⟨S'.nodup, by simpa [Function.comp_def] using hnd, fun a ha b hb q => ?_⟩
    have hb' : b ∈ wr := by simpa [Function.comp_def] using hb
    exact (off b hb').2.2.2.2 (q ▸ ha)

theorem St.offNew {wr : List Addr} (S1 : St S₀ env s₀ Z₀ Z s ρ M) (hwr : ∀ b ∈ wr, s.heap.get? b = none) : ∀ b ∈ wr, s₀.heap.get? b = none ∧ Z b = none ∧ b ≠ env.locals ∧ (∀ n c, (n, c) ∈ env.cells → b ≠ c) ∧ b ∉ M.map (·.1) := fun b hb => by
  have hb1 := hwr b hb
  refine ⟨?_, gh_none_sub S1.keepZ hb1, fun q => ?_, fun n c hm q => ?_, fun hm => ?_⟩
  · cases q : s₀.heap.get? b with
    | none => rfl
    | some o => obtain ⟨o', e', _⟩ := S1.keepF.any q; rw [hb1] at e'; cases e'
  · obtain ⟨_, ⟨o, _, _, e, _⟩, _⟩ := S1.ns; rw [← q, hb1] at e; cases e
  · obtain ⟨o, e, _⟩ := S1.cell n c hm; rw [← q, hb1] at e; cases e
  · obtain ⟨p, hp, e⟩ := List.mem_map.mp hm
    obtain ⟨⟨o, e', _⟩, _⟩ := S1.news p hp
    rw [e, hb1] at e'; cases e'

theorem St.forT {x y : Str} {px py pt pos : Pos} {x1 : Nat} {iter : Expr} {body orelse : List Stmt} {n : Nat} {P : Nat → Value → Prop} {Q : Flow → Shared → Prop} {E : Value → Shared → Prop}
    (hh : A.handled = none) (S : St S₀ env s₀ Z₀ Z s ρ M) (hx : Sto S₀ env s₀ Z₀ x) (hy : Sto S₀ env s₀ Z₀ y) (J : Nat → Gh → (Str → Option Value) → List (Addr × (Obj → Prop)) → Prop)
    (hsrc : ∀ (Q : Value → Shared → Prop) (E : Value → Shared → Prop), (∀ (I : Addr) (fp wr : List Addr) (Sti : Nat → Heap → Prop) (Mid : Nat → Addr → Heap → Prop) (h' : Heap) (tk : Nat), WalksT prog w A I fp wr n (fun i vals => ∃ t x, P i x ∧ vals = #[.int i t, x]) Sti Mid → Sti 0 h' → Kp s.heap.get? h'.get? → (∀ b ∈ wr, s.heap.get? b = none) →
      (∀ i h, Sti i h → ∀ b ∈ fp, ∃ o, h.get? b = some o) → (∀ b ∈ fp, b ∈ wr ∨ ((∃ o, s₀.heap.get? b = some o) ∧ b ∉ S₀)) → wr.Nodup → Q (.ref I) { s with heap := h', toks := tk }) → wpAny (model prog w) A (eval iter env) Q E s)
    (h0 : J 0 Z ρ M)
    (turn : ∀ k t u Z' s' ρ' M' F, k < n → P k u → Kp Z Z' → J k Z' ρ' M' → St S₀ env s₀ Z₀ Z' s' (upd (upd ρ' x (.int k t)) y u) (M' ++ F) →
      wpAny (model prog w) A (execs body env) (fun f s'' => match f with
        | .next | .cont => ∃ Z'' ρ'' M'', St S₀ env s₀ Z₀ Z'' s'' ρ'' (M'' ++ F) ∧ Kp Z' Z'' ∧ J (k + 1) Z'' ρ'' M''
        | .brk => Q .next s''
        | .ret v => Q (.ret v) s'') (fun _ _ => False) s')
    (done : ∀ Z' s' ρ' M', Kp Z Z' → J n Z' ρ' M' → St S₀ env s₀ Z₀ Z' s' ρ' M' → wpAny (model prog w) A (execs orelse env) (fun f s'' => Q f s'') (notedBy (model prog w) A env fun e s' => cameBackBy (model prog w) A env E e s') s')
    (hs : ∀ x, foldedSetIterable iter env x = pure x := by intro _; rfl) :
    wpAny (model prog w) A (exec (.For (.Tuple [.Name x px, .Name y py] x1 pt) iter body orelse pos) env) Q E s := by
  refine wpAny_For (hsrc _ _ fun I fp wr Sti Mid h' tk W st0 k4 hwr live hfp hnd => W.self 0 _ _ _ st0 ?_) hs
  have S2 : St S₀ env s₀ Z₀ Z { s with heap := h', toks := tk } ρ M := S.ext (.keeps S.keepZ k4)
  refine codeAny_forLoop_any (fun j s' => ∃ k Z' ρ' M', j = n + 1 - k ∧ k ≤ n ∧ Sti k s'.heap ∧ Kp Z Z' ∧ J k Z' ρ' M' ∧ St S₀ env s₀ Z₀ Z' s' ρ' M' ∧
    ∀ b ∈ wr, s₀.heap.get? b = none ∧ Z' b = none ∧ b ≠ env.locals ∧ (∀ n c, (n, c) ∈ env.cells → b ≠ c) ∧ b ∉ M'.map (·.1)) ?_ (n + 1) ⟨0, Z, ρ, M, rfl, Nat.zero_le _, st0, .rf, h0, S2, S.offNew hwr⟩
  rintro j s' ⟨k, Z', ρ', M', rfl, hk, st, kz', hJ, S', off⟩
  by_cases hlt : k < n
  · refine W.item k s' _ _ hlt st fun T vals h₁ tk₁ hP hT hT1 hmid keep₁ => ?_
    obtain ⟨t, u, hP, rfl⟩ := hP
    refine W.go _ _ _ k T _ _ _ hmid fun h₂ st₂ keep₂ => ?_
    replace keep₂ : ∀ b o, b ∉ wr → h₁.get? b = some o → h₂.get? b = some o := keep₂
    have hT2 : h₂.IsTuple T #[.int k t, u] := by
      obtain ⟨o, e, r⟩ := hT1
      exact ⟨o, keep₂ _ _ (W.apart _ _ _ hmid) e, r⟩
    refine wpAny_assign_Tuple hh hT2 rfl rfl fun h₃ hx₃ => ?_
    replace hx₃ : Heap.ExtBut h₂.objs.size h₂ h₃ := hx₃
    have keep₃ : ∀ b o, h₂.get? b = some o → h₃.get? b = some o := fun b o e => hx₃ b o (Nat.ne_of_lt (Heap.lt_size e)) e
    have st₃ : Sti (k + 1) h₃ := W.frame _ _ _ st₂ fun b _ o e => keep₃ b o e
    have S₁ : St S₀ env s₀ Z₀ Z' { s' with heap := h₃, toks := tk₁ } ρ' (M' ++ wr.map fun b => (b, fun o => h₃.get? b = some o)) :=
      S'.walk off (fun b o hb e => keep₃ b o (keep₂ b o hb (keep₁ b o hb e))) (fun b hb => live _ _ st₃ b (W.sub _ hb)) hnd
    show wpAny _ A (do holding [u] (assign (.Name x px) env (.int k t)); do holding [] (assign (.Name y py) env u); pure ()) _ _ _
    refine wpAny_bind (wpAny_holding (wpAny_assign_Name (hx _ _ _ _ _ _ _ _ (.int k t) S₁ fun s₂ S₂ => ?_)))
    refine wpAny_bind (wpAny_holding (wpAny_assign_Name (hy _ _ _ _ _ _ _ _ u S₂ fun s₂ S₂ => wpAny_pure ?_)))
    refine wpAny_mono (turn k t u Z' s₂ ρ' M' _ hlt hP kz' hJ S₂) (fun f s₃ hf => ?_) fun _ _ x => x.elim
    have fin : (∃ Z'' ρ'' M'', St S₀ env s₀ Z₀ Z'' s₃ ρ'' (M'' ++ wr.map fun b => (b, fun o => h₃.get? b = some o)) ∧ Kp Z' Z'' ∧ J (k + 1) Z'' ρ'' M'') → ∃ m, m < n + 1 - k ∧ ∃ k Z' ρ' M', m = n + 1 - k ∧ k ≤ n ∧ Sti k s₃.heap ∧ Kp Z Z' ∧ J k Z' ρ' M' ∧ St S₀ env s₀ Z₀ Z' s₃ ρ' M' ∧
        ∀ b ∈ wr, s₀.heap.get? b = none ∧ Z' b = none ∧ b ≠ env.locals ∧ (∀ n c, (n, c) ∈ env.cells → b ≠ c) ∧ b ∉ M'.map (·.1) := by
      rintro ⟨Z'', ρ'', M'', S₃, kz'', hJ'⟩
      refine ⟨n + 1 - (k + 1), by omega, k + 1, Z'', ρ'', M'', rfl, hlt, ?_, kz'.tr kz'', hJ', S₃.sub (List.sublist_append_left ..), fun b hb => ?_⟩
      · refine W.frame _ h₃ _ st₃ fun b hb o e => ?_
        by_cases hw : b ∈ wr
        · obtain ⟨⟨o', e1, e2⟩, _⟩ := S₃.news (b, fun o => h₃.get? b = some o) (List.mem_append_right _ (List.mem_map.mpr ⟨b, hw, rfl⟩))
          have e2 : h₃.get? b = some o' := e2
          rw [e] at e2; cases e2; exact e1
        · obtain hq | ⟨⟨o', e0⟩, hn0⟩ := hfp b hb
          · exact absurd hq hw
          · have e1 : h₃.get? b = some o' := (S₁.keepF b o' e0).1 hn0
            rw [e] at e1; cases e1; exact (S₃.keepF b _ e0).1 hn0
      · obtain ⟨_, r1, r2, r3, r4⟩ := S₃.news (b, fun o => h₃.get? b = some o) (List.mem_append_right _ (List.mem_map.mpr ⟨b, hb, rfl⟩))
        refine ⟨r1, r2, r3, r4, fun hm => ?_⟩
        have hn := S₃.nodup
        rw [List.map_append] at hn
        exact (List.nodup_append.mp hn).2.2 b hm b (List.mem_map.mpr ⟨_, List.mem_map.mpr ⟨b, hb, rfl⟩, rfl⟩) rfl
    cases f with
    | next => exact fin hf
    | cont => exact fin hf
    | brk => exact hf
    | ret v => exact hf
  · obtain rfl : k = n := by omega
    refine W.done s' _ _ st fun h₁ tk₁ keep₁ => ?_
    refine done Z' _ ρ' M' kz' hJ ?_
    obtain ⟨hh, tt, rfl⟩ := S'.same
    refine ⟨⟨h₁, tk₁, rfl⟩, fun b o e => ⟨fun hb => keep₁ b o (fun q => by rw [(off b q).1] at e; cases e) ((S'.keepF b o e).1 hb), fun hb => let ⟨sl, e1⟩ := (S'.keepF b o e).2 hb; ⟨sl, keep₁ b _ (fun q => by rw [(off b q).1] at e; cases e) e1⟩⟩, S'.offS, S'.kz, fun b o e => keep₁ b o (fun q => by rw [(off b q).2.1] at e; cases e) (S'.keepZ b o e), S'.oldB, ?_, fun n c hm => ?_, S'.apart, S'.names, S'.offL, S'.offC, fun p hp => ?_, S'.nodup⟩
    · obtain ⟨m, hn, hm⟩ := S'.ns
      exact ⟨m, hn.at' fun o e => keep₁ _ o (fun q => (off _ q).2.2.1 rfl) e, hm⟩
    · obtain ⟨o, e, d⟩ := S'.cell n c hm
      exact ⟨o, keep₁ _ o (fun q => (off _ q).2.2.2.1 n c hm rfl) e, d⟩
    · obtain ⟨⟨o, e, po⟩, r⟩ := S'.news p hp
      exact ⟨⟨o, keep₁ _ o (fun q => (off _ q).2.2.2.2 (List.mem_map_of_mem hp)) e, po⟩, r⟩

/-- the first k below n that has q -/
def fst (q : Nat → Bool) (n : Nat) : Option Nat := (List.range n).find? q
theorem fst_some {q : Nat → Bool} {n k : Nat} (hk : k < n) (hq : q k = true) (hb : ∀ j < k, q j = false) : fst q n = some k := by
  unfold fst
  rw [List.find?_range_eq_some]
  exact ⟨hq, by simpa using hk, fun j hj => by simp [hb j hj]⟩
theorem fst_none {q : Nat → Bool} {n : Nat} (hb : ∀ j < n, q j = false) : fst q n = none := by
  unfold fst
  rw [List.find?_eq_none]
  intro j hj
  simp [hb j (List.mem_range.mp hj)]
end
end Mine
end

section
open PySem PySem.W PyProof.Rows PySem.Calls
namespace Mine

/-- the frames of the stack lie in the heap -/
def FrLive (h : Heap) (l : List Env) : Prop := ∀ env ∈ l, env.scope.kind ≠ .module ∧ ∃ L o, env.frame = some L ∧ h.get? L = some o ∧ ∀ vs, o.data ≠ .fields vs
abbrev frs (l : List Env) : List Addr := l.filterMap (·.frame)
theorem FrLive.mono {h h' : Heap} {l : List Env} (x : FrLive h l) (k : Kp h.get? h'.get?) : FrLive h' l := fun env he => let ⟨a, L, o, b, c, d⟩ := x env he; ⟨a, L, o, b, k _ _ c, d⟩
theorem FrLive.monoF {S : List Addr} {h h' : Heap} {l : List Env} (x : FrLive h l) (k : KpF S h h') : FrLive h' l := fun env he => by
  obtain ⟨a, L, o, b, c, d⟩ := x env he
  obtain ⟨o', e, _, hd, _⟩ := k.any c
  exact ⟨a, L, o', b, e, fun vs => by rw [hd]; exact d vs⟩
theorem FrLive.cons {h : Heap} {l : List Env} {env : Env} {L : Addr} {m : Str → Option Value} (x : FrLive h l) (hf : env.frame = some L) (hn : h.Ns L m) (hk : env.scope.kind ≠ .module) : FrLive h (env :: l) := fun e he => by
  rcases List.mem_cons.mp he with rfl | he
  · obtain ⟨o, es, ep, ho, hd, _⟩ := hn
    exact ⟨hk, L, o, hf, ho, fun vs q => by rw [hd] at q; cases q⟩
  · exact x e he
theorem FrLive.fun {h : Heap} {as : List Addr} : ∀ {l : List Env}, FrLive h l → (∀ a ∈ frs l, a ∈ as) → h.FunFrames (hideAll h as) l
  | [], _, _ => trivial
  | env :: l, x, hin => by
    obtain ⟨a, L, o, b, c, d⟩ := x env (.head _)
    refine ⟨a, ⟨L, o, b, hideAll_none _ (hin L (List.mem_filterMap.mpr ⟨env, .head _, b⟩)), c, d⟩, FrLive.fun (fun e he => x e (.tail _ he)) fun a ha => hin a ?_⟩
    obtain ⟨e, he, hf⟩ := List.mem_filterMap.mp ha
    exact List.mem_filterMap.mpr ⟨e, .tail _ he, hf⟩
theorem FrLive.mem {h : Heap} {l : List Env} (x : FrLive h l) {b : Addr} (hb : b ∈ frs l) : ∃ o, h.get? b = some o ∧ ∀ vs, o.data ≠ .fields vs := by
  obtain ⟨e, he, hf⟩ := List.mem_filterMap.mp hb
  obtain ⟨a, L, o, b', c, d⟩ := x e he
  rw [b'] at hf; cases hf
  exact ⟨o, c, d⟩
theorem kpF_fly {h h' : Heap} {l : List Env} (x : FrLive h l) (k : (hideAll h (frs l)).StaysIn h') (u : h.UpToSlots h') : KpF (frs l) h h' := fun b o e =>
  ⟨fun hb => k b o (hideAll_get _ e hb), fun hb => by
    obtain ⟨o', e', d⟩ := x.mem hb
    rw [e] at e'; cases e'
    exact u b o e d⟩
theorem Gd.keepsF {S : List Addr} {mg mb : Str → Option Value} {h h' : Heap} (G : Gd mg mb h) (k : KpF S h h') : Gd mg mb h' :=
  ⟨k.ns G.g, k.ns G.b, k.noLimit G.nolimit, fun j hj => by
    obtain ⟨f, a, o, pm, cd, doc, e, d, c⟩ := G.fn j hj
    obtain ⟨o', e', _, hd, _⟩ := k.any e
    exact ⟨f, a, o', pm, cd, doc, e', hd.trans d, k.codeRec c⟩, G.blt⟩

section
variable {prog : Program} {w : World} {A : Around} {s : Shared} {mg mb : Str → Option Value}

theorem indexOf_run {R : Result → Shared → Prop} {f : Addr} {a b : Value} {n : Nat} {P : Nat → Value → Prop} {outer : List Env} (q : Nat → Bool) (G : Gd mg mb s.heap) (hf : Fn 6 f s.heap) (hroom : A.depth < recursionLimit) (hh : A.handled = none)
    (hA : A.frames = some outer) (hfr : FrLive s.heap outer)
    (hS : ∀ env, EnS prog w (A.deeper env) (fun b => ∃ o, s.heap.get? b = some o) a s.heap n P) (hq : ∀ env k u, P k u → Same prog w (A.deeper env) u b s.heap (q k))
    (found : ∀ k h' tk t, fst q n = some k → Kp s.heap.get? h'.get? → R (.ok (.ret (.int k t))) { s with heap := h', toks := tk })
    (raised : ∀ (h₁ h' : Heap) (tk : Nat) (e t : Addr) (env : Env), fst q n = none → Kp s.heap.get? h₁.get? → FrLive h₁ (env :: outer) → (∀ L, env.frame = some L → s.heap.get? L = none) →
      Heap.FlyingW (hideAll h₁ (frs (env :: outer))) outer e (.type "ValueError") (.ref t) h' → h₁.UpToSlots h' → R (.error (.ref e)) { s with heap := h', toks := tk }) :
    codeAny (model prog w) A (.call (.ref f) ⟨[a, b], []⟩) R s := by
  refine enter (S₀ := []) (Z := fun _ => none) (binds := [("a", a), ("b", b)]) hf G.nolimit hroom (fun _ _ e => by cases e) (fun _ hb => by cases hb) (fun L cd s₁ hL S => ?_) (fun _ _ _ => rfl) (kindsX rfl)
  have nen : Nm (fenv 6 L f cd) s₁.heap "enumerate" (.type "enumerate") := (G.keeps S.kb).nmB boot_enumerate
  have na := S.nmL (x := "a") rfl
  refine wpAny_execs_cons (St.forT (n := n) (P := P) hh S stoL stoL (fun k _ ρ M => (∀ j < k, q j = false) ∧ ρ "b" = some b ∧ M = []) ?_ ⟨fun j hj => absurd hj (Nat.not_lt_zero _), rfl, rfl⟩ (fun k t u Z' s' ρ' M' F hk hP kz' hJ S' => ?_) fun Z' s' ρ' M' kz' hJ S' => ?_)
  · intro Q E h
    refine Call_ (nen _ _ _ _ _ _ .rf ?_)
    refine callWith_type1 (wpAny_items_cons (na _ _ _ _ _ _ .rf (wpAny_items_nil ?_)))
    exact (hS _).mono S.kb s₁ Q E .rf fun I fp wr Sti Mid h' tk W st0 k4 hwr live hfp hnd => h I fp wr Sti Mid h' tk W st0 k4 hwr live (fun b hb => (hfp b hb).imp id fun x => ⟨x, by simp⟩) hnd
  · obtain ⟨hb, hρ, rfl⟩ := hJ
    refine wpAny_execs_cons (wpAny_If (S'.ev (P := fun _ r => r = q k) (tst_same (S'.nmL (x := "j") upd_at) (S'.nmL (x := "b") (by rw [upd_ne (by decide), upd_ne (by decide)]; exact hρ)) ((hq _ k u hP).mono S'.kb)) fun r s3 Z3 S3 kz3 _ hr => ?_))
    subst hr
    cases hqk : q k with
    | true =>
      simp only [if_true]
      refine wpAny_execs_cons (wpAny_Return_some (S3.ev (P := fun _ v => v = .int k t) (ev_name (S3.nmL (x := "i") (by rw [upd_ne (by decide), upd_at])) fun _ _ => rfl) fun v s4 Z4 S4 _ _ hv => ?_))
      subst hv
      obtain ⟨h', tk, rfl⟩ := S4.same
      exact found k h' tk t (fst_some hk hqk hb) S4.kb
    | false =>
      simp only [Bool.false_eq_true, if_false]
      refine wpAny_execs_nil (wpAny_execs_nil ⟨Z3, _, [], S3, kz3, fun j hj => ?_, ?_, rfl⟩)
      · by_cases e : j = k
        · rw [e]; exact hqk
        · exact hb j (by omega)
      · rw [upd_ne (by decide), upd_ne (by decide)]; exact hρ
  · obtain ⟨hb, hρ, rfl⟩ := hJ
    refine wpAny_passesOwn PassesOwn.leaving (wpAny_execs_cons ?_)
    have nv : Nm (fenv 6 L f cd) s'.heap "ValueError" (.type "ValueError") := (G.keeps S'.kb).nmB boot_ValueError
    refine wpAny_Raise_call PySem.F.excCall_ValueError PySem.F.excRaise_ValueError hh rfl (nv _ _ _ _ _ _ .rf ⟨rfl, ?_⟩)
    refine evalArgs_plain (wpAny_items_cons (wpAny_Constant_str (wpAny_items_nil ⟨rfl, by size_fits, fun h' e hm => ?_⟩)))
    obtain ⟨h₁, tk₁, rfl⟩ := S'.same
    have hns : ∃ m, h₁.Ns L m := let ⟨m, hn, _⟩ := S'.ns; ⟨m, hn⟩
    obtain ⟨m, hns⟩ := hns
    have hfr' : FrLive h₁ (fenv 6 L f cd :: outer) := (hfr.mono S'.kb).cons rfl hns (by intro q; cases q)
    refine wpAny_leaves_madeW (Around.frames_deeper hA) rfl (fun b o q => of_hideAll _ q) (hfr'.fun fun _ h => h) hm.of fun h'' t x1 x2 x3 x4 => ?_
    exact raised h₁ h'' _ e t (fenv 6 L f cd) (fst_none hb) S'.kb hfr' (fun L' e => by cases e; exact heap_none_of_new (Nat.le_of_eq hL.symm)) x1 ((Heap.UpToSlots.of_keeps hm.keeps).trans x4)
end
end Mine
end

section
open PySem PySem.W PyProof.Rows PySem.Calls
namespace Mine
section
variable {prog : Program} {w : World} {A : Around} {s : Shared} {mg mb : Str → Option Value}

/-- what _law_place gives -/
def plc (o : Option Nat) : PyData := match o with | some k => .int k | none => .str "new"

theorem place_run {Q : Value → Shared → Prop} {E : Value → Shared → Prop} {f : Addr} {a b : Value} {n : Nat} {P : Nat → Value → Prop} {outer : List Env} (q : Nat → Bool) (G : Gd mg mb s.heap) (hf : Fn 8 f s.heap) (hroom : A.depth + 1 < recursionLimit) (hh : A.handled = none)
    (hA : A.frames = some outer) (hfr : FrLive s.heap outer)
    (hS : ∀ env env', EnS prog w ((A.deeper env).deeper env') (fun b => ∃ o, s.heap.get? b = some o) a s.heap n P) (hq : ∀ env env' k u, P k u → Same prog w ((A.deeper env).deeper env') u b s.heap (q k))
    (h : ∀ v h' tk, KpF (frs outer) s.heap h' → Rd (fun _ => none) v (plc (fst q n)) → Q v { s with heap := h', toks := tk }) :
    wpAny (model prog w) A (call (.ref f) [a, b]) Q E s := by
  refine wpAny_call (enter (S₀ := []) (Z := fun _ => none) (binds := [("table", a), ("thing", b)]) hf G.nolimit (Nat.lt_of_succ_lt hroom) (fun _ _ e => by cases e) (fun _ hb => by cases hb) (fun L cd s₁ hL S => ?_) (fun _ _ _ => rfl) (kindsX rfl))
  obtain ⟨fi, ni, hfi⟩ := (G.keeps S.kb).nmF (env := fenv 8 L f cd) 6
  have na := S.nmL (x := "table") rfl
  have nb := S.nmL (x := "thing") rfl
  have hns : ∃ m, s₁.heap.Ns L m := let ⟨m, hn, _⟩ := S.ns; ⟨m, hn⟩
  obtain ⟨m, hns⟩ := hns
  have hfr1 : FrLive s₁.heap (fenv 8 L f cd :: outer) := (hfr.mono S.kb).cons rfl hns (by intro q; cases q)
  refine wpAny_execs_cons (wpAny_Try_except ?_)
  refine wpAny_execs_cons (wpAny_Return_some ?_)
  refine Call_ (ni _ _ _ _ _ _ .rf ?_)
  obtain ⟨o, pm, cd', doc, ho, hd, hcr⟩ := id hfi
  refine callWith_def hd (wpAny_items_cons (na _ _ _ _ _ _ .rf (wpAny_items_cons (nb _ _ _ _ _ _ .rf (wpAny_items_nil ⟨ho, ?_⟩)))))
  refine wpAny_call (indexOf_run (n := n) (P := P) q (G.keeps S.kb) hfi hroom hh (Around.frames_deeper hA) hfr1 (fun env => ?_) (fun env k u hP => (hq _ _ k u hP).mono S.kb) (fun k h' tk t hk kp => ?_) fun h₁ h' tk e t env he kp hfr2 hnew hfl hup => ?_)
  · intro s2 Q E k2 q2
    exact (hS _ _).mono S.kb s2 Q E k2 fun I fp wr Sti Mid h' tk W st0 k4 hwr live hfp hnd => q2 I fp wr Sti Mid h' tk W st0 k4 hwr live (fun b hb => (hfp b hb).imp id fun ⟨o, e⟩ => ⟨o, S.kb _ _ e⟩) hnd
  · obtain ⟨h0, tk0, rfl⟩ := S.same
    refine h _ h' tk (.of (S.kb.tr kp)) ?_
    rw [hk]; exact .int ..
  · have hfl' := hfl
    have k1 : KpF (frs (env :: fenv 8 L f cd :: outer)) h₁ h' := kpF_fly hfr2 hfl.1 hup
    refine wpAny_looks_onW (Around.frames_deeper hA) rfl hfl fun h₄ hheld₄ hsm₄ => ?_
    refine wpAny_landsW hheld₄ fun h₅ hfl₅ hsm₅ => ?_
    have k5 : KpF (frs (env :: fenv 8 L f cd :: outer)) h₁ h₅ := kpF_fly hfr2 hfl₅.1 ((hup.trans hsm₄).trans hsm₅)
    have G5 : Gd mg mb h₅ := ((G.keeps S.kb).keeps kp).keepsF k5
    have nv : Nm (fenv 8 L f cd) h₅ "ValueError" (.type "ValueError") := G5.nmB boot_ValueError
    obtain ⟨ob, hob, hobc⟩ := hfl₅.there
    refine wpAny_handleBy_builtin (X := "ValueError") (T := "ValueError") (b := true) PySem.F.isExc_ValueError PySem.F.notTuple_ValueError (by rw [isSubtype_type]; kernel_rfl) (nv _ _ _ _ _ _ .rf ⟨rfl, ⟨ob, hob, hobc⟩, ?_⟩)
    refine lands_againW hfl₅ fun h₆ hfl₆ hsm₆ => ?_
    have k6 : KpF (frs (env :: fenv 8 L f cd :: outer)) h₁ h₆ := kpF_fly hfr2 hfl₆.1 (((hup.trans hsm₄).trans hsm₅).trans hsm₆)
    refine wpAny_noRaise (wpAny_execs_cons (wpAny_Return_some (wpAny_Constant_str ?_)))
    obtain ⟨h0, tk0, rfl⟩ := S.same
    refine h _ h₆ _ (fun b o e => ⟨fun hb => ?_, fun hb => ?_⟩) ?_
    · refine (k6 b o (kp _ _ (S.kb _ _ e))).1 fun hm => ?_
      obtain ⟨ev, hev, hfe⟩ := List.mem_filterMap.mp hm
      rcases List.mem_cons.mp hev with rfl | hev
      · have := hnew _ hfe; rw [S.kb _ _ e] at this; cases this
      · rcases List.mem_cons.mp hev with rfl | hev
        · have hbL : L = b := Option.some.inj hfe
          have := heap_none_of_new (h := s.heap) (Nat.le_of_eq hL.symm)
          rw [hbL, e] at this; cases this
        · exact hb (List.mem_filterMap.mpr ⟨ev, hev, hfe⟩)
    · refine (k6 b o (kp _ _ (S.kb _ _ e))).2 ?_
      obtain ⟨ev, hev, hfe⟩ := List.mem_filterMap.mp hb
      exact List.mem_filterMap.mpr ⟨ev, .tail _ (.tail _ hev), hfe⟩
    · rw [he]; exact .str ..
end
end Mine
end

section
open PySem PySem.W PyProof.Rows PySem.Calls
namespace Mine
section
variable {prog : Program} {w : World} {A : Around} {H : Heap} {Z : Gh} {env : Env}

theorem srcD_range {a b c : Int} {v : Value} {n : Nat} (hh : A.handled = none) (kz : Kp Z H.get?) (hr : IsRg a b c Z v) (hsm : Builtin.Range.small a b c = true) (hn : Builtin.Range.rangeSize a b c = (n : Int)) :
    SrcD prog w A ((List.range n).map fun i : Nat => PyData.int (a + (i : Int) * c)) v H Z := by
  refine ⟨fun i v => i < n ∧ ∃ t, v = .int (a + i * c) t, ?_, fun i u ⟨hi, t, e⟩ => ⟨.int (a + i * c), by simp [hi], e ▸ .int ..⟩⟩
  have := src_range (prog := prog) (w := w) (Bs := fun _ => True) hh (rg_mono _ _ _ _ _ _ kz hr) hsm hn
  intro s Q E k q
  refine this s Q E k fun I fp wr St h' tk W st0 k4 hwr live hfp hnd => q I fp wr St h' tk ?_ st0 k4 hwr live hfp hnd
  simp only [List.length_map, List.length_range]
  exact ⟨W.sub, W.frame, fun i s Q E hi st hq => W.item i s Q E hi st fun v h' tk hp st' kp => hq v h' tk ⟨hi, hp⟩ st' kp, W.done, W.self⟩
theorem ev_range3 {p pos : Pos} {e1 e2 e3 : Expr} {a b c : Int} (hc : c ≠ 0) (hp : Builtin.divisionGoesByPylong (b - a) c = false) (n : Nm env H "range" (.type "range")) (h1 : Run prog w A (eval e1 env) H Z (Is (.int a))) (h2 : Run prog w A (eval e2 env) H Z (Is (.int b))) (h3 : Run prog w A (eval e3 env) H Z (Is (.int c)))
    (he : starEach [e1, e2, e3] env = (false, eval e1 env) :: starEach [e2, e3] env := by rfl) (he2 : starEach [e2, e3] env = (false, eval e2 env) :: starEach [e3] env := by rfl) (he3 : starEach [e3] env = (false, eval e3 env) :: starEach [] env := by rfl)
    (hpl : (backTo pos (starEach [e2, e3] env)).any (·.1) = false := by rfl)
    (hev : eval (.Call (.Name "range" p) [e1, e2, e3] [] pos) env = (do callWith pos (← eval (.Name "range" p) env) [] (backTo pos (starEach [e1, e2, e3] env)) (backToKw pos (keywordEach [] env))) := by rfl) :
    Run prog w A (eval (.Call (.Name "range" p) [e1, e2, e3] [] pos) env) H Z (IsRg a b c) :=
  ev_callT n (items_consV (mono_is _) h1 (items_consV (mono_is _) h2 (items_consV (mono_is _) h3 items_nilV he3) he2) he) (fun H' Z' vs _ _ kz p => by
    obtain ⟨v, us, rfl, rv, v2, us2, rfl, rv2, v3, us3, rfl, rv3, rfl⟩ := p
    obtain ⟨t, rfl⟩ := rv.int_inv
    obtain ⟨t2, rfl⟩ := rv2.int_inv
    obtain ⟨t3, rfl⟩ := rv3.int_inv
    intro s Z1 k1 k2 k3
    refine call_range_3 hc ?_ (.inl hp)
    exact ⟨_, _, _, rfl, Ext.push k3 _ rfl, _, _, _, _, rfl, put_at⟩) he hpl hev
end
section
variable {prog : Program} {w : World} {A : Around} {S₀ : List Addr} {env : Env} {s₀ s : Shared} {Z₀ Z : Gh} {ρ : Str → Option Value} {M : List (Addr × (Obj → Prop))}

/-- x = [ ... for ... ], x a local of the same line -/
theorem assign_comp {x y : Str} {elt iter : Expr} {py : Pos} {ifs : List Expr} {scope : Scope} {pc pos pos' : Pos} {cl : List (Str × Addr)} {Ps : Gh → Value → Prop} {I : Gh → List Value → Prop} {Q : Flow → Shared → Prop} {E : Value → Shared → Prop} (mI : Mono I)
    (S : St S₀ env s₀ Z₀ Z s ρ M) (hx : Sto S₀ env s₀ Z₀ x) (hsrc : Run prog w A (eval iter env) s.heap Z Ps) (hclos : closureFor scope env = pure cl)
    (hbody : ∀ v H' Z', Kp s.heap.get? H'.get? → Kp Z Z' → Kp Z' H'.get? → Ps Z' v → CompBody prog w A env scope cl y ifs elt (fun Z _ => I Z) v H' Z')
    (k : ∀ v s' Z', St S₀ env s₀ Z₀ Z' s' (upd ρ x v) M → Kp Z Z' → NwL s.heap I Z' v → Q .next s')
    (hsw : swapsWith (.ListComp elt [⟨.Name y py, iter, ifs, 0⟩] scope pc) (some (.Name x pos')) pos.line env = pure true := by rfl)
    (hcell : ∀ y ∈ scope.names, y.2 ≠ .cell := by decide) (hkind : scope.kind = .function := by rfl) (hnames : ∀ y ∈ scope.names, y.2 = .local → scope.names.lookup y.1 = some .local := by decide) (hy : scope.names.lookup y = some .local := by rfl)
    (hs : ∀ x, foldedSetIterable iter env x = pure x := by intro _; rfl) :
    wpAny (model prog w) A (exec (.Assign [.Name x pos'] (.ListComp elt [⟨.Name y py, iter, ifs, 0⟩] scope pc) pos) env) Q E s := by
  rw [exec_Assign_Name_used _ _ _ _ hsw]
  refine wpAny_bind (wpAny_standAt (wpAny_bind ?_))
  rw [arm_evalThenUse_ListComp]
  refine wpAny_bind ?_
  refine comp_any (I := fun Z _ => I Z) (fun _ => mI) .rf .rf S.keepZ hclos hcell hkind hnames hy hs hsrc hbody fun h' tk Z' D C ex nw hC hC0 hZC => ?_
  obtain ⟨m, hm⟩ := hC
  have off : ∀ b ∈ [C], s₀.heap.get? b = none ∧ Z' b = none ∧ b ≠ env.locals ∧ (∀ n c, (n, c) ∈ env.cells → b ≠ c) ∧ b ∉ M.map (·.1) := fun b hb => by
    have e := S.offNew (wr := [C]) (fun b hb => by rw [List.mem_singleton.mp hb]; exact hC0) b hb
    rw [List.mem_singleton.mp hb] at e ⊢
    exact ⟨e.1, hZC, e.2.2⟩
  have liveC : ∃ o, h'.get? C = some o := let ⟨o, _, _, e, _⟩ := hm; ⟨o, e⟩
  have S1 : St S₀ env s₀ Z₀ Z' { s with heap := h', toks := tk } ρ (M ++ [C].map fun b => (b, fun o => h'.get? b = some o)) :=
    (S.ext (tk := tk) ex).walk (h₁ := h') (tk₁ := tk) off (fun b o _ e => e) (fun b hb => by rw [List.mem_singleton.mp hb]; exact liveC) (by simp)
  refine wpAny_assign_Name (hx _ _ _ _ _ _ _ _ (.ref D) S1 fun s2 S2 => ?_)
  obtain ⟨⟨o, e1, e2⟩, r1, r2, r3, r4⟩ := S2.news (C, fun o => h'.get? C = some o) (List.mem_append_right _ (by simp))
  have e2 : h'.get? C = some o := e2
  have hns : s2.heap.Ns C m := hm.at' fun o' e' => by rw [e2] at e'; cases e'; exact e1
  refine ⟨m, hns, fun h3 hs3 => wpAny_pure (wpAny_pure ?_)⟩
  refine k (.ref D) _ Z' ?_ ex.zz nw
  have hMn : ∀ p ∈ M, p.1 ≠ C := fun p hp q => by
    have hn := S2.nodup
    rw [List.map_append] at hn
    exact (List.nodup_append.mp hn).2.2 p.1 (List.mem_map_of_mem hp) C (by simp) q
  refine S2.change (tk := s2.toks) hs3 r1 r2 ?_ (fun n c hmem => ?_) (fun p hp => ?_) ?_
  · obtain ⟨m', hn', hm'⟩ := S2.ns
    exact ⟨m', hn'.sameBut hs3 (Ne.symm r3), hm'⟩
  · exact (S2.cell n c hmem).sameBut hs3 (Ne.symm (r4 n c hmem))
  · obtain ⟨⟨o', e', po⟩, r⟩ := S2.news p (List.mem_append_left _ hp)
    exact ⟨⟨o', hs3.extBut _ _ (hMn p hp) e', po⟩, r⟩
  · have hn := S2.nodup
    rw [List.map_append] at hn
    exact (List.nodup_append.mp hn).1
end
end Mine
end

section
open PySem PySem.W PyProof.Rows PySem.Calls
namespace Mine

theorem St.cellAt {S₀ : List Addr} {env : Env} {s₀ s : Shared} {Z₀ Z : Gh} {ρ : Str → Option Value} {M : List (Addr × (Obj → Prop))} {x : Str} {v : Value} {c : Addr} (S : St S₀ env s₀ Z₀ Z s ρ M) (hv : ρ x = some v) (hc : env.cells.lookup x = some c := by rfl) : s.heap.IsCell c (some v) :=
  hv ▸ S.cell _ _ (PySem.mem_of_lookup hc)

abbrev nums (xs : List Int) : List PyData := xs.map .int
theorem nums_canLay : ∀ xs : List Int, PyData.canLayAll0 (nums xs) = true
  | [] => rfl
  | x :: xs => by
    have := nums_canLay xs
    simp only [nums, List.map_cons, PyData.canLayAll0, PyData.canLay0, Bool.true_and] at this ⊢
    exact this
theorem nums_any {xs : List Int} {x : Int} : ((nums xs).any fun y => PyData.eqv y (.int x)) = xs.contains x := by
  induction xs with
  | nil => rfl
  | cons a xs ih =>
    simp only [nums, List.map_cons, List.any_cons, List.contains_cons] at ih ⊢
    rw [ih, show PyData.eqv (.int a) (.int x) = (a == x) by simp [PyData.eqv]]
    rw [BEq.comm]
theorem nums_get {xs : List Int} {k : Nat} (h : k < xs.length) : (nums xs)[k]? = some (.int (xs.getD k 0)) := by
  simp [nums, h]
theorem nums_getI {xs : List Int} {k : Nat} (h : k < xs.length) : (nums xs)[((k : Nat) : Int).toNat]? = some (.int (xs.getD k 0)) := by
  rw [Int.toNat_natCast]; exact nums_get h

/-- the letters before the i-th, newest first, each once, without the i-th -/
def oth (xs : List Int) (i : Nat) : List Int :=
  (((List.range i).map fun k => i - 1 - k).filter fun j => (!(xs.getD j 0 == xs.getD i 0)) && !(((xs.drop (j + 1)).take (i - (j + 1))).contains (xs.getD j 0))).map fun j => xs.getD j 0

theorem smallRange {a b c : Int} (ha : -1000 ≤ a ∧ a ≤ 1000) (hb : -1000 ≤ b ∧ b ≤ 1000) (hc : c = 1 ∨ c = -1) : Builtin.Range.small a b c = true := by
  unfold Builtin.Range.small
  rcases hc with rfl | rfl <;> simp [Builtin.Range.rangeFitsLong] <;> (try unfold Builtin.Range.rangeSize) <;> (try split) <;> (try split) <;> (try simp only [Int.neg_neg, Int.ediv_one]) <;> omega
theorem size_up {n : Nat} : Builtin.Range.rangeSize 0 n 1 = (n : Int) := by
  unfold Builtin.Range.rangeSize
  simp only [show (1 : Int) > 0 by decide, if_true]
  split <;> omega
theorem size_down {n : Nat} : Builtin.Range.rangeSize (n - 1) (-1) (-1) = (n : Int) := by
  unfold Builtin.Range.rangeSize
  simp only [show ¬ ((-1 : Int) > 0) by decide, if_false, Int.neg_neg, Int.ediv_one]
  split <;> omega

section
variable {prog : Program} {w : World} {A : Around} {H : Heap} {Z : Gh} {mg mb : Str → Option Value}

theorem compBody_data' {α : Type} {env : Env} {elt : Expr} {x : Str} {ifs : List Expr} {scope : Scope} {cl : List (Str × Addr)} {v : Value} {out : List PyData} (as : List α) (g : α → PyData) (p : α → Bool) (f : α → PyData) (hout : (as.filter p).map f = out) (hn : as.length ≤ sizeLine)
    (hS : SrcD prog w A (as.map g) v H Z)
    (htest : ∀ (k : Nat) (a : α), as[k]? = some a → ∀ u C H' Z' m, Kp H.get? H'.get? → Kp Z Z' → Kp Z' H'.get? → H'.Ns C m → m x = some u → Rd Z' u (g a) → Run prog w A (compTest ifs (compEnvC scope cl C env)) H' Z' (fun _ r => r = p a))
    (helt : ∀ (k : Nat) (a : α), as[k]? = some a → p a = true → ∀ u C H' Z' m, Kp H.get? H'.get? → Kp Z Z' → Kp Z' H'.get? → H'.Ns C m → m x = some u → Rd Z' u (g a) → Run prog w A (eval elt (compEnvC scope cl C env)) H' Z' (Is (f a))) :
    CompBody prog w A env scope cl x ifs elt (fun Z _ => Alls out Z) v H Z := hout ▸ compBody_data as g p f hn hS htest helt

theorem others_run {f : Addr} {v : Value} {i : Nat} {t : Tok} {xs : List Int} (G : Gd mg mb H) (hf : Fn 11 f H) (hroom : A.depth < recursionLimit) (hh : A.handled = none) (hu : A.units < 1000) (hl : Rd Z v (.list (nums xs))) (hi : i < xs.length) (hxs : xs.length ≤ 100) :
    Run prog w A (call (.ref f) [v, .int i t]) H Z (Is (.list (nums (oth xs i)))) := by
  refine run_call (binds := [("letters", v), ("i", .int i t)]) hf G.nolimit hroom fun L cd s₀ Z₀ s₁ kh kz kz' S => ?_
  refine ret_post (P := Is _) S ?_
  have G' := G.keeps (kh.tr S.kb)
  have nr : Nm (fenv 11 L f cd) s₁.heap "range" (.type "range") := G'.nmB boot_range
  have ni := S.nmC (x := "i") rfl
  have hl' : Rd Z₀ v (.list (nums xs)) := hl.mono kz
  have c1 := S.cellAt (x := "letters") (c := L + 1) rfl
  have c2 := S.cellAt (x := "i") (c := L + 2) rfl
  refine (ev_comp (I := Alls (nums (oth xs i))) (mono_alls _) (ev_range3 (a := (i : Int) - 1) (b := -1) (c := -1) (by decide) (PyProof.noPylong_small (by decide)) nr (ev_sub (ev_name_is ni (.int ..)) ev_int) (ev_neg ev_int) (ev_neg ev_int)) rfl ?_).conseq fun _ _ _ p => p.is
  intro u H' Z' k1 k2 k3 p
  have has : ∀ (k j : Nat), ((List.range i).map fun k => i - 1 - k)[k]? = some j → j < i := fun k j e => by
    have hk : k < i := by
      rcases Nat.lt_or_ge k i with h | h
      · exact h
      · rw [List.getElem?_eq_none (by simpa using h)] at e; cases e
    rw [List.getElem?_map, List.getElem?_range hk] at e
    simp only [Option.map_some, Option.some.injEq] at e; omega
  have hsrc : SrcD prog w (A.deeper (fenv 11 L f cd)) (((List.range i).map fun k => i - 1 - k).map fun j : Nat => PyData.int j) u H' Z' := by
    have := srcD_range (prog := prog) (w := w) (A := A.deeper (fenv 11 L f cd)) (n := i) hh k3 p (smallRange (by omega) (by omega) (.inr rfl)) size_down
    rw [List.map_map]
    rw [show ((List.range i).map ((fun j : Nat => PyData.int j) ∘ fun k => i - 1 - k)) = (List.range i).map (fun k : Nat => PyData.int ((i : Int) - 1 + (k : Int) * -1)) from List.map_congr_left fun k hk => by
      have := List.mem_range.mp hk
      simp only [Function.comp_apply]
      congr 1
      omega]
    exact this
  have hunits : (A.deeper (fenv 11 L f cd)).units + 64 < cLine := by
    rw [Around.deeper_units]; unfold cLine; omega
  refine compBody_data' ((List.range i).map fun k => i - 1 - k) (fun j : Nat => PyData.int j) (fun j => (!(xs.getD j 0 == xs.getD i 0)) && !(((xs.drop (j + 1)).take (i - (j + 1))).contains (xs.getD j 0))) (fun j => .int (xs.getD j 0))
    (by simp [nums, oth]) (by simp; exact Nat.le_trans (by omega) (show 100 ≤ sizeLine by decide)) hsrc ?_ ?_
  · intro k j hj u C H'' Z'' m k1' k2' k3' hn hm ru
    have hji := has k j hj
    have cL := (c1.keeps k1).keeps k1'
    have cI := (c2.keeps k1).keeps k1'
    have rL := (hl'.mono k2).mono k2'
    refine test_one (tst_and (tst_cmp ?_) fun _ => tst_cmp ?_)
    · refine (ev_ne (da := .int (xs.getD j 0)) (db := .int (xs.getD i 0)) (ev_item (ev_name_is (Nm.cell rfl cL) rL) (ev_name_is (Nm.loc hn hm) ru) (by omega) (by omega) (nums_getI (by omega))) (ev_item (ev_name_is (Nm.cell rfl cL) rL) (ev_name_is (Nm.cell rfl cI) (.int ..)) (by omega) (by omega) (nums_getI (by omega))) rfl rfl hunits).conseq fun _ _ _ p => ?_
      simpa [PyData.eqv] using p
    · refine (ev_notIn (d := .int (xs.getD j 0)) (xs := nums ((xs.drop (j + 1)).take (i - (j + 1)))) (ev_item (ev_name_is (Nm.cell rfl cL) rL) (ev_name_is (Nm.loc hn hm) ru) (by omega) (by omega) (nums_getI (by omega))) ?_ (nums_canLay _) rfl (by simp only [PyData.depth]; omega)).conseq fun _ _ _ p => ?_
      · refine (ev_between (ds := nums xs) (a := (j : Int) + 1) (b := i) (ev_name_is (Nm.cell rfl cL) rL) (ev_add (ev_name_is (Nm.loc hn hm) ru) ev_int) (ev_name_is (Nm.cell rfl cI) (.int ..)) (by omega) (by omega) (by simp; omega) (by simp; exact Nat.le_trans hxs (by decide))).conseq fun _ _ _ p => ?_
        rw [show ((j : Int) + 1).toNat = j + 1 by omega, Int.toNat_natCast] at p
        simpa [nums, List.map_take, List.map_drop] using p
      · rw [nums_any] at p; exact p
  · intro k j hj hp u C H'' Z'' m k1' k2' k3' hn hm ru
    have hji := has k j hj
    exact ev_item (ev_name_is (Nm.cell rfl ((c1.keeps k1).keeps k1')) ((hl'.mono k2).mono k2')) (ev_name_is (Nm.loc hn hm) ru) (by omega) (by omega) (nums_getI (by omega))
end
end Mine
end

section
open PySem PySem.W PyProof.Rows PySem.Calls
namespace Mine

/-- growth, up to the slots of the frames S -/
structure ExtF (S : List Addr) (h : Heap) (Z : Gh) (h' : Heap) (Z' : Gh) : Prop where
  hp : KpF S h h'
  zz : Kp Z Z'
  zh : Kp Z' h'.get?
  old : ∀ b o, h.get? b = some o → Z' b = Z b
theorem ExtF.keeps {S : List Addr} {h h' : Heap} {Z : Gh} (kz : Kp Z h.get?) (k : KpF S h h') (off : ∀ b ∈ S, Z b = none) : ExtF S h Z h' Z :=
  ⟨k, .rf, fun b o e => (k b o (kz b o e)).1 (fun hb => by rw [off b hb] at e; cases e), fun _ _ _ => rfl⟩

section
variable {prog : Program} {w : World} {A : Around} {S₀ : List Addr} {env : Env} {s₀ s : Shared} {Z₀ Z : Gh} {ρ : Str → Option Value} {M M1 M2 : List (Addr × (Obj → Prop))}

theorem St.extF {S : List Addr} (X : St S₀ env s₀ Z₀ Z s ρ M) {h' : Heap} {tk : Nat} {Z' : Gh} (ex : ExtF S s.heap Z h' Z') (hS : ∀ b ∈ S, b = env.locals ∨ b ∈ S₀) : St S₀ env s₀ Z₀ Z' { s with heap := h', toks := tk } ρ M := by
  have liveL : ∃ o, s.heap.get? env.locals = some o := let ⟨_, ⟨o, _, _, e, _⟩, _⟩ := X.ns; ⟨o, e⟩
  obtain ⟨oL, eL⟩ := liveL
  obtain ⟨h, tk0, rfl⟩ := X.same
  have notin : ∀ b, s₀.heap.get? b = none → b ≠ env.locals → b ∉ S := fun b h0 hL hm => by
    rcases hS b hm with q | q
    · exact hL q
    · obtain ⟨o, e⟩ := (X.offS b q).2
      rw [h0] at e; cases e
  have neL : ∀ b o, s₀.heap.get? b = some o → b ≠ env.locals := fun b o e q => by rw [q, X.offL.1] at e; cases e
  refine ⟨⟨h', tk, rfl⟩, fun b o e => ⟨fun hb => ?_, fun hb => ?_⟩, fun b hb => ⟨let ⟨_, e⟩ := (X.offS b hb).2; let ⟨o', e', _⟩ := X.keepF.any e; (ex.old b o' e').trans (X.offS b hb).1, (X.offS b hb).2⟩, X.kz.tr ex.zz, ex.zh, fun b o e => let ⟨o', e', _⟩ := X.keepF.any e; (ex.old b o' e').trans (X.oldB b o e), ?_, fun n c hm => ?_, X.apart, X.names,
    ⟨X.offL.1, (ex.old _ _ eL).trans X.offL.2⟩, fun n c hm => ?_, fun p hp => ?_, X.nodup⟩
  · refine (ex.hp b o ((X.keepF b o e).1 hb)).1 fun hm => ?_
    rcases hS b hm with q | q
    · exact neL b o e q
    · exact hb q
  · obtain ⟨sl, e1⟩ := (X.keepF b o e).2 hb
    by_cases hm : b ∈ S
    · obtain ⟨sl', e2⟩ := (ex.hp b _ e1).2 hm
      exact ⟨sl', e2⟩
    · exact ⟨sl, (ex.hp b _ e1).1 hm⟩
  · obtain ⟨m, hn, hm⟩ := X.ns
    exact ⟨m, ex.hp.ns hn, hm⟩
  · obtain ⟨o, e, d⟩ := X.cell n c hm
    obtain ⟨h1, h2, h3⟩ := X.offC n c hm
    exact ⟨o, (ex.hp c o e).1 (notin c h1 h3), d⟩
  · obtain ⟨h1, h2, h3⟩ := X.offC n c hm
    obtain ⟨o, e, _⟩ := X.cell n c hm
    exact ⟨h1, (ex.old _ _ e).trans h2, h3⟩
  · obtain ⟨⟨o, e, po⟩, h1, h2, h3, h4⟩ := X.news p hp
    exact ⟨⟨o, (ex.hp _ o e).1 (notin _ h1 h3), po⟩, h1, (ex.old _ _ e).trans h2, h3, h4⟩

theorem St.postF (X : St S₀ env s₀ Z₀ Z s ρ M) : ExtF S₀ s₀.heap Z₀ s.heap Z := ⟨X.keepF, X.kz, X.keepZ, X.oldB⟩

/-- what a frame has made is no more to be changed -/
theorem St.freeze {a : Addr} {o : Obj} {P : Obj → Prop} (X : St S₀ env s₀ Z₀ Z s ρ (M1 ++ (a, P) :: M2)) (ho : s.heap.get? a = some o) : St S₀ env s₀ Z₀ (put Z a o) s ρ (M1 ++ M2) := by
  obtain ⟨_, h1, h2, h3, h4⟩ := X.news (a, P) (by simp)
  have hnd := X.nodup
  simp only [List.map_append, List.map_cons] at hnd
  have hne : ∀ p ∈ M1 ++ M2, p.1 ≠ a := fun p hp q => by
    rcases List.mem_append.mp hp with hp | hp
    · exact (List.nodup_append.mp hnd).2.2 p.1 (List.mem_map_of_mem hp) a (by simp) q
    · exact (List.nodup_cons.mp (List.nodup_append.mp hnd).2.1).1 (q ▸ List.mem_map_of_mem hp)
  refine ⟨X.same, X.keepF, fun b hb => ⟨?_, (X.offS b hb).2⟩, X.kz.tr (kp_put h2), fun b o' e => ?_, fun b o' e => ?_, X.ns, X.cell, X.apart, X.names, ⟨X.offL.1, ?_⟩, fun n c hm => ⟨(X.offC n c hm).1, ?_, (X.offC n c hm).2.2⟩, fun p hp => ?_, ?_⟩
  · rw [put_ne fun q => by obtain ⟨o', e⟩ := (X.offS b hb).2; rw [q, h1] at e; cases e]; exact (X.offS b hb).1
  · by_cases q : b = a
    · subst q; rw [put_at] at e; cases e; exact ho
    · rw [put_ne q] at e; exact X.keepZ b o' e
  · rw [put_ne fun q => by rw [q, h1] at e; cases e]; exact X.oldB b o' e
  · rw [put_ne (Ne.symm h3)]; exact X.offL.2
  · rw [put_ne fun q => h4 n c hm q.symm]; exact (X.offC n c hm).2.1
  · have hp' : p ∈ M1 ++ (a, P) :: M2 := by
      rcases List.mem_append.mp hp with hp | hp
      · exact List.mem_append_left _ hp
      · exact List.mem_append_right _ (.tail _ hp)
    obtain ⟨e, r1, r2, r3⟩ := X.news p hp'
    exact ⟨e, r1, by rw [put_ne (hne p hp)]; exact r2, r3⟩
  · rw [List.map_append]
    exact List.Nodup.sublist (List.Sublist.append (List.Sublist.refl _) (List.sublist_cons_self ..)) hnd

/-- what a frame has made is changed -/
theorem St.set {a : Addr} {P P' : Obj → Prop} {h' : Heap} {tk : Nat} (X : St S₀ env s₀ Z₀ Z s ρ (M1 ++ (a, P) :: M2)) (hs : ∀ b o, b ≠ a → s.heap.get? b = some o → h'.get? b = some o) (hP : ∃ o, h'.get? a = some o ∧ P' o) :
    St S₀ env s₀ Z₀ Z { s with heap := h', toks := tk } ρ (M1 ++ (a, P') :: M2) := by
  obtain ⟨_, h1, h2, h3, h4⟩ := X.news (a, P) (by simp)
  have hnd := X.nodup
  simp only [List.map_append, List.map_cons] at hnd
  have hne : ∀ p ∈ M1 ++ M2, p.1 ≠ a := fun p hp q => by
    rcases List.mem_append.mp hp with hp | hp
    · exact (List.nodup_append.mp hnd).2.2 p.1 (List.mem_map_of_mem hp) a (by simp) q
    · exact (List.nodup_cons.mp (List.nodup_append.mp hnd).2.1).1 (q ▸ List.mem_map_of_mem hp)
  obtain ⟨h, tk0, rfl⟩ := X.same
  have ne0 : ∀ b o, s₀.heap.get? b = some o → b ≠ a := fun b o e q => by rw [q, h1] at e; cases e
  refine ⟨⟨h', tk, rfl⟩, fun b o e => ⟨fun hb => hs b o (ne0 b o e) ((X.keepF b o e).1 hb), fun hb => let ⟨sl, e1⟩ := (X.keepF b o e).2 hb; ⟨sl, hs b _ (ne0 b o e) e1⟩⟩, X.offS, X.kz, fun b o e => hs b o (fun q => by rw [q, h2] at e; cases e) (X.keepZ b o e), X.oldB, ?_, fun n c hm => ?_, X.apart, X.names, X.offL, X.offC, fun p hp => ?_, by simpa using X.nodup⟩
  · obtain ⟨m, hn, hm⟩ := X.ns
    exact ⟨m, hn.at' fun o e => hs _ o (Ne.symm h3) e, hm⟩
  · obtain ⟨o, e, d⟩ := X.cell n c hm
    exact ⟨o, hs _ o (fun q => h4 n c hm q.symm) e, d⟩
  · rcases List.mem_append.mp hp with hq | hq
    · obtain ⟨⟨o, e, po⟩, r⟩ := X.news p (List.mem_append_left _ hq)
      exact ⟨⟨o, hs _ o (hne p (List.mem_append_left _ hq)) e, po⟩, r⟩
    · rcases List.mem_cons.mp hq with rfl | hq
      · exact ⟨hP, h1, h2, h3, h4⟩
      · obtain ⟨⟨o, e, po⟩, r⟩ := X.news p (List.mem_append_right _ (.tail _ hq))
        exact ⟨⟨o, hs _ o (hne p (List.mem_append_right _ hq)) e, po⟩, r⟩

abbrev isLst (vs : List Value) (n : Nat) : Obj → Prop := fun o => o = lst vs n
theorem St.lstAt {a : Addr} {vs : List Value} {n : Nat} (X : St S₀ env s₀ Z₀ Z s ρ (M1 ++ (a, isLst vs n) :: M2)) : s.heap.get? a = some (lst vs n) := by
  obtain ⟨⟨o, e, rfl⟩, _⟩ := X.news (a, isLst vs n) (by simp)
  exact e

/-- x.append(e) -/
theorem append_st {x : Str} {p apos cpos pos : Pos} {e : Expr} {a : Addr} {vs : List Value} {n : Nat} {P : Gh → Value → Prop} {Q : Flow → Shared → Prop} {E : Value → Shared → Prop} (X : St S₀ env s₀ Z₀ Z s ρ (M1 ++ (a, isLst vs n) :: M2)) (hx : Nm env s.heap x (.ref a))
    (he : Run prog w A (eval e env) s.heap Z P) (hsz : vs.length ≤ sizeLine)
    (k : ∀ v s' Z', St S₀ env s₀ Z₀ Z' s' ρ (M1 ++ (a, isLst (vs ++ [v]) (n + 1)) :: M2) → Kp Z Z' → P Z' v → Q .next s')
    (hbase : attributeBase (.Name x p) "append" env (eval (.Name x p) env) = eval (.Name x p) env := by rfl)
    (hfew : ((backTo cpos (starEach [e] env)).all (fun x => !x.1) && (backToKw cpos (keywordEach [] env)).all (fun x => x.1.isSome) && decide (([e] : List Expr).length + ([] : List Keyword).length + (if ([] : List Keyword).isEmpty then 0 else 1) < 30)) = true := by rfl)
    (hline : (apos.endLine == cpos.line) = true := by rfl) (htrees : backTo cpos (starEach [e] env) = [(false, eval e env)] := by rfl)
    (hi : interactive env = false := by rfl) (hs : swapsWith (.Call (.Attribute (.Name x p) "append" apos) [e] [] cpos) none pos.line env = pure false := by rfl) :
    wpAny (model prog w) A (exec (.Expr (.Call (.Attribute (.Name x p) "append" apos) [e] [] cpos) pos) env) Q E s := by
  refine wpAny_Expr_any (wpAny_Call_append hbase hfew hline htrees (hx _ _ _ _ _ _ .rf ⟨a, vs.toArray, rfl, ⟨_, n, X.lstAt, rfl, rfl, rfl⟩, ?_⟩)) hi hs
  refine X.ev he fun v s1 Z1 X1 kz _ pv => ?_
  refine append_at X1.lstAt (fun h' hs' ho => ?_) (by simpa using hsz)
  refine k v _ Z1 (X1.set (tk := s1.toks) (fun b o hb e => hs'.extBut b o hb e) ⟨_, ho, ?_⟩) kz pv
  simp [isLst, lst]
end
end Mine
end

section
open PySem PySem.W PyProof.Rows PySem.Calls
namespace Mine

/-- d can lie in a heap, no deeper than n -/
def Sh (n : Nat) (d : PyData) : Prop := d.canLay0 = true ∧ d.depth ≤ n
theorem Sh.shaped {n : Nat} {d : PyData} (h : Sh n d) (hn : n ≤ 64 := by decide) : SeqAt.shaped d = true := by
  unfold SeqAt.shaped
  rw [h.1]; simp [Nat.le_trans h.2 hn]
theorem sh_all {n : Nat} : ∀ {ds : List PyData}, (∀ d ∈ ds, Sh n d) → PyData.canLayAll0 ds = true ∧ PyData.depthAll ds ≤ n
  | [], _ => ⟨rfl, Nat.zero_le _⟩
  | d :: ds, h => by
    obtain ⟨h1, h2⟩ := sh_all (ds := ds) fun d hd => h d (.tail _ hd)
    obtain ⟨h3, h4⟩ := h d (.head _)
    refine ⟨by simp [PyData.canLayAll0, h1, h3], ?_⟩
    simp only [PyData.depthAll]; omega
theorem sh_list {n : Nat} {ds : List PyData} (h : ∀ d ∈ ds, Sh n d) : Sh (n + 1) (.list ds) :=
  ⟨by simp only [PyData.canLay0]; exact (sh_all h).1, by simp only [PyData.depth]; have := (sh_all h).2; omega⟩
theorem sh_tuple {n : Nat} {ds : List PyData} (h : ∀ d ∈ ds, Sh n d) : Sh (n + 1) (.tuple ds) :=
  ⟨by simp only [PyData.canLay0]; exact (sh_all h).1, by simp only [PyData.depth]; have := (sh_all h).2; omega⟩
theorem sh_int (i : Int) (n : Nat) : Sh n (.int i) := ⟨rfl, Nat.zero_le _⟩
theorem sh_new (n : Nat) : Sh n (.str "new") := ⟨by decide +kernel, Nat.zero_le _⟩
theorem sh_bool (b : Bool) (n : Nat) : Sh n (.bool b) := ⟨rfl, Nat.zero_le _⟩
theorem sh_nums (xs : List Int) (n : Nat) : Sh (n + 1) (.list (nums xs)) := sh_list fun d hd => by
  obtain ⟨x, _, rfl⟩ := List.mem_map.mp hd; exact sh_int x n
theorem Sh.mono {n m : Nat} {d : PyData} (h : Sh n d) (k : n ≤ m) : Sh m d := ⟨h.1, Nat.le_trans h.2 k⟩

def earl (xs : List Int) (i : Nat) : List Nat := (List.range i).filter fun j => xs.getD j 0 == xs.getD i 0
def sinc (xs : List Int) (i : Nat) : List Int := let e := (earl xs i).getLastD 0; (xs.drop (e + 1)).take (i - (e + 1))
def diff (ys : List Int) : List Nat := (List.range ys.length).filter fun k => !((ys.take k).contains (ys.getD k 0))
def dueRow (xs : List Int) (i : Nat) : List PyData :=
  if earl xs i = [] then [.str "new", .str "new", .str "new", .int 0, .int 0, .int 0, .bool false, .bool false, .bool false]
  else [.int (sinc xs i).length, .int (diff (sinc xs i)).length, .int (diff (sinc xs i)).length, .int (earl xs i).length, .int 1, .int 1, .bool true, .bool true, .bool true]

section
variable {prog : Program} {w : World} {A : Around} {H : Heap} {Z : Gh} {mg mb : Str → Option Value}

theorem srcD_up {v : Value} {n : Nat} (hh : A.handled = none) (kz : Kp Z H.get?) (hr : IsRg 0 n 1 Z v) (hn : n ≤ 1000) : SrcD prog w A ((List.range n).map fun j : Nat => PyData.int j) v H Z := by
  have := srcD_range (prog := prog) (w := w) (A := A) (n := n) hh kz hr (smallRange (by omega) (by omega) (.inl rfl)) size_up
  simpa using this

theorem St.thawL {S₀ : List Addr} {env : Env} {s₀ s s' : Shared} {Z₀ Z' : Gh} {ρ ρ' : Str → Option Value} {M M' : List (Addr × (Obj → Prop))} {I : Gh → List Value → Prop} {v : Value} (S : St S₀ env s₀ Z₀ Z s ρ M) (S' : St S₀ env s₀ Z₀ Z' s' ρ' M') (kz : Kp Z Z') (nw : NwL s.heap I Z' v) :
    ∃ a vs n, v = .ref a ∧ St S₀ env s₀ Z₀ (del Z' a) s' ρ' ((a, isLst vs n) :: M') ∧ Kp Z (del Z' a) ∧ I (del Z' a) vs := by
  obtain ⟨a, vs, n, rfl, ha, hz, hi⟩ := nw
  have h0 : s₀.heap.get? a = none := by
    cases q : s₀.heap.get? a with
    | none => rfl
    | some o => obtain ⟨o', e', _⟩ := S.keepF.any q; rw [ha] at e'; cases e'
  have hZ : Z a = none := gh_none_sub S.keepZ ha
  have kd := kp_to_del kz hZ
  exact ⟨a, vs, n, rfl, S'.thaw (P := isLst vs n) (S.kz.tr kd) kp_del del_at (fun b o e => by rw [del_ne fun q => by rw [q, h0] at e; cases e]; exact S'.oldB b o e) hz h0 rfl, kd, hi⟩

theorem eqv_nil {ds : List PyData} : PyData.eqv (.list ds) (.list []) = ds.isEmpty := by
  cases ds <;> simp [PyData.eqv, PyData.eqvAll]
theorem earl_lt {xs : List Int} {i j : Nat} (h : j ∈ earl xs i) : j < i := List.mem_range.mp (List.mem_filter.mp h).1

theorem due_run {f : Addr} {v : Value} {xs : List Int} (G : Gd mg mb H) (hf : Fn 10 f H) (hroom : A.depth < recursionLimit) (hh : A.handled = none) (hu : A.units < 1000) (hl : Rd Z v (.list (nums xs))) (hxs : xs.length ≤ 100) :
    Run prog w A (call (.ref f) [v]) H Z (Is (.list ((List.range xs.length).map fun i => PyData.list (dueRow xs i)))) := by
  refine run_call (binds := [("letters", v)]) hf G.nolimit hroom fun L cd s₀ Z₀ s₁ kh kz kz' S => ?_
  refine wpAny_execs_cons (assign_x S stoL (ev_List (mono_alls []) items_nil fun _ _ p => by rw [p.length]; exact Nat.zero_le _) fun d s2 Z2 S2 kz2 r2 => ?_)
  have hsL : 100 ≤ sizeLine := by decide
  have hunits : (A.deeper (fenv 10 L f cd)).units + 64 < cLine := by
    rw [Around.deeper_units]; unfold cLine; omega
  obtain ⟨a, vs, n, rfl, S3, kz3, ri⟩ := S.thawL S2 kz2 r2
  have rL : Rd (del Z2 a) v (.list (nums xs)) := (hl.mono kz).mono kz3
  have G3 := G.keeps (kh.tr S3.kb)
  have nr3 : Nm (fenv 10 L f cd) s2.heap "range" (.type "range") := G3.nmB boot_range
  have nl3 : Nm (fenv 10 L f cd) s2.heap "len" (.builtin "len") := G3.nmB boot_len
  refine wpAny_execs_cons (St.for_ S3 stoC (n := xs.length) (P := fun i u => ∃ t, u = .int i t) (fun k Z ρ M => ρ "letters" = some v ∧ ∃ a vs n, ρ "due" = some (.ref a) ∧ M = [(a, isLst vs n)] ∧ vs.length = k ∧ RdAll Z vs ((List.range k).map fun i => PyData.list (dueRow xs i)))
    (ev_range1 nr3 (ev_len (ds := nums xs) nl3 (ev_name_is (S3.nmC (x := "letters") rfl) rL) (by simp; omega))) (fun u H' Z' k1 k2 k3 hr => ?_) (fun Z' k1 => ⟨rfl, a, vs, n, rfl, rfl, by simpa using ri.length, by simpa using ri.mono k1⟩) (fun k u Z' s' ρ' M' F hk hP k1 hJ S' => ?_) fun Z' s' ρ' M' k1 hJ S' => ?_)
  · have := src_range (prog := prog) (w := w) (A := A.deeper (fenv 10 L f cd)) (Bs := fun b => (∃ o, s₀.heap.get? b = some o) ∧ b ∉ ([] : List Addr)) (n := xs.length) hh (rg_mono _ _ _ _ _ _ k3 hr) (smallRange (by omega) (by simp; omega) (.inl rfl)) (by simpa using size_up (n := xs.length))
    simpa using this
  · obtain ⟨hρ, a, vs, n, hd, rfl, hlen, rd⟩ := hJ
    obtain ⟨t, rfl⟩ := hP
    have G4 := G.keeps (kh.tr S'.kb)
    have rL' := rL.mono k1
    have c1 := S'.cellAt (x := "letters") (c := L + 1) (by rw [upd_ne (by decide)]; exact hρ)
    have c2 := S'.cellAt (x := "i") (c := L + 2) upd_at
    have nr4 : Nm (fenv 10 L f cd) s'.heap "range" (.type "range") := G4.nmB boot_range
    refine wpAny_execs_cons (assign_comp (I := Alls ((earl xs k).map fun j : Nat => PyData.int j)) (mono_alls _) S' stoL (ev_range1 (b := k) nr4 (ev_name_is (S'.nmC (x := "i") upd_at) (.int ..))) rfl ?_ fun ev s5 Z5 S5 kz5 nw5 => ?_)
    · intro u H' Z'' q1 q2 q3 hr
      refine compBody_data' (List.range k) (fun j : Nat => PyData.int j) (fun j => xs.getD j 0 == xs.getD k 0) (fun j => PyData.int j) rfl (by simp; omega) (srcD_up hh q3 hr (by omega)) ?_ ?_
      · intro i j hj u C H'' Z3' m q1' q2' q3' hn hm ru
        have hjk : j < k := by
          have := List.mem_of_getElem? hj; exact List.mem_range.mp this
        refine test_one (tst_cmp ?_)
        refine (ev_eq (da := .int (xs.getD j 0)) (db := .int (xs.getD k 0)) (ev_item (ev_name_is (Nm.cell rfl ((c1.keeps q1).keeps q1')) ((rL'.mono q2).mono q2')) (ev_name_is (Nm.loc hn hm) ru) (by omega) (by omega) (nums_getI (by omega))) (ev_item (ev_name_is (Nm.cell rfl ((c1.keeps q1).keeps q1')) ((rL'.mono q2).mono q2')) (ev_name_is (Nm.cell rfl ((c2.keeps q1).keeps q1')) (.int ..)) (by omega) (by omega) (nums_getI (by omega))) rfl rfl hunits).conseq fun _ _ _ p => ?_
        simpa [PyData.eqv] using p
      · intro i j hj hp u C H'' Z3' m q1' q2' q3' hn hm ru
        exact ev_name_is (Nm.loc hn hm) ru
    have re5 : Rd Z5 ev (.list ((earl xs k).map fun j : Nat => PyData.int j)) := nw5.is
    have hρ5 : ∀ (y : Str) v', y ≠ "earlier" → upd ρ' "i" (.int k t) y = some v' → upd (upd ρ' "i" (.int k t)) "earlier" ev y = some v' := fun y v' hy e => by rw [upd_ne hy]; exact e
    refine wpAny_execs_cons (wpAny_If (S5.ev (P := fun _ b => b = ((earl xs k).map fun j : Nat => PyData.int j).isEmpty) (tst_cmp ((ev_eq (ev_name_is (S5.nmL (x := "earlier") upd_at) re5) (ev_list items_nil) ?_ rfl hunits).conseq fun _ _ _ p => by rw [eqv_nil] at p; exact p)) fun b s6 Z6 S6 kz6 kh6 hb => ?_))
    · exact (sh_list (n := 0) fun d hd => by obtain ⟨x, _, rfl⟩ := List.mem_map.mp hd; exact sh_int _ _).shaped
    have nd6 : Nm (fenv 10 L f cd) s6.heap "due" (.ref a) := S6.nmL (x := "due") (hρ5 _ _ (by decide) (by rw [upd_ne (by decide)]; exact hd))
    by_cases he : earl xs k = []
    · rw [he] at hb
      simp only [List.map_nil, List.isEmpty_nil] at hb
      subst hb
      simp only [if_true]
      refine wpAny_execs_cons (append_st (M1 := []) S6 nd6 (ev_list (ds := dueRow xs k) (by rw [dueRow, if_pos he]; exact items_cons ev_str (items_cons ev_str (items_cons ev_str (items_cons ev_int (items_cons ev_int (items_cons ev_int (items_cons ev_bool (items_cons ev_bool (items_cons ev_bool items_nil))))))))) (by rw [dueRow, if_pos he]; decide)) (by omega) fun r s7 Z7 S7 kz7 r7 => ?_)
      refine wpAny_execs_nil (wpAny_execs_nil ⟨Z7, _, [(a, isLst (vs ++ [r]) (n + 1))], S7, kz5.tr (kz6.tr kz7), hρ5 _ _ (by decide) (by rw [upd_ne (by decide)]; exact hρ), a, vs ++ [r], n + 1, hρ5 _ _ (by decide) (by rw [upd_ne (by decide)]; exact hd), rfl, by simp [hlen], ?_⟩)
      rw [List.range_succ, List.map_append]
      exact (rd.mono (kz5.tr (kz6.tr kz7))).append (.one r7)
    · have hb' : b = false := by
        rw [hb]
        cases q : earl xs k with
        | nil => exact absurd q he
        | cons _ _ => rfl
      subst hb'
      simp only [Bool.false_eq_true, if_false]
      have hmem : (earl xs k).getLastD 0 ∈ earl xs k := by
        rw [List.getLastD_eq_getLast?, List.getLast?_eq_some_getLast he]; exact List.getLast_mem he
      have hek : (earl xs k).getLastD 0 < k := earl_lt hmem
      have hlen1 : 0 < (earl xs k).length := List.length_pos_iff.mpr he
      have hlen2 : (earl xs k).length ≤ k := by
        unfold earl; exact Nat.le_trans (List.length_filter_le _ _) (by simp)
      have rL6 : Rd Z6 v (.list (nums xs)) := rL'.mono (kz5.tr kz6)
      have re6 := re5.mono kz6
      have nE6 : Nm (fenv 10 L f cd) s6.heap "earlier" ev := S6.nmL (x := "earlier") upd_at
      have nL6 : Nm (fenv 10 L f cd) s6.heap "letters" v := S6.nmC (x := "letters") (hρ5 _ _ (by decide) (by rw [upd_ne (by decide)]; exact hρ))
      have nI6 : Nm (fenv 10 L f cd) s6.heap "i" (.int k t) := S6.nmC (x := "i") (hρ5 _ _ (by decide) upd_at)
      refine wpAny_execs_cons (assign_x (P := Is (.list (nums (sinc xs k)))) S6 stoC ?_ fun sv s7 Z7 S7 kz7 r7 => ?_)
      · refine (ev_between (ds := nums xs) (a := ((earl xs k).getLastD 0 : Int) + 1) (b := k) (ev_name_is nL6 rL6) (ev_add (ev_itemNeg (ds := (earl xs k).map fun j : Nat => PyData.int j) (k := -1) (d := .int ((earl xs k).getLastD 0)) (ev_name_is nE6 re6) (ev_neg ev_int) (by decide) (by simp; omega) (by decide) ?_) ev_int) (ev_name_is nI6 (.int ..)) (by omega) (by omega) (by simp; omega) (by simp; omega)).conseq fun _ _ _ p => ?_
        · rw [List.length_map, show (-1 + ((earl xs k).length : Int)).toNat = (earl xs k).length - 1 by omega, List.getElem?_map, ← List.getLast?_eq_getElem?]
          rw [List.getLastD_eq_getLast?, List.getLast?_eq_some_getLast he]; rfl
        · rw [show (((earl xs k).getLastD 0 : Int) + 1).toNat = (earl xs k).getLastD 0 + 1 by omega, Int.toNat_natCast] at p
          simpa [nums, sinc, List.map_take, List.map_drop] using p
      have hsl : (sinc xs k).length ≤ 100 := by
        unfold sinc; simp only [List.length_take, List.length_drop]; omega
      have G7 := G.keeps (kh.tr S7.kb)
      have nr7 : Nm (fenv 10 L f cd) s7.heap "range" (.type "range") := G7.nmB boot_range
      have nl7 : Nm (fenv 10 L f cd) s7.heap "len" (.builtin "len") := G7.nmB boot_len
      have c3 := S7.cellAt (x := "since") (c := L + 3) upd_at
      refine wpAny_execs_cons (assign_comp (I := Alls ((diff (sinc xs k)).map fun j : Nat => PyData.int j)) (mono_alls _) S7 stoL (ev_range1 nr7 (ev_len (ds := nums (sinc xs k)) nl7 (ev_name_is (S7.nmC (x := "since") upd_at) r7) (by simp; omega))) rfl ?_ fun dv s8 Z8 S8 kz8 nw8 => ?_)
      · intro u H' Z'' q1 q2 q3 hr
        refine compBody_data' (List.range (sinc xs k).length) (fun j : Nat => PyData.int j) (fun j => !(((sinc xs k).take j).contains ((sinc xs k).getD j 0))) (fun j => PyData.int j) rfl (by simp; omega) (srcD_up hh q3 (by simpa using hr) (by omega)) ?_ ?_
        · intro i j hj u C H'' Z3' m q1' q2' q3' hn hm ru
          have hjk : j < (sinc xs k).length := by
            have := List.mem_of_getElem? hj; exact List.mem_range.mp this
          refine test_one (tst_cmp ?_)
          refine (ev_notIn (d := .int ((sinc xs k).getD j 0)) (xs := nums ((sinc xs k).take j)) (ev_item (ev_name_is (Nm.cell rfl ((c3.keeps q1).keeps q1')) ((r7.mono q2).mono q2')) (ev_name_is (Nm.loc hn hm) ru) (by omega) (by omega) (nums_getI (by omega))) ?_ (nums_canLay _) rfl (by simp only [PyData.depth]; omega)).conseq fun _ _ _ p => ?_
          · refine (ev_upto (ds := nums (sinc xs k)) (b := j) (ev_name_is (Nm.cell rfl ((c3.keeps q1).keeps q1')) ((r7.mono q2).mono q2')) (ev_name_is (Nm.loc hn hm) ru) (by omega) (by simp; omega)).conseq fun _ _ _ p => ?_
            simpa [nums, List.map_take] using p
          · rw [nums_any] at p; exact p
        · intro i j hj hp u C H'' Z3' m q1' q2' q3' hn hm ru
          exact ev_name_is (Nm.loc hn hm) ru
      have rd8 : Rd Z8 dv (.list ((diff (sinc xs k)).map fun j : Nat => PyData.int j)) := nw8.is
      have hdl : (diff (sinc xs k)).length ≤ 100 := by
        unfold diff; exact Nat.le_trans (List.length_filter_le _ _) (by simpa using hsl)
      have G8 := G.keeps (kh.tr S8.kb)
      have nl8 : Nm (fenv 10 L f cd) s8.heap "len" (.builtin "len") := G8.nmB boot_len
      have hρ8 : ∀ (y : Str) v', y ≠ "since" → y ≠ "different" → upd (upd ρ' "i" (.int k t)) "earlier" ev y = some v' → upd (upd (upd (upd ρ' "i" (.int k t)) "earlier" ev) "since" sv) "different" dv y = some v' := fun y v' h1 h2 e => by rw [upd_ne h2, upd_ne h1]; exact e
      have nd8 : Nm (fenv 10 L f cd) s8.heap "due" (.ref a) := S8.nmL (x := "due") (hρ8 _ _ (by decide) (by decide) (hρ5 _ _ (by decide) (by rw [upd_ne (by decide)]; exact hd)))
      have nE8 : Nm (fenv 10 L f cd) s8.heap "earlier" ev := S8.nmL (x := "earlier") (hρ8 _ _ (by decide) (by decide) upd_at)
      have nS8 : Nm (fenv 10 L f cd) s8.heap "since" sv := S8.nmC (x := "since") (by rw [upd_ne (by decide), upd_at])
      have nD8 : Nm (fenv 10 L f cd) s8.heap "different" dv := S8.nmL (x := "different") upd_at
      refine wpAny_execs_cons (append_st (M1 := []) S8 nd8 (ev_list (ds := dueRow xs k) ?_ (by rw [dueRow, if_neg he]; exact show 9 ≤ sizeLine by decide)) (by omega) fun r s9 Z9 S9 kz9 r9 => ?_)
      · rw [dueRow, if_neg he]
        have e1 : ∀ {p1 p2 p3 : Pos}, Run prog w (A.deeper (fenv 10 L f cd)) (eval (.Call (.Name "len" p1) [.Name "since" p2] [] p3) (fenv 10 L f cd)) s8.heap Z8 (Is (.int (sinc xs k).length)) := fun {_ _ _} => (ev_len nl8 (ev_name_is nS8 (r7.mono kz8)) (by simp; omega)).conseq fun _ _ _ p => by simpa using p
        have e2 : ∀ {p1 p2 p3 : Pos}, Run prog w (A.deeper (fenv 10 L f cd)) (eval (.Call (.Name "len" p1) [.Name "different" p2] [] p3) (fenv 10 L f cd)) s8.heap Z8 (Is (.int (diff (sinc xs k)).length)) := fun {_ _ _} => (ev_len nl8 (ev_name_is nD8 rd8) (by simp; omega)).conseq fun _ _ _ p => by simpa using p
        have e3 : ∀ {p1 p2 p3 : Pos}, Run prog w (A.deeper (fenv 10 L f cd)) (eval (.Call (.Name "len" p1) [.Name "earlier" p2] [] p3) (fenv 10 L f cd)) s8.heap Z8 (Is (.int (earl xs k).length)) := fun {_ _ _} => (ev_len nl8 (ev_name_is nE8 (re6.mono (kz7.tr kz8))) (by simp; omega)).conseq fun _ _ _ p => by simpa using p
        exact items_cons e1 (items_cons e2 (items_cons e2 (items_cons e3 (items_cons ev_int (items_cons ev_int (items_cons ev_bool (items_cons ev_bool (items_cons ev_bool items_nil))))))))
      · refine wpAny_execs_nil (wpAny_execs_nil ⟨Z9, _, [(a, isLst (vs ++ [r]) (n + 1))], S9, kz5.tr (kz6.tr (kz7.tr (kz8.tr kz9))), hρ8 _ _ (by decide) (by decide) (hρ5 _ _ (by decide) (by rw [upd_ne (by decide)]; exact hρ)), a, vs ++ [r], n + 1, hρ8 _ _ (by decide) (by decide) (hρ5 _ _ (by decide) (by rw [upd_ne (by decide)]; exact hd)), rfl, by simp [hlen], ?_⟩)
        rw [List.range_succ, List.map_append]
        exact (rd.mono (kz5.tr (kz6.tr (kz7.tr (kz8.tr kz9))))).append (.one r9)
  · obtain ⟨hρ, a, vs, n, hd, rfl, hlen, rd⟩ := hJ
    refine wpAny_execs_nil ?_
    have S8 := St.freeze (M1 := []) S' (St.lstAt (M1 := []) S')
    have hz : Z' a = none := (S'.news (a, isLst vs n) (by simp)).2.2.1
    exact ret_post (P := Is _) S8 (ev_name_is (S8.nmL (x := "due") hd) (.list ⟨_, put_at, rfl, n, rfl⟩ (rd.mono (kp_put hz))))
end
end Mine
end

section
open PySem PySem.W PyProof.Rows PySem.Calls
namespace Mine

/-- what _law_read reads: the letters named by places -/
def rdAll (table left : List Int) : List (Option Nat) → Option (List Int)
  | [] => some []
  | none :: ps => match left with
    | [] => none
    | x :: left' => (rdAll (x :: table) left' ps).map (x :: ·)
  | some k :: ps => match table[k]? with
    | none => none
    | some x => (rdAll (x :: table) left ps).map (x :: ·)
abbrev thg (x : Int) : PyData := .list [.int x]

section
variable {prog : Program} {w : World} {A : Around} {S₀ : List Addr} {env : Env} {s₀ s : Shared} {Z₀ Z : Gh} {ρ : Str → Option Value} {M M1 M2 : List (Addr × (Obj → Prop))} {mg mb : Str → Option Value}

/-- delitem(x, e), x one of the frame's lists -/
theorem delL_st {x : Str} {p p1 cpos pos : Pos} {e : Expr} {a f : Addr} {vs : List Value} {n k : Nat} {i : Int} {Q : Flow → Shared → Prop} {E : Value → Shared → Prop} (X : St S₀ env s₀ Z₀ Z s ρ (M1 ++ (a, isLst vs n) :: M2)) (G : Gd mg mb s.heap) (nf : Nm env s.heap "delitem" (.ref f)) (hf : Fn 4 f s.heap) (hx : Nm env s.heap x (.ref a))
    (he : Run prog w A (eval e env) s.heap Z (Is (.int i))) (hroom : A.depth < recursionLimit) (hfit : Builtin.List.listFitsIndex i = true) (hk : seqIndex? i vs.length = some k) (hsz : vs.length ≤ sizeLine)
    (kk : ∀ s' Z' n', St S₀ env s₀ Z₀ Z' s' ρ (M1 ++ (a, isLst (vs.eraseIdx k) n') :: M2) → Kp Z Z' → (∀ b o, b ≠ a → s.heap.get? b = some o → s'.heap.get? b = some o) → Q .next s')
    (he1 : starEach [.Name x p1, e] env = (false, eval (.Name x p1) env) :: starEach [e] env := by rfl) (he2 : starEach [e] env = (false, eval e env) :: starEach [] env := by rfl)
    (hev : eval (.Call (.Name "delitem" p) [.Name x p1, e] [] cpos) env = (do callWith cpos (← eval (.Name "delitem" p) env) [] (backTo cpos (starEach [.Name x p1, e] env)) (backToKw cpos (keywordEach [] env))) := by rfl)
    (hi : interactive env = false := by rfl) (hs : swapsWith (.Call (.Name "delitem" p) [.Name x p1, e] [] cpos) none pos.line env = pure false := by rfl) :
    wpAny (model prog w) A (exec (.Expr (.Call (.Name "delitem" p) [.Name x p1, e] [] cpos) pos) env) Q E s := by
  refine wpAny_Expr_any (Call_ (nf _ _ _ _ _ _ .rf ?_) hev) hi hs
  obtain ⟨o, pm, cd, doc, ho, hd, hcr⟩ := id hf
  refine callWith_def hd (wpAny_items_cons (hx _ _ _ _ _ _ .rf (wpAny_items_cons (X.ev he fun v s1 Z1 X1 kz kh pv => wpAny_items_nil ⟨kh _ _ ho, ?_⟩) he2)) he1) he1
  obtain ⟨t, rfl⟩ := pv.int_inv
  exact delitem_list (G.keeps kh) (hf.mono kh) hroom X1.lstAt hfit hk hsz fun h' tk n' hs' ho' => kk _ Z1 n' (X1.set (tk := tk) hs' ⟨_, ho', rfl⟩) kz fun b o hb e => hs' b o hb (kh b o e)

theorem eqv_plc {o : Option Nat} : PyData.eqv (plc o) (.str "new") = o.isNone := by
  cases o <;> simp [plc, PyData.eqv]
theorem sh_plc (o : Option Nat) (n : Nat) : Sh n (plc o) := by
  cases o with
  | none => exact sh_new n
  | some k => exact sh_int _ n
theorem seqIndex_zero {n : Nat} (h : 0 < n) : seqIndex? 0 n = some 0 := by
  simp [seqIndex?]; omega
theorem seqIndex_nat {k n : Nat} (h : k < n) : seqIndex? (k : Int) n = some k := by
  simp [seqIndex?]; omega

theorem read_run {H : Heap} {f : Addr} {v u : Value} {ps : List (Option Nat)} {fs ls : List Int} (G : Gd mg mb H) (hf : Fn 12 f H) (hroom : A.depth + 1 < recursionLimit) (hh : A.handled = none) (hu : A.units < 1000) (hp : Rd Z v (.list (ps.map plc))) (hfr : Rd Z u (.list (nums fs)))
    (hps : ps.length ≤ 100) (hfs : fs.length ≤ 100) (hr : rdAll [] fs ps = some ls) : Run prog w A (call (.ref f) [v, u]) H Z (Is (.list (nums ls))) := by
  refine run_call (binds := [("places", v), ("fresh", u)]) hf G.nolimit (Nat.lt_of_succ_lt hroom) fun L cd s₀ Z₀ s₁ kh kz kz' S => ?_
  have hsL : 1000 ≤ sizeLine := by decide
  have hunits : (A.deeper (fenv 12 L f cd)).units + 64 < cLine := by
    rw [Around.deeper_units]; unfold cLine; omega
  have hroom' : (A.deeper (fenv 12 L f cd)).depth < recursionLimit := hroom
  refine wpAny_execs_cons (assign_x S stoL (ev_list items_nil) fun tv s2 Z2 S2 kz2 r2 => ?_)
  have nfr : Nm (fenv 12 L f cd) s2.heap "fresh" u := S2.nmL (x := "fresh") rfl
  refine wpAny_execs_cons (assign_comp (I := Alls (fs.map thg)) (mono_alls _) S2 stoL (ev_name_is nfr ((hfr.mono kz).mono kz2)) rfl ?_ fun lv s3 Z3 S3 kz3 nw3 => ?_)
  · intro x H' Z' q1 q2 q3 hx
    refine compBody_data' fs (fun x => PyData.int x) (fun _ => true) thg (congrArg _ (List.filter_eq_self.mpr fun _ _ => rfl)) (by omega) (srcD_list hh q3 hx) (fun _ _ _ _ _ _ _ _ _ _ _ _ _ _ => test_nil) ?_
    intro i j hj hp u C H'' Z3' m q1' q2' q3' hn hm ru
    exact ev_list (items_cons (ev_name_is (Nm.loc hn hm) ru) items_nil)
  obtain ⟨b, vs, n, rfl, S4, kz4, r4⟩ := S2.thawL S3 kz3 nw3
  refine wpAny_execs_cons (assign_x S4 stoL (ev_List (mono_alls []) items_nil fun _ _ p => by rw [p.length]; exact Nat.zero_le _) fun lt s5 Z5 S5 kz5 nw5 => ?_)
  obtain ⟨c, ws, n', rfl, S6, kz6, r6⟩ := S4.thawL S5 kz5 nw5
  obtain ⟨pa, pvs, rfl, hpl, hpr⟩ := ((hp.mono kz).mono (kz2.tr (kz4.tr kz6))).list_inv
  have hpl0 : IsL s₀.heap.get? pa pvs := by
    obtain ⟨pa', pvs', e, h1, h2⟩ := (hp.mono kz).list_inv
    cases e
    have h3 := (h1.mono (kz2.tr (kz4.tr kz6)))
    obtain ⟨o1, e1, _, n1, d1⟩ := h3
    obtain ⟨o2, e2, _, n2, d2⟩ := hpl
    rw [e1] at e2; cases e2
    rw [d1] at d2
    have : pvs'.toArray = pvs.toArray := by cases d2; rfl
    have : pvs' = pvs := by simpa using this
    exact this ▸ h1.mono kz'
  have hplen : pvs.length = ps.length := by simpa using hpr.length
  refine wpAny_execs_cons (St.for_ S6 stoL (n := pvs.length) (P := fun i u => pvs[i]? = some u) (fun k Z ρ M => ∃ tv table left b vs n c ws n' done rest, ρ "table" = some tv ∧ Rd Z tv (.list (table.map thg)) ∧ ρ "left" = some (.ref b) ∧ ρ "letters" = some (.ref c) ∧ M = [(c, isLst ws n'), (b, isLst vs n)] ∧
      RdAll Z vs (left.map thg) ∧ RdAll Z ws (nums done) ∧ rdAll table left (ps.drop k) = some rest ∧ done ++ rest = ls ∧ table.length ≤ k ∧ ws.length ≤ k ∧ left.length ≤ 100)
    (ev_name (P := fun _ v => v = .ref pa) (S6.nmL (x := "places") rfl) fun _ _ => rfl) (fun x H' Z' k1 k2 k3 e => ?_) (fun Z' k1 => ?_) (fun k u Z' s' ρ' M' F hk hP k1 hJ S' => ?_) fun Z' s' ρ' M' k1 hJ S' => ?_)
  · subst e
    exact src_list hh (hpl0.mono (S6.kb.tr k1)) ⟨let ⟨o, e, _⟩ := hpl0; ⟨o, e⟩, by simp⟩
  · exact ⟨tv, [], fs, b, vs, n, c, ws, n', [], ls, rfl, (r2.mono (kz4.tr kz6)).mono k1, rfl, rfl, rfl, (r4.mono kz6).mono k1, by simpa using r6.mono k1, by simpa using hr, rfl, Nat.zero_le _, by rw [r6.length]; exact Nat.zero_le _, hfs⟩
  · obtain ⟨tv, table, left, b, vs, n, c, ws, n', done, rest, h1, h2, h3, h4, rfl, h5, h6, h7, h8, h9, h10, h11⟩ := hJ
    obtain ⟨dp, hdp, rp⟩ := (hpr.mono k1).get hP
    obtain ⟨p, hpk, rfl⟩ : ∃ p, ps[k]? = some p ∧ plc p = dp := by simpa [List.getElem?_map] using hdp
    have hdrop : ps.drop k = p :: ps.drop (k + 1) := by
      have hlt : k < ps.length := by omega
      rw [List.drop_eq_getElem_cons hlt]
      congr 1
      rw [List.getElem?_eq_getElem hlt] at hpk; exact Option.some.inj hpk
    rw [hdrop] at h7
    have G4 := G.keeps (kh.tr S'.kb)
    have np : Nm (fenv 12 L f cd) s'.heap "place" u := S'.nmL (x := "place") upd_at
    have hρ : ∀ (y : Str) v', y ≠ "place" → ρ' y = some v' → upd ρ' "place" u y = some v' := fun y v' hy e => by rw [upd_ne hy]; exact e
    refine wpAny_execs_cons (wpAny_mono (Q := fun fl s3 => fl = .next ∧ ∃ x th Z3 ρ3 vs3 n3 left3 rest3, St [] (fenv 12 L f cd) s₀ Z₀ Z3 s3 ρ3 ([(c, isLst ws n'), (b, isLst vs3 n3)] ++ F) ∧ Kp Z' Z3 ∧ ρ3 "table" = some tv ∧ ρ3 "left" = some (.ref b) ∧ ρ3 "letters" = some (.ref c) ∧ ρ3 "thing" = some th ∧
      Rd Z3 th (thg x) ∧ RdAll Z3 vs3 (left3.map thg) ∧ left3.length ≤ 100 ∧ rdAll (x :: table) left3 (ps.drop (k + 1)) = some rest3 ∧ done ++ x :: rest3 = ls) (E := fun _ _ => False) ?_ ?_ fun _ _ h => h)
    · refine wpAny_If (S'.ev (P := fun _ r => r = p.isNone) (tst_cmp ((ev_eq (ev_name_is np rp) ev_str (sh_plc p 0).shaped (sh_new 0).shaped hunits).conseq fun _ _ _ q => by rw [eqv_plc] at q; exact q)) fun r s3 Z3 S3 kz3 kh3 hr3 => ?_)
      have G5 := G.keeps (kh.tr S3.kb)
      obtain ⟨fg, ng, hfg⟩ := G5.nmF (env := fenv 12 L f cd) 5
      obtain ⟨fd, nd, hfd⟩ := G5.nmF (env := fenv 12 L f cd) 4
      have nlf : Nm (fenv 12 L f cd) s3.heap "left" (.ref b) := S3.nmL (x := "left") (hρ _ _ (by decide) h3)
      have ntb : Nm (fenv 12 L f cd) s3.heap "table" tv := S3.nmL (x := "table") (hρ _ _ (by decide) h1)
      cases p with
      | none =>
        simp only [Option.isNone_none] at hr3
        subst hr3
        simp only [if_true]
        cases left with
        | nil => simp [rdAll] at h7
        | cons x left =>
          simp only [rdAll, Option.map_eq_some_iff] at h7
          obtain ⟨rest3, h7, rfl⟩ := h7
          cases h5 with
          | @cons v0 vs0 _ _ rv rvs =>
          have hlist : s3.heap.get? b = some (lst (v0 :: vs0) n) := St.lstAt (M1 := [(c, isLst ws n')]) (M2 := F) S3
          refine wpAny_execs_cons (assign_x (P := fun _ v => v = v0) S3 stoL ?_ fun th s4 Z4 S4 kz4 e4 => ?_)
          · refine ev_callF (k := 5) ng hfg (items_consV (P := fun _ v => v = .ref b) (fun _ _ _ _ e => e) (ev_name nlf fun _ _ => rfl) (items_consV (mono_is (.int 0)) ev_int items_nilV)) ?_
            rintro H' Z'' us q1 q2 q3 ⟨_, _, rfl, rfl, _, _, rfl, ri, rfl⟩
            obtain ⟨ti, rfl⟩ := ri.int_inv
            exact getitem_list (G5.keeps q1) (hfg.mono q1) hroom' ⟨_, q1 _ _ hlist, rfl, n, rfl⟩ (by decide) (seqIndex_zero (by simp)) rfl
          subst e4
          have G6 := G.keeps (kh.tr S4.kb)
          obtain ⟨fd, nd, hfd⟩ := G6.nmF (env := fenv 12 L f cd) 4
          refine wpAny_execs_cons (delL_st (M1 := [(c, isLst ws n')]) (M2 := F) (k := 0) S4 G6 nd hfd (S4.nmL (x := "left") (by rw [upd_ne (by decide)]; exact hρ _ _ (by decide) h3)) ev_int hroom' (by decide) (seqIndex_zero (by simp)) (by have := rvs.length; simp at this h11 ⊢; omega) fun s5 Z5 n5 S5 kz5 _ => ?_)
          refine wpAny_execs_nil ⟨rfl, x, th, Z5, _, vs0, n5, left, rest3, S5, kz3.tr (kz4.tr kz5), by rw [upd_ne (by decide)]; exact hρ _ _ (by decide) h1, by rw [upd_ne (by decide)]; exact hρ _ _ (by decide) h3, by rw [upd_ne (by decide)]; exact hρ _ _ (by decide) h4, upd_at, rv.mono (kz3.tr (kz4.tr kz5)), rvs.mono (kz3.tr (kz4.tr kz5)), by simp at h11; omega, h7, h8⟩
      | some j =>
        simp only [Option.isNone_some] at hr3
        subst hr3
        simp only [Bool.false_eq_true, if_false]
        simp only [rdAll] at h7
        cases hx : table[j]? with
        | none => rw [hx] at h7; cases h7
        | some x =>
          rw [hx] at h7
          simp only [Option.map_eq_some_iff] at h7
          obtain ⟨rest3, h7, rfl⟩ := h7
          obtain ⟨ta, tvs, rfl, htl, htr⟩ := (h2.mono kz3).list_inv
          have hjlt : j < table.length := by
            rcases Nat.lt_or_ge j table.length with q | q
            · exact q
            · rw [List.getElem?_eq_none q] at hx; cases hx
          obtain ⟨v0, hv0, rv0⟩ := htr.get' (k := j) (d := thg x) (by rw [List.getElem?_map, hx]; rfl)
          have htlen : tvs.length = table.length := by simpa using htr.length
          refine wpAny_execs_cons (assign_x (P := fun _ v => v = v0) S3 stoL ?_ fun th s4 Z4 S4 kz4 e4 => ?_)
          · refine ev_callF (k := 5) ng hfg (items_consV (P := fun _ v => v = .ref ta) (fun _ _ _ _ e => e) (ev_name ntb fun _ _ => rfl) (items_consV (mono_is (.int j)) (ev_name_is (S3.nmL (x := "place") upd_at) (rp.mono kz3)) items_nilV)) ?_
            rintro H' Z'' us q1 q2 q3 ⟨_, _, rfl, rfl, _, _, rfl, ri, rfl⟩
            obtain ⟨ti, rfl⟩ := ri.int_inv
            exact getitem_list (G5.keeps q1) (hfg.mono q1) hroom' ((htl.mono S3.keepZ).mono q1) (by omega) (seqIndex_nat (by omega)) hv0
          subst e4
          refine wpAny_execs_nil ⟨rfl, x, th, Z4, _, vs, n, left, rest3, S4, kz3.tr kz4, by rw [upd_ne (by decide)]; exact hρ _ _ (by decide) h1, by rw [upd_ne (by decide)]; exact hρ _ _ (by decide) h3, by rw [upd_ne (by decide)]; exact hρ _ _ (by decide) h4, upd_at, rv0.mono kz4, h5.mono (kz3.tr kz4), h11, h7, h8⟩
    · rintro fl s3 ⟨rfl, x, th, Z3, ρ3, vs3, n3, left3, rest3, S3, kz3, g1, g2, g3, g4, g5, g6, g7, g8, g9⟩
      dsimp only
      have G5 := G.keeps (kh.tr S3.kb)
      obtain ⟨fc, nc, hfc⟩ := G5.nmF (env := fenv 12 L f cd) 1
      have nth : Nm (fenv 12 L f cd) s3.heap "thing" th := S3.nmL (x := "thing") g4
      obtain ⟨ta, tvs, rfl, htl, htr⟩ := (h2.mono kz3).list_inv
      have htlen : tvs.length = table.length := by simpa using htr.length
      have ntb : Nm (fenv 12 L f cd) s3.heap "table" (.ref ta) := S3.nmL (x := "table") g1
      refine wpAny_execs_cons (assign_x (P := Is (.list ((x :: table).map thg))) S3 stoL ?_ fun tv4 s4 Z4 S4 kz4 r4 => ?_)
      · refine ev_callF (k := 1) nc hfc (items_consV (P := fun Z v => ∃ a n, v = .ref a ∧ Z a = some (lst [th] n)) (fun _ _ _ k ⟨a, n, e, h⟩ => ⟨a, n, e, k _ _ h⟩) ((ev_List (I := fun _ vs => vs = [th]) (fun _ _ _ _ e => e) ((items_consV (P := fun _ v => v = th) (fun _ _ _ _ e => e) (ev_name nth fun _ _ => rfl) items_nilV).conseq fun _ _ _ ⟨_, _, e, e1, e2⟩ => by rw [e, e1, e2]) fun _ vs e => by rw [e]; exact show 1 ≤ sizeLine by decide).conseq fun _ _ _ ⟨a, vs, n, e, _, hz, hv⟩ => ⟨a, n, e, hv ▸ hz⟩)
          (items_consV (P := fun _ v => v = .ref ta) (fun _ _ _ _ e => e) (ev_name ntb fun _ _ => rfl) items_nilV)) ?_
        rintro H' Z'' us q1 q2 q3 ⟨_, _, rfl, ⟨a1, n1, rfl, hz1⟩, _, _, rfl, rfl, rfl⟩
        refine (concat_list (mono_alls _) (G5.keeps q1) (hfc.mono q1) hroom' (q3 _ _ hz1) ((htl.mono S3.keepZ).mono q1) ?_ (by simp; omega)).conseq fun _ _ _ p => p.is
        exact .cons (g5.mono q2) (htr.mono q2)
      · refine wpAny_execs_cons (append_st (M1 := []) S4 (S4.nmL (x := "letters") (by rw [upd_ne (by decide)]; exact g3)) (ev_item (ds := [.int x]) (k := 0) (d := .int x) (ev_name_is (S4.nmL (x := "thing") (by rw [upd_ne (by decide)]; exact g4)) (g5.mono kz4)) ev_int (by decide) (by decide) rfl) (by omega) fun lv s5 Z5 S5 kz5 r5 => ?_)
        refine wpAny_execs_nil ⟨Z5, _, [(c, isLst (ws ++ [lv]) (n' + 1)), (b, isLst vs3 n3)], S5, kz3.tr (kz4.tr kz5), tv4, x :: table, left3, b, vs3, n3, c, ws ++ [lv], n' + 1, done ++ [x], rest3, upd_at, r4.mono kz5, by rw [upd_ne (by decide)]; exact g2, by rw [upd_ne (by decide)]; exact g3, rfl, g6.mono (kz4.tr kz5), ?_, g8, by simpa using g9, by simp; omega, by simp; omega, g7⟩
        simpa [nums] using (h6.mono (kz3.tr (kz4.tr kz5))).append (.one r5)
  · obtain ⟨tv, table, left, b, vs, n, c, ws, n', done, rest, h1, h2, h3, h4, rfl, h5, h6, h7, h8, h9, h10, h11⟩ := hJ
    refine wpAny_execs_nil ?_
    have S8 := St.freeze (M1 := []) S' (St.lstAt (M1 := []) S')
    have hz : Z' c = none := (S'.news (c, isLst ws n') (by simp)).2.2.1
    rw [hplen, List.drop_length] at h7
    cases h7
    rw [List.append_nil] at h8
    subst h8
    exact ret_post (P := Is _) S8 (ev_name_is (S8.nmL (x := "letters") h4) (.list ⟨_, put_at, rfl, n', rfl⟩ (h6.mono (kp_put hz))))
end
end Mine
end

section
open PySem PySem.W PyProof.Rows PySem.Calls
namespace Mine

def isI : PyData → Bool
  | .int _ | .bool _ => true
  | _ => false
def isB : PyData → Bool
  | .bool _ => true
  | _ => false
def sca : PyData → Bool
  | .int _ | .bool _ | .str _ => true
  | _ => false

section
variable {prog : Program} {w : World} {A : Around} {H : Heap} {Z : Gh} {env : Env}
theorem ev_isInt {p p2 pos : Pos} {e : Expr} {d : PyData} (hd : sca d = true) (n : Nm env H "isinstance" (.builtin "isinstance")) (n2 : Nm env H "int" (.type "int")) (h : Run prog w A (eval e env) H Z (Is d))
    (he : starEach [e, .Name "int" p2] env = (false, eval e env) :: starEach [.Name "int" p2] env := by rfl) (hpl : (backTo pos (starEach [.Name "int" p2] env)).any (·.1) = false := by rfl)
    (hev : eval (.Call (.Name "isinstance" p) [e, .Name "int" p2] [] pos) env = (do callWith pos (← eval (.Name "isinstance" p) env) [] (backTo pos (starEach [e, .Name "int" p2] env)) (backToKw pos (keywordEach [] env))) := by rfl) :
    Run prog w A (eval (.Call (.Name "isinstance" p) [e, .Name "int" p2] [] pos) env) H Z (Is (.bool (isI d))) :=
  ev_callB n (items_consV (mono_is _) h (items_consV (P := fun _ v => v = .type "int") (fun _ _ _ _ e => e) (ev_name n2 fun _ _ => rfl) items_nilV) he) (fun H' Z' vs _ _ kz p => by
    obtain ⟨v, us, rfl, rv, _, _, rfl, rfl, rfl⟩ := p
    cases d with
    | int i => obtain ⟨t, rfl⟩ := rv.int_inv; exact Run.same (fun _ _ _ _ q => IsiPair.int_int q) fun _ _ => .bool _
    | bool b => obtain rfl := rv.bool_inv; exact Run.same (fun _ _ _ _ q => IsiPair.bool_int q) fun _ _ => .bool _
    | str x => obtain ⟨t, rfl⟩ := rv.str_inv; exact Run.toks fun _ _ _ _ q => IsiPair.str_int (q _ _ fun _ _ => .bool _)
    | _ => cases hd) he hpl hev
theorem ev_isBool {p p2 pos : Pos} {e : Expr} {d : PyData} (hd : sca d = true) (n : Nm env H "isinstance" (.builtin "isinstance")) (n2 : Nm env H "bool" (.type "bool")) (h : Run prog w A (eval e env) H Z (Is d))
    (he : starEach [e, .Name "bool" p2] env = (false, eval e env) :: starEach [.Name "bool" p2] env := by rfl) (hpl : (backTo pos (starEach [.Name "bool" p2] env)).any (·.1) = false := by rfl)
    (hev : eval (.Call (.Name "isinstance" p) [e, .Name "bool" p2] [] pos) env = (do callWith pos (← eval (.Name "isinstance" p) env) [] (backTo pos (starEach [e, .Name "bool" p2] env)) (backToKw pos (keywordEach [] env))) := by rfl) :
    Run prog w A (eval (.Call (.Name "isinstance" p) [e, .Name "bool" p2] [] pos) env) H Z (Is (.bool (isB d))) :=
  ev_callB n (items_consV (mono_is _) h (items_consV (P := fun _ v => v = .type "bool") (fun _ _ _ _ e => e) (ev_name n2 fun _ _ => rfl) items_nilV) he) (fun H' Z' vs _ _ kz p => by
    obtain ⟨v, us, rfl, rv, _, _, rfl, rfl, rfl⟩ := p
    cases d with
    | int i => obtain ⟨t, rfl⟩ := rv.int_inv; exact Run.toks fun _ _ _ _ q => IsiPair.int_bool (q _ _ fun _ _ => .bool _)
    | bool b => obtain rfl := rv.bool_inv; exact Run.same (fun _ _ _ _ q => IsiPair.bool_bool q) fun _ _ => .bool _
    | str x => obtain ⟨t, rfl⟩ := rv.str_inv; exact Run.toks fun _ _ _ _ q => IsiPair.str_bool (q _ _ fun _ _ => .bool _)
    | _ => cases hd) he hpl hev
theorem ev_IfExp {c x y : Expr} {pos : Pos} {b : Bool} {P : Gh → Value → Prop} (hc : Tst prog w A env c H Z b) (hx : b = true → Run prog w A (eval x env) H Z P) (hy : b = false → Run prog w A (eval y env) H Z P) :
    Run prog w A (eval (.IfExp c x y pos) env) H Z P := by
  intro s Z1 k1 k2 k3
  refine wpAny_IfExp (hc.cps k1 k2 k3 fun v h1 t1 Z2 e1 p1 => ?_)
  subst p1
  cases v with
  | true => simp only [if_true]; exact Run.at e1 ((hx rfl).mono (k1.tr e1.hp) (k2.tr e1.zz))
  | false => simp only [Bool.false_eq_true, if_false]; exact Run.at e1 ((hy rfl).mono (k1.tr e1.hp) (k2.tr e1.zz))

/-- a thing: the list of one letter, whose token tells its number -/
def Thg (κ : Tok → Int) (Z : Gh) (v : Value) (k : Int) : Prop := ∃ a t, v = .ref a ∧ IsL Z a [.int k t] ∧ isTk κ k (.int k t) = true
theorem Thg.mono {κ : Tok → Int} {Z Z' : Gh} {v : Value} {k : Int} (h : Thg κ Z v k) (kz : Kp Z Z') : Thg κ Z' v k := let ⟨a, t, e, l, i⟩ := h; ⟨a, t, e, l.mono kz, i⟩
theorem Thg.rd {κ : Tok → Int} {Z : Gh} {v : Value} {k : Int} (h : Thg κ Z v k) : Rd Z v (thg k) := by
  obtain ⟨a, t, rfl, l, i⟩ := h
  exact .list l (.one (.int ..))
/-- things, one for each of the letters -/
inductive Thgs (κ : Tok → Int) (Z : Gh) : List Value → List Int → Prop
  | nil : Thgs κ Z [] []
  | cons {v : Value} {vs : List Value} {k : Int} {ks : List Int} : Thg κ Z v k → Thgs κ Z vs ks → Thgs κ Z (v :: vs) (k :: ks)
section
variable {κ : Tok → Int} {Z' : Gh} {vs : List Value} {ks : List Int}
theorem Thgs.mono (h : Thgs κ Z vs ks) (kz : Kp Z Z') : Thgs κ Z' vs ks := by
  induction h with
  | nil => exact .nil
  | cons h _ ih => exact .cons (h.mono kz) ih
theorem Thgs.rd (h : Thgs κ Z vs ks) : RdAll Z vs (ks.map thg) := by
  induction h with
  | nil => exact .nil
  | cons h _ ih => exact .cons h.rd ih
theorem Thgs.length (h : Thgs κ Z vs ks) : vs.length = ks.length := by
  induction h with
  | nil => rfl
  | cons _ _ ih => simp [ih]
theorem Thgs.get (h : Thgs κ Z vs ks) {i : Nat} {v : Value} (e : vs[i]? = some v) : ∃ k, ks[i]? = some k ∧ Thg κ Z v k := by
  induction h generalizing i with
  | nil => simp at e
  | cons h _ ih =>
    cases i with
    | zero => simp at e; subst e; exact ⟨_, rfl, h⟩
    | succ i => simpa using ih (by simpa using e)
theorem Thgs.get' (h : Thgs κ Z vs ks) {i : Nat} {k : Int} (e : ks[i]? = some k) : ∃ v, vs[i]? = some v ∧ Thg κ Z v k := by
  induction h generalizing i with
  | nil => simp at e
  | cons h _ ih =>
    cases i with
    | zero => simp at e; subst e; exact ⟨_, rfl, h⟩
    | succ i => simpa using ih (by simpa using e)
theorem Thgs.eraseIdx (h : Thgs κ Z vs ks) (i : Nat) : Thgs κ Z (vs.eraseIdx i) (ks.eraseIdx i) := by
  induction h generalizing i with
  | nil => simpa using Thgs.nil
  | cons h r ih =>
    cases i with
    | zero => simpa using r
    | succ i => simpa using Thgs.cons h (ih i)
end

/-- going through a dict's keys -/
theorem src_keys {κ : Tok → Int} {Bs : Addr → Prop} {d : Addr} {kvs : List (Int × Value)} (hh : A.handled = none) (hb : H.DictOf (tkKind prog w κ) d kvs) (hds : (d == sysModules) = false) (kb : Bs d) :
    SrcB prog w A Bs (.ref d) H kvs.length (fun i v => ∃ k x, kvs[i]? = some (k, x) ∧ isTk κ k v = true) := by
  intro s Q E k q
  obtain ⟨ep, hm⟩ := (hb.keep k).dictAt
  have hne : d ≠ s.heap.objs.size := Nat.ne_of_lt hm.lt_size
  refine wpAny_pyIter_dict hds hm ?_
  have W := Walks.dictKeys (prog := prog) (w := w) (knd := tkKind prog w κ) hh s.heap.objs.size d hne kvs ep
  refine q s.heap.objs.size [s.heap.objs.size, d] [s.heap.objs.size] _ _ s.toks W ⟨⟨_, Heap.get?_push_size _ rfl, rfl, rfl⟩, hm.push _⟩ (fun _ _ e => Heap.get?_push_of_some _ e) ?_ ?_ ?_ (by simp)
  · intro b hb; rw [List.mem_singleton.mp hb]; exact heap_none_of_new (Nat.le_refl _)
  · rintro i h ⟨⟨o1, h1, _⟩, ⟨o2, _, h2, _⟩⟩ b hb
    rcases List.mem_cons.mp hb with rfl | hb
    · exact ⟨_, h1⟩
    · rw [List.mem_singleton.mp hb]; exact ⟨_, h2⟩
  · intro b hb
    rcases List.mem_cons.mp hb with rfl | hb
    · exact .inl (List.mem_singleton.mpr rfl)
    · rw [List.mem_singleton.mp hb]; exact .inr kb
theorem srcD_keys {κ : Tok → Int} {d : Addr} {kvs : List (Int × Value)} (hh : A.handled = none) (hb : H.DictOf (tkKind prog w κ) d kvs) (hds : (d == sysModules) = false) : SrcD prog w A ((kvs.map (·.1)).map fun x : Int => PyData.int x) (.ref d) H Z := by
  refine ⟨fun i v => ∃ k x, kvs[i]? = some (k, x) ∧ isTk κ k v = true, by simpa using src_keys hh hb hds trivial, fun i u ⟨k, x, e, hk⟩ => ⟨.int k, by simp [e], ?_⟩⟩
  obtain ⟨t, rfl, _⟩ := isTk_shape hk
  exact .int ..
end
end Mine
end

section
open PySem PySem.W PyProof.Rows PySem.Calls
namespace Mine
section
variable {prog : Program} {w : World} {A : Around} {S₀ : List Addr} {env : Env} {s₀ s : Shared} {Z₀ Z : Gh} {ρ : Str → Option Value} {M M' : List (Addr × (Obj → Prop))} {mg mb : Str → Option Value}

/-- the frame's own things, told anew -/
theorem St.remap (X : St S₀ env s₀ Z₀ Z s ρ M) (h : ∀ p ∈ M', ∃ q ∈ M, q.1 = p.1 ∧ ∀ o, s.heap.get? q.1 = some o → q.2 o → p.2 o) (hn : (M'.map (·.1)).Nodup) : St S₀ env s₀ Z₀ Z s ρ M' :=
  { X with
    news := fun p hp => by
      obtain ⟨q, hq, e, hi⟩ := h p hp
      obtain ⟨⟨o, eo, po⟩, r⟩ := X.news q hq
      rw [e] at eo r
      exact ⟨⟨o, eo, hi o (by rw [e]; exact eo) po⟩, r⟩
    nodup := hn }

theorem thg_unique {κ : Tok → Int} {v : Value} {k k' : Int} (h : Thg κ Z v k) (h' : Thg κ Z v k') : k = k' := by
  obtain ⟨a, t, rfl, ⟨o, e, _, n, d⟩, _⟩ := h
  obtain ⟨a', t', q, ⟨o', e', _, n', d'⟩, _⟩ := h'
  cases q
  rw [e] at e'; cases e'
  rw [d] at d'
  injection d' with d1 _
  have := congrArg Array.toList d1
  simp at this
  exact this.1

/-- the pairs that the dict has, once each thing is stored under its letter -/
theorem stored_zip {κ : Tok → Int} {vs : List Value} {ks : List Int} (hth : Thgs κ Z vs ks) (hnd : ks.Nodup) : ∀ {l : List Value} {kvs : List (Int × Value)}, StoredAll (fun v k => Thg κ Z v k) (fun v y => v = y) l kvs → l <+: vs → kvs = (ks.zip vs).take l.length := by
  intro l kvs h
  induction h with
  | nil => intro _; simp
  | @snoc l kvs v k y hs hk hy ih =>
    intro hp
    subst hy
    have hp' : l <+: vs := (List.prefix_append l [v]).trans hp
    have hv : vs[l.length]? = some v := by
      obtain ⟨r, e⟩ := hp
      rw [← e]; simp
    obtain ⟨k', hk', ht⟩ := hth.get hv
    obtain rfl := thg_unique hk ht
    rw [ih hp']
    have hz : (ks.zip vs)[l.length]? = some (k, v) := by
      rw [List.getElem?_zip_eq_some]; exact ⟨hk', hv⟩
    rw [List.length_append, List.length_singleton, take_succ_of_get hz]
    unfold stored
    rw [if_neg]
    intro ha
    rw [List.any_eq_true] at ha
    obtain ⟨⟨k2, v2⟩, hm, e⟩ := ha
    simp only [decide_eq_true_eq] at e
    subst e
    obtain ⟨i, hi⟩ := List.getElem?_of_mem hm
    have hil : i < l.length := by
      rcases Nat.lt_or_ge i l.length with q | q
      · exact q
      · rw [List.getElem?_eq_none (by rw [List.length_take]; omega)] at hi; cases hi
    rw [List.getElem?_take_of_lt hil, List.getElem?_zip_eq_some] at hi
    have h1 := hi.1
    simp only at h1
    have := (List.getElem?_inj (by
      rcases Nat.lt_or_ge i ks.length with q | q
      · exact q
      · rw [List.getElem?_eq_none q] at h1; cases h1) hnd).mp (h1.trans hk'.symm)
    omega

abbrev isDct (prog : Program) (w : World) (κ : Tok → Int) (kvs : List (Int × Value)) : Obj → Prop := fun o => o.IsDictOf (tkKind prog w κ) kvs

theorem assign_shown {κ : Tok → Int} {x : Str} {p1 p2 p3 p4 p5 p6 pc pos pos' : Pos} {c0 : Nat} {scope : Scope} {cl : List (Str × Addr)} {nw : Addr} {vs : List Value} {n : Nat} {ks : List Int} {Q : Flow → Shared → Prop} {E : Value → Shared → Prop} (hh : A.handled = none)
    (X : St S₀ env s₀ Z₀ Z s ρ M) (G : Gd mg mb s.heap) (nn : Nm env s.heap "newest" (.ref nw)) (hl : s.heap.get? nw = some (lst vs n)) (hth : Thgs κ Z vs ks) (hnd : ks.Nodup) (hsz : vs.length ≤ sizeLine) (hx : Sto S₀ env s₀ Z₀ x) (hclos : closureFor scope env = pure cl)
    (k : ∀ D s', St S₀ env s₀ Z₀ Z s' (upd ρ x (.ref D)) ((D, isDct prog w κ (ks.zip vs)) :: M) → (D == sysModules) = false → Q .next s')
    (hsw : swapsWith (.DictComp (.Subscript (.Name "one" p1) (.Constant (.int 0) c0 p2) p3) (.Name "one" p4) [⟨.Name "one" p5, .Name "newest" p6, [], 0⟩] scope pc) (some (.Name x pos')) pos.line env = pure true := by rfl)
    (hcell : ∀ y ∈ scope.names, y.2 ≠ .cell := by decide) (hkind : scope.kind = .function := by rfl) (hnames : ∀ y ∈ scope.names, y.2 = .local → scope.names.lookup y.1 = some .local := by decide) (hy : scope.names.lookup (Str.ofString "one") = some .local := by rfl)
    (hs : ∀ x, foldedSetIterable (.Name "newest" p6) env x = pure x := by intro _; rfl) :
    wpAny (model prog w) A (exec (.Assign [.Name x pos'] (.DictComp (.Subscript (.Name "one" p1) (.Constant (.int 0) c0 p2) p3) (.Name "one" p4) [⟨.Name "one" p5, .Name "newest" p6, [], 0⟩] scope pc) pos) env) Q E s := by
  rw [exec_Assign_Name_used _ _ _ _ hsw]
  refine wpAny_bind (wpAny_standAt (wpAny_bind ?_))
  rw [arm_evalThenUse_DictComp]
  refine wpAny_bind ?_
  refine wpAny_comprehension_free rfl hs hclos hkind hnames (nn _ _ _ _ _ _ .rf ?_)
  refine src_list (prog := prog) (w := w) (Bs := fun _ => True) hh (H := s.heap) ⟨_, hl, rfl, n, rfl⟩ trivial s _ _ .rf fun I₀ fp wr St h2 t2 W st0 k4 hwr live _ _ => ?_
  refine wpAny_newObj_type (wpAny_newFunctionEnv hcell (by intro y hy; simp at hy) (fun h3 hns hsb => ?_) hkind)
  dsimp only at hns hsb ⊢
  have hnew : (h2.push { cls := .type "dict", dict := none, data := .dict #[] }).DictOf (tkKind prog w κ) h2.objs.size [] := Heap.DictOf.new h2
  generalize hH2 : h2.push { cls := .type "dict", dict := none, data := .dict #[] } = H2 at hns hsb hnew ⊢
  have hC : H2.objs.size = h2.objs.size + 1 := by rw [← hH2, Heap.size_push]
  have hDC : h2.objs.size ≠ H2.objs.size := by rw [hC]; exact Nat.ne_of_lt (Nat.lt_succ_self _)
  have below : ∀ b, b < h2.objs.size → b ≠ H2.objs.size ∧ b ≠ h2.objs.size := fun b hb => ⟨by rw [hC]; exact Nat.ne_of_lt (Nat.lt_succ_of_lt hb), Nat.ne_of_lt hb⟩
  have old : Kp h2.get? h3.get? := fun b o e => hsb.extBut b o (below b (Heap.lt_size e)).1 (Heap.get?_push_of_some _ (hH2 ▸ Heap.get?_push_of_some _ e))
  have hacc : h3.DictOf (tkKind prog w κ) h2.objs.size [] := hnew.at fun o e => hsb.extBut _ _ hDC (Heap.get?_push_of_some _ e)
  have hst3 : St 0 h3 := W.frame _ _ _ st0 fun b _ o e => old b o e
  have hDf : h2.objs.size ∉ fp := fun hm => by obtain ⟨o, e⟩ := live _ _ st0 _ hm; exact Nat.lt_irrefl _ (Heap.lt_size e)
  have hCf : H2.objs.size ∉ fp := fun hm => by
    obtain ⟨o, e⟩ := live _ _ st0 _ hm
    have := Heap.lt_size e; rw [hC] at this; exact Nat.lt_irrefl _ (Nat.lt_of_succ_lt this)
  have upS : ∀ (h : Heap), (∀ b o, b ≠ H2.objs.size → b ∉ wr → b ≠ h2.objs.size → h3.get? b = some o → h.get? b = some o) → Kp s.heap.get? h.get? := fun h hk b o e => by
    have e2 := k4 b o e
    exact hk b o (below b (Heap.lt_size e2)).1 (fun q => by rw [hwr b q] at e; cases e) (below b (Heap.lt_size e2)).2 (old b o e2)
  have hDs : (h2.objs.size == sysModules) = false := by
    obtain ⟨o, _, _, e, _⟩ := G.g
    have h := Heap.lt_size (k4 _ _ e)
    have h' : 3 < h2.objs.size := h
    rw [beq_eq_false_iff_ne]
    intro q
    have : h2.objs.size = 1 := q
    omega
  have kz3 : ∀ (h : Heap), (∀ b o, b ≠ H2.objs.size → b ∉ wr → b ≠ h2.objs.size → h3.get? b = some o → h.get? b = some o) → Kp Z h.get? := fun h hk => X.keepZ.tr (upS h hk)
  have loop : ∀ s3 : Shared, s3 = { s with heap := h3, toks := t2 + ([] : List (Str × Value)).length } →
      codeAny (model prog w) A (.compLoop (.DictComp (.Subscript (.Name "one" p1) (.Constant (.int 0) c0 p2) p3) (.Name "one" p4) [⟨.Name "one" p5, .Name "newest" p6, [], 0⟩] scope pc) 0 (.ref I₀) (.ref h2.objs.size) (compEnvC scope cl H2.objs.size env))
        (compPost (model prog w) A E (some (assign (.Name x pos') env)) (fun _ s' => wpAny (model prog w) A (pure ()) (fun _ s' => wpAny (model prog w) A (pure Flow.next) Q E s') E s') (.ref h2.objs.size) H2.objs.size) s3 := by
    rintro s3 rfl
    refine codeAny_compLoop_walkD (hsz := hsz) (knd := tkKind prog w κ) (cenv := compEnvC scope cl H2.objs.size env) W (fun _ => true) (fun v k => Thg κ Z v k) (fun v y => v = y) (lookup_relabel_local hy) (by simp [compEnvC, relabel, hkind]) hDC hDf hCf hst3 hacc hns ?_ ?_ ?_ ?_
    · intro i v s4 m4 _ _ _ _
      exact wpAny_mono (test_nil (Z := fun _ => none) (H := s4.heap) s4 (fun _ => none) .rf .rf (fun _ _ e => by cases e)) (fun r s5 ⟨h', tk, Z', e, ex, hr⟩ => ⟨hr, h', tk, e, ex.hp⟩) fun _ _ q => q.elim
    · intro i v s4 m4 hP _ hn4 hm4 hk4
      obtain ⟨k', hk', ht⟩ := hth.get hP
      obtain ⟨a, t, rfl, hla, hta⟩ := id ht
      have r := ev_itemV (prog := prog) (w := w) (A := A) (H := s4.heap) (Z := fun _ => none) (env := compEnvC scope cl H2.objs.size env) (value := .Name "one" p1) (idx := .Constant (.int 0) c0 p2) (pos := p3) (a := a) (k := 0) (j := 0) (x := .int k' t)
        (ev_name (Nm.loc hn4 hm4 (by simp [compEnvC, relabel, hkind]) (lookup_relabel_local hy)) fun _ _ => rfl) (ev_int.conseq fun _ _ _ p => p.int_inv) (hla.mono (kz3 _ hk4)) (by decide) (seqIndex_zero (by simp)) rfl
      exact wpAny_mono (r s4 (fun _ => none) .rf .rf (fun _ _ e => by cases e)) (fun r s5 ⟨h', tk, Z', e, ex, hr⟩ => ⟨⟨k', by rw [hr]; exact hta, ht⟩, h', tk, e, ex.hp⟩) fun _ _ q => q.elim
    · intro i v s4 m4 hP _ hn4 hm4 hk4
      refine Nm.loc hn4 hm4 (by simp [compEnvC, relabel, hkind]) (lookup_relabel_local hy) (by decide) _ _ _ _ s4 p4 .rf ⟨rfl, s4.heap, s4.toks, rfl, fun _ _ e => e⟩
    · intro h' tk m' kvs us hn' hD' hlen hP hF hk
      replace hn' : h'.Ns H2.objs.size m' := hn'
      have hus : us = vs := by
        refine List.ext_getElem? fun j => ?_
        rcases Nat.lt_or_ge j us.length with q | q
        · have e : us[j]? = some us[j] := List.getElem?_eq_getElem q
          rw [e]; exact (hP j _ e).symm
        · rw [List.getElem?_eq_none q, List.getElem?_eq_none (by omega)]
      subst hus
      have hkvs : kvs = ks.zip us := by
        have := stored_zip hth hnd hF (by rw [List.filter_eq_self.mpr fun _ _ => rfl]; exact List.prefix_refl _)
        rw [List.filter_eq_self.mpr (fun _ _ => rfl), List.take_of_length_le (by simp; omega)] at this
        exact this
      subst hkvs
      obtain ⟨od, hod, hisd⟩ := Heap.dictOf_iff.mp hD'
      have kS := upS h' hk
      have hD0 : s.heap.get? h2.objs.size = none := none_of_new (s := { s with heap := h2 }) k4 (Nat.le_refl _)
      have hC0 : s.heap.get? H2.objs.size = none := none_of_new (s := { s with heap := h2 }) k4 (by rw [hC]; exact Nat.le_succ _)
      have liveC : ∃ o, h'.get? H2.objs.size = some o := let ⟨o, _, _, e, _⟩ := hn'; ⟨o, e⟩
      have off := X.offNew (wr := [h2.objs.size, H2.objs.size]) fun b hb => by
        rcases List.mem_cons.mp hb with rfl | hb
        · exact hD0
        · rw [List.mem_singleton.mp hb]; exact hC0
      have X1 : Mine.St S₀ env s₀ Z₀ Z { s with heap := h', toks := tk } ρ (M ++ [h2.objs.size, H2.objs.size].map fun b => (b, fun o => h'.get? b = some o)) :=
        X.walk (h₁ := h') (tk₁ := tk) off (fun b o _ e => kS b o e) (fun b hb => by
          rcases List.mem_cons.mp hb with rfl | hb
          · exact ⟨_, hod⟩
          · rw [List.mem_singleton.mp hb]; exact liveC) (by simpa using hDC)
      show wpAny _ A (assign (.Name x pos') env (.ref h2.objs.size)) _ E _
      refine wpAny_assign_Name (hx _ _ _ _ _ _ _ _ (.ref h2.objs.size) X1 fun s5 X5 => ?_)
      have hCin : (H2.objs.size, fun o => h'.get? H2.objs.size = some o) ∈ M ++ [h2.objs.size, H2.objs.size].map fun b => (b, fun o => h'.get? b = some o) := List.mem_append_right _ (by simp)
      obtain ⟨⟨oC, e1, e2⟩, r1, r2, r3, r4⟩ := X5.news _ hCin
      have e2 : h'.get? H2.objs.size = some oC := e2
      have hns5 : s5.heap.Ns H2.objs.size m' := hn'.at' fun o' e' => by rw [e2] at e'; cases e'; exact e1
      refine ⟨m', hns5, fun h6 hs6 => wpAny_pure (wpAny_pure ?_)⟩
      have hnd5 := X5.nodup
      simp only [List.map_append, List.map_cons, List.map_nil] at hnd5
      have hMn : ∀ p ∈ M ++ [(h2.objs.size, fun o => h'.get? h2.objs.size = some o)], p.1 ≠ H2.objs.size := fun p hp q => by
        rcases List.mem_append.mp hp with hp | hp
        · exact (List.nodup_append.mp hnd5).2.2 p.1 (List.mem_map_of_mem hp) H2.objs.size (by simp) q
        · rw [List.mem_singleton.mp hp] at q; exact hDC q
      have X6 : Mine.St S₀ env s₀ Z₀ Z { s5 with heap := h6, toks := s5.toks } (upd ρ x (.ref h2.objs.size)) (M ++ [(h2.objs.size, fun o => h'.get? h2.objs.size = some o)]) := by
        refine X5.change hs6 r1 r2 ?_ (fun n c hmem => ?_) (fun p hp => ?_) ?_
        · obtain ⟨m', hn', hm'⟩ := X5.ns
          exact ⟨m', hn'.sameBut hs6 (Ne.symm r3), hm'⟩
        · exact (X5.cell n c hmem).sameBut hs6 (Ne.symm (r4 n c hmem))
        · have hp' : p ∈ M ++ [h2.objs.size, H2.objs.size].map fun b => (b, fun o => h'.get? b = some o) := by
            rcases List.mem_append.mp hp with hp | hp
            · exact List.mem_append_left _ hp
            · rw [List.mem_singleton.mp hp]; exact List.mem_append_right _ (by simp)
          obtain ⟨⟨o', e', po⟩, r⟩ := X5.news p hp'
          exact ⟨⟨o', hs6.extBut _ _ (hMn p hp) e', po⟩, r⟩
        · rw [List.map_append]
          exact List.Nodup.sublist (List.Sublist.append (List.Sublist.refl _) (by simp)) hnd5
      refine k h2.objs.size _ (X6.remap (fun p hp => ?_) ?_) hDs
      · rcases List.mem_cons.mp hp with rfl | hp
        · refine ⟨(h2.objs.size, fun o => h'.get? h2.objs.size = some o), by simp, rfl, fun o _ ho => ?_⟩
          have ho : h'.get? h2.objs.size = some o := ho
          rw [hod] at ho; cases ho; exact hisd
        · exact ⟨p, by simp [hp], rfl, fun o _ h => h⟩
      · have hnd6 := X6.nodup
        simp only [List.map_append, List.map_cons, List.map_nil] at hnd6
        rw [List.map_cons, List.nodup_cons]
        refine ⟨fun hm => (List.nodup_append.mp hnd6).2.2 _ hm h2.objs.size (by simp) rfl, (List.nodup_append.mp hnd6).1⟩
  exact codeAny_compStart_dict (loop _ rfl) (W.self 0 _ _ _ hst3 (loop _ rfl))
end
end Mine
end

section
open PySem PySem.W PyProof.Rows PySem.Calls
namespace Mine

/-- each once, the newest first -/
def dd : List Int → List Int
  | [] => []
  | x :: q => x :: (dd q).filter (fun y => y != x)
theorem dd_mem {q : List Int} {y : Int} : y ∈ dd q ↔ y ∈ q := by
  induction q with
  | nil => simp [dd]
  | cons x q ih =>
    simp only [dd, List.mem_cons, List.mem_filter, ih, bne_iff_ne]
    by_cases h : y = x <;> simp [h]
theorem dd_nodup (q : List Int) : (dd q).Nodup := by
  induction q with
  | nil => simp [dd]
  | cons x q ih =>
    rw [dd, List.nodup_cons]
    exact ⟨fun h => by simp at h, ih.filter _⟩
theorem dd_length (q : List Int) : (dd q).length ≤ q.length := by
  induction q with
  | nil => simp [dd]
  | cons x q ih =>
    simp only [dd, List.length_cons]
    have := List.length_filter_le (fun y => y != x) (dd q)
    omega

def prf (xs : List Int) (k : Nat) : List Int := (xs.take k).reverse
theorem prf_zero {xs : List Int} : prf xs 0 = [] := by simp [prf]
theorem prf_succ {xs : List Int} {k : Nat} (h : k < xs.length) : prf xs (k + 1) = xs.getD k 0 :: prf xs k := by
  unfold prf
  rw [List.take_add_one, List.getElem?_eq_getElem h]
  simp [h]
theorem prf_length {xs : List Int} {k : Nat} (h : k ≤ xs.length) : (prf xs k).length = k := by simp [prf, h]
def ix (q : List Int) (x : Int) : Option Nat := fst (fun j => q.getD j 0 == x) q.length
def cn (q : List Int) (x : Int) : Int := cnt (fun j => q.getD j 0 == x) q.length
def dq (xs : List Int) (k : Nat) : List Int := (dd (prf xs k)).filter fun y => y != xs.getD k 0
theorem dd_prf_succ {xs : List Int} {k : Nat} (h : k < xs.length) : dd (prf xs (k + 1)) = xs.getD k 0 :: dq xs k := by rw [prf_succ h, dd, dq]
def ansRow (xs : List Int) (k : Nat) : List PyData :=
  let q := prf xs k
  let x := xs.getD k 0
  [plc (ix q x), plc (ix (dd q) x), plc (ix (dd q) x), .int (cn q x), .int (cn (dd q) x), .int (cn (dd q) x), .bool (q.contains x), .bool ((dd q).contains x), .bool ((dd q).contains x)]
def givRow (xs : List Int) (k : Nat) : PyData := .list [.list [thg (xs.getD k 0)], .list ((dq xs k).map thg)]
def tt : PyData := .list [.bool true, .bool true]
def askD (xs : List Int) (m : Nat) : PyData :=
  .list [.list ((List.range xs.length).map fun k => PyData.list (ansRow xs k)), .tuple (xs.reverse.map thg), .list (List.replicate m tt), .list ((List.range xs.length).map fun k => PyData.list (nums (dq xs k))),
    .list ((List.range xs.length).map (givRow xs) ++ [.list ((dd xs.reverse).map thg)])]

theorem ix_some {q : List Int} {x : Int} {k : Nat} (h : ix q x = some k) : k < q.length ∧ q[k]? = some x := by
  unfold ix fst at h
  rw [List.find?_range_eq_some] at h
  obtain ⟨h1, h2, h3⟩ := h
  have h2 : k < q.length := by simpa using h2
  refine ⟨h2, ?_⟩
  rw [List.getElem?_eq_getElem h2]
  simp [h2] at h1
  rw [h1]
theorem ix_none {q : List Int} {x : Int} (h : ix q x = none) : x ∉ q := by
  intro hm
  unfold ix fst at h
  rw [List.find?_eq_none] at h
  obtain ⟨i, hi, e⟩ := List.mem_iff_getElem.mp hm
  refine h i (List.mem_range.mpr hi) ?_
  simp [hi, e]
theorem ix_erase {q : List Int} {x : Int} {k : Nat} (hn : q.Nodup) (h : q[k]? = some x) : q.eraseIdx k = q.filter fun y => y != x := by
  induction q generalizing k with
  | nil => simp at h
  | cons a q ih =>
    rw [List.nodup_cons] at hn
    cases k with
    | zero =>
      simp at h
      subst h
      rw [List.eraseIdx_cons_zero, List.filter_cons_of_neg (by simp)]
      exact (List.filter_eq_self.mpr fun y hy => by simp; intro e; exact hn.1 (e ▸ hy)).symm
    | succ k =>
      have h' : q[k]? = some x := by simpa using h
      have hax : a ≠ x := fun e => hn.1 (e ▸ List.mem_of_getElem? h')
      rw [List.eraseIdx_cons_succ, List.filter_cons_of_pos (by simpa using hax), ih hn.2 h']
theorem filter_none {q : List Int} {x : Int} (h : x ∉ q) : (q.filter fun y => y != x) = q := List.filter_eq_self.mpr fun y hy => by simp; intro e; exact h (e ▸ hy)

theorem zip_valueAt {α : Type} {ks : List Int} {vs : List α} {k : Nat} {x : Int} {v : α} (hn : ks.Nodup) (h1 : ks[k]? = some x) (h2 : vs[k]? = some v) : ((ks.zip vs).find? fun kv => kv.1 = x).map (·.2) = some v := by
  induction ks generalizing vs k with
  | nil => simp at h1
  | cons a ks ih =>
    cases vs with
    | nil => simp at h2
    | cons b vs =>
      rw [List.nodup_cons] at hn
      cases k with
      | zero => simp at h1 h2; subst h1 h2; simp
      | succ k =>
        have h1' : ks[k]? = some x := by simpa using h1
        have hax : a ≠ x := fun e => hn.1 (e ▸ List.mem_of_getElem? h1')
        rw [List.zip_cons_cons, List.find?_cons_of_neg (by simpa using hax)]
        exact ih hn.2 h1' (by simpa using h2)
theorem zip_isSome {ks : List Int} {vs : List Value} (hl : vs.length = ks.length) (x : Int) : (valueAt (ks.zip vs) x).isSome = ks.contains x := by
  induction ks generalizing vs with
  | nil => simp [valueAt]
  | cons a ks ih =>
    cases vs with
    | nil => simp at hl
    | cons b vs =>
      have := ih (vs := vs) (by simpa using hl)
      unfold valueAt at this ⊢
      rw [List.zip_cons_cons, List.contains_cons]
      by_cases e : a = x
      · rw [List.find?_cons_of_pos (by simpa using e)]; simp [e]
      · rw [List.find?_cons_of_neg (by simpa using e), this]
        have : (x == a) = false := by simpa using fun q => e q.symm
        rw [this, Bool.false_or]
theorem zip_keys {ks : List Int} {vs : List Value} (hl : vs.length = ks.length) : (ks.zip vs).map (·.1) = ks := by
  rw [List.map_fst_zip]; omega
theorem without_keys {kvs : List (Int × Value)} {x : Int} : (without kvs x).map (·.1) = (kvs.map (·.1)).filter fun y => y != x := by
  unfold without
  rw [List.filter_map]
  congr 1
  apply List.filter_congr
  intro p _
  simp [bne, Function.comp_apply]
  rfl
end Mine
end

section
open PySem PySem.W PyProof.Rows PySem.Calls
namespace Mine

structure AJ (κ : Tok → Int) (xs : List Int) (k : Nat) (Z : Gh) (ρ : Str → Option Value) (ga ka sa aa nw ev : Addr) (gvs kvs svs avs nvs evs : List Value) : Prop where
  gN : ρ "given" = some (.ref ga)
  kN : ρ "keys" = some (.ref ka)
  sN : ρ "same" = some (.ref sa)
  aN : ρ "answers" = some (.ref aa)
  nN : ρ "newest" = some (.ref nw)
  eN : ρ "everything" = some (.ref ev)
  gR : RdAll Z gvs ((List.range k).map (givRow xs))
  kR : RdAll Z kvs ((List.range k).map fun k => PyData.list (nums (dq xs k)))
  sR : ∃ m, m ≤ k ∧ RdAll Z svs (List.replicate m tt)
  aR : RdAll Z avs ((List.range k).map fun k => PyData.list (ansRow xs k))
  nT : Thgs κ Z nvs (dd (prf xs k))
  eL : IsT Z ev evs
  eT : Thgs κ Z evs (prf xs k)
section
variable {κ : Tok → Int} {xs : List Int} {k : Nat} {Z Z' : Gh} {ρ : Str → Option Value} {ga ka sa aa nw ev : Addr} {gvs kvs svs avs nvs evs : List Value}
theorem AJ.mono (J : AJ κ xs k Z ρ ga ka sa aa nw ev gvs kvs svs avs nvs evs) (kz : Kp Z Z') : AJ κ xs k Z' ρ ga ka sa aa nw ev gvs kvs svs avs nvs evs :=
  { J with gR := J.gR.mono kz, kR := J.kR.mono kz, sR := let ⟨m, h, r⟩ := J.sR; ⟨m, h, r.mono kz⟩, aR := J.aR.mono kz, nT := J.nT.mono kz, eL := J.eL.mono kz, eT := J.eT.mono kz }
theorem AJ.upd {x : Str} {v : Value} (J : AJ κ xs k Z ρ ga ka sa aa nw ev gvs kvs svs avs nvs evs) (hx : ∀ y ∈ (["given", "keys", "same", "answers", "newest", "everything"] : List Str), y ≠ x := by decide) : AJ κ xs k Z (upd ρ x v) ga ka sa aa nw ev gvs kvs svs avs nvs evs :=
  { J with gN := by rw [upd_ne (hx _ (by decide))]; exact J.gN
           kN := by rw [upd_ne (hx _ (by decide))]; exact J.kN
           sN := by rw [upd_ne (hx _ (by decide))]; exact J.sN
           aN := by rw [upd_ne (hx _ (by decide))]; exact J.aN
           nN := by rw [upd_ne (hx _ (by decide))]; exact J.nN
           eN := by rw [upd_ne (hx _ (by decide))]; exact J.eN }
end

section
variable {prog : Program} {w : World} {A : Around} {H : Heap} {Z : Gh} {env : Env} {mg mb : Str → Option Value}
theorem ev_lenV {p pos : Pos} {e : Expr} {a : Addr} {vs : List Value} (n : Nm env H "len" (.builtin "len")) (h : Run prog w A (eval e env) H Z (fun _ v => v = .ref a)) (hl : IsL H.get? a vs) (hfit : (vs.length : Int) < 2 ^ 63)
    (he : starEach [e] env = (false, eval e env) :: starEach [] env := by rfl) (hev : eval (.Call (.Name "len" p) [e] [] pos) env = (do callWith pos (← eval (.Name "len" p) env) [] (backTo pos (starEach [e] env)) (backToKw pos (keywordEach [] env))) := by rfl) :
    Run prog w A (eval (.Call (.Name "len" p) [e] [] pos) env) H Z (Is (.int vs.length)) :=
  ev_callB n (items_consV (P := fun _ v => v = .ref a) (fun _ _ _ _ e => e) h items_nilV he) (fun H' Z' us kh _ kz p => by
    obtain ⟨v, us, rfl, rfl, rfl⟩ := p
    exact Run.toks fun s _ _ k q => len_list ((hl.mono kh).mono k).isList (by simpa using hfit) (by
      have := q (.int vs.length (s.toks + 1)) (s.toks + 1 + 1) fun _ _ => .int ..
      simpa using this)) he rfl hev
theorem St.freezeL {S₀ : List Addr} {s₀ s : Shared} {Z₀ : Gh} {ρ : Str → Option Value} {M : List (Addr × (Obj → Prop))} {a : Addr} {vs : List Value} {n : Nat} (X : St S₀ env s₀ Z₀ Z s ρ ((a, isLst vs n) :: M)) : ∃ Z', St S₀ env s₀ Z₀ Z' s ρ M ∧ Kp Z Z' ∧ IsL Z' a vs :=
  ⟨_, St.freeze (M1 := []) X (St.lstAt (M1 := []) X), kp_put (X.news (a, isLst vs n) (by simp)).2.2.1, ⟨_, put_at, rfl, n, rfl⟩⟩
theorem cn_eq {q : List Int} {n : Nat} (h : n = q.length) (x : Int) : cnt (fun j => q.getD j 0 == x) n = cn q x := by rw [h]; rfl
theorem thg_any {q : List Int} {x : Int} : ((q.map thg).any fun y => PyData.eqv y (thg x)) = q.contains x := by
  induction q with
  | nil => rfl
  | cons a q ih =>
    simp only [List.map_cons, List.any_cons, List.contains_cons, ih]
    rw [show PyData.eqv (thg a) (thg x) = (a == x) by simp [PyData.eqv, PyData.eqvAll], BEq.comm]
theorem sh_thg (x : Int) (n : Nat) : Sh (n + 1) (thg x) := sh_list fun d hd => by rw [List.mem_singleton.mp hd]; exact sh_int x n
theorem sh_thgs (q : List Int) : PyData.canLayAll0 (q.map thg) = true := (sh_all (n := 1) fun d hd => by obtain ⟨y, _, rfl⟩ := List.mem_map.mp hd; exact sh_thg y 0).1
theorem nodup_shuffle {α : Type} {n d a b c e : α} {F : List α} (h : (n :: d :: a :: b :: c :: e :: F).Nodup) : (a :: b :: c :: e :: n :: F).Nodup :=
  (List.perm_middle (a := n) (l₁ := [a, b, c, e]) (l₂ := F)).nodup_iff.mpr (h.sublist (List.Sublist.cons_cons n (List.sublist_cons_self d _)))
theorem same_thg {κ : Tok → Int} {u b : Value} {i j : Int} (hu : Thg κ H.get? u i) (hb : Thg κ H.get? b j) (hun : A.units + 64 < cLine) : Same prog w A u b H ((i == j)) := same_list hu.rd hb.rd hun
theorem same_key {κ : Tok → Int} {u b : Value} {i j : Int} (hu : isTk κ i u = true) (hb : isTk κ j b = true) (hs : smallInt i = true) (hun : A.units + 64 < cLine) : Same prog w A u b H ((i == j)) := by
  obtain ⟨t, rfl, t0, tk⟩ := isTk_shape hu
  obtain ⟨t', rfl, t0', tk'⟩ := isTk_shape hb
  exact same_int t0 t0' (fun e => by rw [← tk, ← tk', e]) hs hun
end

section
variable {prog : Program} {w : World} {A : Around} {s : Shared} {Z : Gh} {mg mb : Str → Option Value}

theorem place_call {S₀ : List Addr} {env : Env} {s₀ : Shared} {Z₀ : Gh} {ρ : Str → Option Value} {M : List (Addr × (Obj → Prop))} {x y : Str} {p p1 p2 pos : Pos} {f : Addr} {a b : Value} {n : Nat} {P : Nat → Value → Prop} {outer : List Env} {Q : Value → Shared → Prop} {E : Value → Shared → Prop} (q : Nat → Bool)
    (X : St S₀ env s₀ Z₀ Z s ρ M) (G : Gd mg mb s.heap) (nf : Nm env s.heap "_law_place" (.ref f)) (hf : Fn 8 f s.heap) (na : Nm env s.heap x a) (nb : Nm env s.heap y b) (hroom : A.depth + 1 < recursionLimit) (hh : A.handled = none) (hA : A.frames = some outer) (hfr : FrLive s.heap outer) (hS : ∀ b ∈ frs outer, b = env.locals ∨ b ∈ S₀)
    (hE : ∀ env env', EnS prog w ((A.deeper env).deeper env') (fun b => ∃ o, s.heap.get? b = some o) a s.heap n P) (hq : ∀ env env' k u, P k u → Same prog w ((A.deeper env).deeper env') u b s.heap (q k))
    (k : ∀ v s', St S₀ env s₀ Z₀ Z s' ρ M → Rd (fun _ => none) v (plc (fst q n)) → Q v s')
    (he : starEach [.Name x p1, .Name y p2] env = (false, eval (.Name x p1) env) :: starEach [.Name y p2] env := by rfl) (he2 : starEach [.Name y p2] env = (false, eval (.Name y p2) env) :: starEach [] env := by rfl)
    (hev : eval (.Call (.Name "_law_place" p) [.Name x p1, .Name y p2] [] pos) env = (do callWith pos (← eval (.Name "_law_place" p) env) [] (backTo pos (starEach [.Name x p1, .Name y p2] env)) (backToKw pos (keywordEach [] env))) := by rfl) :
    wpAny (model prog w) A (eval (.Call (.Name "_law_place" p) [.Name x p1, .Name y p2] [] pos) env) Q E s := by
  refine Call_ (nf _ _ _ _ _ _ .rf ?_) hev
  obtain ⟨o, pm, cd, doc, ho, hd, hcr⟩ := id hf
  refine callWith_def hd (wpAny_items_cons (na _ _ _ _ _ _ .rf (wpAny_items_cons (nb _ _ _ _ _ _ .rf (wpAny_items_nil ⟨ho, ?_⟩)) he2)) he) he
  refine place_run q G hf hroom hh hA hfr hE hq fun v h' tk kf rd => k v _ (X.extF (tk := tk) (.keeps X.keepZ kf fun b hb => ?_) hS) rd
  rcases hS b hb with rfl | hb
  · exact X.offL.2
  · exact (X.offS b hb).1

theorem delD_st {κ : Tok → Int} {S₀ : List Addr} {env : Env} {s₀ : Shared} {Z₀ : Gh} {ρ : Str → Option Value} {M : List (Addr × (Obj → Prop))} {x y : Str} {p p1 p2 cpos pos : Pos} {D f : Addr} {ps : List (Int × Value)} {i : Int} {t : Tok} {Q : Flow → Shared → Prop} {E : Value → Shared → Prop} (X : St S₀ env s₀ Z₀ Z s ρ ((D, isDct prog w κ ps) :: M)) (G : Gd mg mb s.heap) (nf : Nm env s.heap "delitem" (.ref f)) (hf : Fn 4 f s.heap)
    (hx : Nm env s.heap x (.ref D)) (hy : Nm env s.heap y (.int i t)) (hi : isTk κ i (.int i t) = true) (hroom : A.depth < recursionLimit) (hv : (valueAt ps i).isSome = true) (hsz : ps.length ≤ sizeLine)
    (kk : ∀ s', St S₀ env s₀ Z₀ Z s' ρ ((D, isDct prog w κ (without ps i)) :: M) → Q .next s')
    (he1 : starEach [.Name x p1, .Name y p2] env = (false, eval (.Name x p1) env) :: starEach [.Name y p2] env := by rfl) (he2 : starEach [.Name y p2] env = (false, eval (.Name y p2) env) :: starEach [] env := by rfl)
    (hev : eval (.Call (.Name "delitem" p) [.Name x p1, .Name y p2] [] cpos) env = (do callWith cpos (← eval (.Name "delitem" p) env) [] (backTo cpos (starEach [.Name x p1, .Name y p2] env)) (backToKw cpos (keywordEach [] env))) := by rfl)
    (hin : interactive env = false := by rfl) (hs : swapsWith (.Call (.Name "delitem" p) [.Name x p1, .Name y p2] [] cpos) none pos.line env = pure false := by rfl) :
    wpAny (model prog w) A (exec (.Expr (.Call (.Name "delitem" p) [.Name x p1, .Name y p2] [] cpos) pos) env) Q E s := by
  refine wpAny_Expr_any (Call_ (nf _ _ _ _ _ _ .rf ?_) hev) hin hs
  obtain ⟨o, pm, cd, doc, ho, hd, hcr⟩ := id hf
  refine callWith_def hd (wpAny_items_cons (hx _ _ _ _ _ _ .rf (wpAny_items_cons (hy _ _ _ _ _ _ .rf (wpAny_items_nil ⟨ho, ?_⟩)) he2)) he1) he1
  obtain ⟨⟨od, eo, po⟩, _⟩ := X.news (D, isDct prog w κ ps) (by simp)
  refine delitem_dict G hf hroom (Heap.dictOf_iff.mpr ⟨od, eo, po⟩) hi hv hsz fun h' tk hs' hd' => kk _ (St.set (M1 := []) (tk := tk) X hs' (Heap.dictOf_iff.mp hd'))

set_option maxHeartbeats 4000000 in
theorem asked_run {κ : Tok → Int} {Q : Value → Shared → Prop} {E : Value → Shared → Prop} {f la : Addr} {lvs : List Value} {xs : List Int} {outer : List Env} (G : Gd mg mb s.heap) (hf : Fn 9 f s.heap) (hroom : A.depth + 3 < recursionLimit) (hh : A.handled = none) (hu : A.units < 1000)
    (hA : A.frames = some outer) (hfr : FrLive s.heap outer) (kz : Kp Z s.heap.get?) (hS : ∀ b ∈ frs outer, Z b = none) (hl : IsL Z la lvs) (hll : lvs.length = xs.length) (hlt : ∀ i u, lvs[i]? = some u → isTk κ (xs.getD i 0) u = true)
    (h5 : ∀ i, i < xs.length → 0 ≤ xs.getD i 0 ∧ xs.getD i 0 < 5) (hxs : xs.length ≤ 20)
    (h : ∀ v h' tk Z' m, ExtF (frs outer) s.heap Z h' Z' → m ≤ xs.length → Rd Z' v (askD xs m) → Q v { s with heap := h', toks := tk }) : wpAny (model prog w) A (call (.ref f) [.ref la]) Q E s := by
  refine wpAny_call (enter (S₀ := frs outer) (Z := Z) (binds := [("letters", .ref la)]) hf G.nolimit (by omega) kz (fun b hb => ⟨hS b hb, let ⟨o, e, _⟩ := hfr.mem hb; ⟨o, e⟩⟩) (fun L cd s₁ hL S => ?_) (fun _ _ _ => rfl) (kindsX rfl))
  have hsL : 1000 ≤ sizeLine := by decide
  have hunits : (A.deeper (fenv 9 L f cd)).units + 64 < cLine := by
    rw [Around.deeper_units]; unfold cLine; omega
  have hunits2 : ∀ e, ((A.deeper (fenv 9 L f cd)).deeper e).units + 64 < cLine := fun e => by
    rw [Around.deeper_units, Around.deeper_units]; unfold cLine; omega
  have hunits3 : ∀ e e', (((A.deeper (fenv 9 L f cd)).deeper e).deeper e').units + 64 < cLine := fun e e' => by
    rw [Around.deeper_units, Around.deeper_units, Around.deeper_units]; unfold cLine; omega
  have hr1 : (A.deeper (fenv 9 L f cd)).depth + 1 < recursionLimit := show A.depth + 1 + 1 < recursionLimit by omega
  refine wpAny_execs_cons (assign_x (P := NwT s₁.heap (fun _ vs => vs = [])) S stoL (ev_Tuple (fun _ _ _ _ e => e) items_nilV fun _ _ e => by rw [e]; exact Nat.zero_le _) fun ev s2 Z2 S2 kz2 r2 => ?_)
  obtain ⟨e, evs, en, rfl, _, he2, rfl⟩ := r2
  have emptyL : ∀ {p : Pos} {H : Heap} {Z : Gh}, Run prog w (A.deeper (fenv 9 L f cd)) (eval (.List [] p) (fenv 9 L f cd)) H Z (NwL H (Alls [])) := fun {_ _ _} => ev_List (mono_alls []) items_nil fun _ _ p => by rw [p.length]; exact Nat.zero_le _
  refine wpAny_execs_cons (assign_x S2 stoC emptyL fun v3 s3 Z3 S3 kz3 r3 => ?_)
  obtain ⟨nw, nvs, nn, rfl, S3, kz3, rn⟩ := S2.thawL S3 kz3 r3
  refine wpAny_execs_cons (assign_x S3 stoL emptyL fun v4 s4 Z4 S4 kz4 r4 => ?_)
  obtain ⟨aa, avs, an, rfl, S4, kz4, ra⟩ := S3.thawL S4 kz4 r4
  refine wpAny_execs_cons (assign_x S4 stoL emptyL fun v5 s5 Z5 S5 kz5 r5 => ?_)
  obtain ⟨sa, svs, sn, rfl, S5, kz5, rs⟩ := S4.thawL S5 kz5 r5
  refine wpAny_execs_cons (assign_x S5 stoL emptyL fun v6 s6 Z6 S6 kz6 r6 => ?_)
  obtain ⟨ka, kvs, kn, rfl, S6, kz6, rk⟩ := S5.thawL S6 kz6 r6
  refine wpAny_execs_cons (assign_x S6 stoL emptyL fun v7 s7 Z7 S7 kz7 r7 => ?_)
  obtain ⟨ga, gvs, gn, rfl, S7, kz7, rg⟩ := S6.thawL S7 kz7 r7
  have hl0 : IsL s.heap.get? la lvs := hl.mono kz
  have hlaS : la ∉ frs outer := fun hm => by
    obtain ⟨o, e, _⟩ := hl
    rw [hS la hm] at e; cases e
  have J0 : AJ κ xs 0 (del Z7 ga) (upd (upd (upd (upd (upd (upd (bind0 [("letters", .ref la)]) "everything" (.ref e)) "newest" (.ref nw)) "answers" (.ref aa)) "same" (.ref sa)) "keys" (.ref ka)) "given" (.ref ga)) ga ka sa aa nw e gvs kvs svs avs nvs [] := by
    have z3 : ∀ {vs : List Value} {Y : Gh}, Alls [] Y vs → vs = [] := fun {vs Y} r => by cases r; rfl
    rw [z3 rg, z3 rk, z3 rs, z3 ra, z3 rn]
    refine ⟨rfl, rfl, rfl, rfl, rfl, rfl, .nil, .nil, ⟨0, Nat.le_refl _, .nil⟩, .nil, by rw [prf_zero]; exact .nil, ?_, by rw [prf_zero]; exact .nil⟩
    exact ⟨_, kz7 _ _ (kz6 _ _ (kz5 _ _ (kz4 _ _ (kz3 _ _ he2)))), rfl, en, rfl⟩
  refine wpAny_execs_cons (St.for_ S7 stoL (n := lvs.length) (P := fun i u => lvs[i]? = some u) (fun k Z ρ M => ∃ ga ka sa aa nw e gvs kvs svs avs nvs evs gn kn sn an nn, AJ κ xs k Z ρ ga ka sa aa nw e gvs kvs svs avs nvs evs ∧ M = [(ga, isLst gvs gn), (ka, isLst kvs kn), (sa, isLst svs sn), (aa, isLst avs an), (nw, isLst nvs nn)])
    (ev_name (P := fun _ v => v = .ref la) (S7.nmL (x := "letters") rfl) fun _ _ => rfl) (fun x H' Z' k1 k2 k3 ee => ?_) (fun Z' k1 => ⟨ga, ka, sa, aa, nw, e, gvs, kvs, svs, avs, nvs, [], gn, kn, sn, an, nn, J0.mono k1, rfl⟩) (fun k u Z' s' ρ' M' F hk hP k1 hJ S' => ?_) fun Z' s' ρ' M' k1 hJ S' => ?_)
  · subst ee
    have hl1 : IsL H'.get? la lvs := by
      obtain ⟨o, e, c, n, d⟩ := hl0
      exact ⟨o, k1 _ _ ((S7.keepF la o e).1 hlaS), c, n, d⟩
    exact src_list hh hl1 ⟨let ⟨o, e, _⟩ := hl0; ⟨o, e⟩, hlaS⟩
  · obtain ⟨ga, ka, sa, aa, nw, e, gvs, kvs, svs, avs, nvs, evs, gn, kn, sn, an, nn, J, rfl⟩ := hJ
    have hkx : k < xs.length := by omega
    have hfrS : ∀ b ∈ frs (fenv 9 L f cd :: outer), b = (fenv 9 L f cd).locals ∨ b ∈ frs outer := fun b hb => by
      obtain ⟨ev, hev, hfe⟩ := List.mem_filterMap.mp hb
      rcases List.mem_cons.mp hev with rfl | hev
      · exact .inl (Option.some.inj hfe).symm
      · exact .inr (List.mem_filterMap.mpr ⟨ev, hev, hfe⟩)
    have frL : ∀ {Z' : Gh} {s' : Shared} {ρ : Str → Option Value} {M : List (Addr × (Obj → Prop))}, St (frs outer) (fenv 9 L f cd) s Z Z' s' ρ M → FrLive s'.heap (fenv 9 L f cd :: outer) := fun {_ _ _ _} X => by
      obtain ⟨m, hn, _⟩ := X.ns
      exact (hfr.monoF X.keepF).cons rfl hn (by intro q; cases q)
    have hx5 := h5 k hkx
    have htk := hlt k u hP
    generalize hx : xs.getD k 0 = x at hx5 htk
    obtain ⟨t, rfl, ht0, htκ⟩ := isTk_shape htk
    have J1 := J.upd (x := "letter") (v := .int x t)
    -- thing = [letter]
    refine wpAny_execs_cons (assign_x (P := fun Z v => Thg κ Z v x) S' stoL ((ev_List (I := fun _ vs => vs = [.int x t]) (fun _ _ _ _ e => e) ((items_consV (P := fun _ v => v = .int x t) (fun _ _ _ _ e => e) (ev_name (S'.nmL (x := "letter") upd_at) fun _ _ => rfl) items_nilV).conseq fun _ _ _ ⟨_, _, e, e1, e2⟩ => by rw [e, e1, e2]) fun _ vs e => by rw [e]; exact show 1 ≤ sizeLine by decide).conseq fun _ _ _ ⟨a, vs, n, e, _, hz, hv⟩ => ⟨a, t, e, ⟨_, hz, rfl, n, by rw [hv]⟩, htk⟩) fun th s1 Z1 S1 kz1 hth => ?_)
    have J2 := (J1.upd (x := "thing") (v := th)).mono kz1
    have G1 := G.keepsF S1.keepF
    have hnl : nvs.length ≤ 20 := by
      rw [J2.nT.length]
      exact Nat.le_trans (dd_length _) (by rw [prf_length (by omega)]; omega)
    -- shown = { ... }
    refine wpAny_execs_cons (assign_shown (κ := κ) (ks := dd (prf xs k)) hh S1 G1 (S1.nmC J2.nN) (St.lstAt (M1 := [(ga, isLst gvs gn), (ka, isLst kvs kn), (sa, isLst svs sn), (aa, isLst avs an)]) (M2 := F) S1) J2.nT (dd_nodup _) (by omega) stoL rfl fun D s2 S2 hDs => ?_)
    have J3 := J2.upd (x := "shown") (v := .ref D)
    have G2 := G.keepsF S2.keepF
    -- kinds = _law_place(newest, thing)
    obtain ⟨fp, np2, hfp2⟩ := G2.nmF (env := fenv 9 L f cd) 8
    have lstN : ∀ {Z' : Gh} {s' : Shared} {ρ : Str → Option Value} {P : Obj → Prop}, St (frs outer) (fenv 9 L f cd) s Z Z' s' ρ ((D, P) :: ([(ga, isLst gvs gn), (ka, isLst kvs kn), (sa, isLst svs sn), (aa, isLst avs an), (nw, isLst nvs nn)] ++ F)) → s'.heap.get? nw = some (lst nvs nn) :=
      fun {_ _ _ P} X => St.lstAt (M1 := [(D, P), (ga, isLst gvs gn), (ka, isLst kvs kn), (sa, isLst svs sn), (aa, isLst avs an)]) (M2 := F) X
    have nlen : nvs.length = (dd (prf xs k)).length := J2.nT.length
    have elen : evs.length = (prf xs k).length := J2.eT.length
    refine wpAny_execs_cons (wpAny_Assign_Name (place_call (n := nvs.length) (P := fun i v => nvs[i]? = some v) (fun j => (dd (prf xs k)).getD j 0 == x) S2 G2 np2 hfp2 (S2.nmC J3.nN) (S2.nmL (x := "thing") (by rw [upd_ne (by decide), upd_at])) hr1 hh (Around.frames_deeper hA) (frL S2) hfrS
      (fun _ _ => ens_list hh ⟨_, lstN S2, rfl, nn, rfl⟩ ⟨_, lstN S2⟩) (fun e1 e2 i v hv => ?_) fun kv s3 S3 rk3 => S3.storeC fun s4 S4 => ?_))
    · obtain ⟨k', hk', hv'⟩ := J3.nT.get hv
      have := same_thg (prog := prog) (w := w) (A := (((A.deeper (fenv 9 L f cd)).deeper e1).deeper e2)) (hv'.mono S2.keepZ) (hth.mono S2.keepZ) (hunits3 e1 e2)
      rw [show k' = (dd (prf xs k)).getD i 0 by simp [hk']] at this
      exact this
    have hix : fst (fun j => (dd (prf xs k)).getD j 0 == x) nvs.length = ix (dd (prf xs k)) x := by rw [nlen]; rfl
    rw [hix] at rk3
    have J4 := J3.upd (x := "kinds") (v := kv)
    dsimp only
    have G4 := G.keepsF S4.keepF
    obtain ⟨fp4, np4, hfp4⟩ := G4.nmF (env := fenv 9 L f cd) 8
    -- places = [ ... ]
    refine wpAny_execs_cons (wpAny_Assign_Name (wpAny_List (wpAny_items_cons (place_call (n := evs.length) (P := fun i v => evs[i]? = some v) (fun j => (prf xs k).getD j 0 == x) S4 G4 np4 hfp4 (S4.nmL J4.eN) (S4.nmL (x := "thing") (by rw [upd_ne (by decide), upd_ne (by decide), upd_at])) hr1 hh (Around.frames_deeper hA) (frL S4) hfrS
      (fun _ _ => ens_tuple hh (J4.eL.mono S4.keepZ) (let ⟨o, e, _⟩ := J4.eL.mono S4.keepZ; ⟨o, e⟩)) (fun e1 e2 i v hv => ?_) fun pv s5 S5 rk5 => ?_))))
    · obtain ⟨k', hk', hv'⟩ := J4.eT.get hv
      have := same_thg (prog := prog) (w := w) (A := (((A.deeper (fenv 9 L f cd)).deeper e1).deeper e2)) (hv'.mono S4.keepZ) (hth.mono S4.keepZ) (hunits3 e1 e2)
      rw [show k' = (prf xs k).getD i 0 by simp [hk']] at this
      exact this
    have hix5 : fst (fun j => (prf xs k).getD j 0 == x) evs.length = ix (prf xs k) x := by rw [elen]; rfl
    rw [hix5] at rk5
    have G5 := G.keepsF S5.keepF
    obtain ⟨fp5, np5, hfp5⟩ := G5.nmF (env := fenv 9 L f cd) 8
    have dctN : ∀ {Z' : Gh} {s' : Shared} {ρ : Str → Option Value} {M : List (Addr × (Obj → Prop))} {ps : List (Int × Value)}, St (frs outer) (fenv 9 L f cd) s Z Z' s' ρ ((D, isDct prog w κ ps) :: M) → s'.heap.DictOf (tkKind prog w κ) D ps := fun {_ _ _ _ ps} X => by
      obtain ⟨⟨o, e, po⟩, _⟩ := X.news (D, isDct prog w κ ps) (by simp)
      exact Heap.dictOf_iff.mpr ⟨o, e, po⟩
    have hzl : ((dd (prf xs k)).zip nvs).length = (dd (prf xs k)).length := by simp; omega
    have hsmall : ∀ i v, (∃ k' y, ((dd (prf xs k)).zip nvs)[i]? = some (k', y) ∧ isTk κ k' v = true) → isTk κ ((dd (prf xs k)).getD i 0) v = true ∧ smallInt ((dd (prf xs k)).getD i 0) = true := fun i v ⟨k', y, e1, e2⟩ => by
      rw [List.getElem?_zip_eq_some] at e1
      have e3 : (dd (prf xs k)).getD i 0 = k' := by simp [e1.1]
      rw [e3]
      refine ⟨e2, ?_⟩
      have hm : k' ∈ prf xs k := dd_mem.mp (List.mem_of_getElem? e1.1)
      have hm' : k' ∈ xs := List.mem_of_mem_take (List.mem_reverse.mp hm)
      obtain ⟨j, hj, ej⟩ := List.mem_iff_getElem.mp hm'
      have := h5 j hj
      rw [show xs.getD j 0 = k' by simp [hj, ej]] at this
      simp [smallInt]; omega
    have nk5 : Nm (fenv 9 L f cd) s5.heap "kinds" kv := S5.nmC upd_at
    refine wpAny_items_cons (nk5 _ _ _ _ _ _ .rf ?_)
    refine wpAny_items_cons (place_call (n := ((dd (prf xs k)).zip nvs).length) (P := fun i v => ∃ k' y, ((dd (prf xs k)).zip nvs)[i]? = some (k', y) ∧ isTk κ k' v = true) (fun j => (dd (prf xs k)).getD j 0 == x) S5 G5 np5 hfp5 (S5.nmL (x := "shown") (by rw [upd_ne (by decide), upd_at])) (S5.nmL (x := "letter") (by rw [upd_ne (by decide), upd_ne (by decide), upd_ne (by decide), upd_at])) hr1 hh (Around.frames_deeper hA) (frL S5) hfrS
      (fun _ _ => ens_keys hh (dctN S5) hDs (let ⟨o, e, _⟩ := Heap.dictOf_iff.mp (dctN S5); ⟨o, e⟩)) (fun e1 e2 i v hv => same_key (hsmall i v hv).1 htk (hsmall i v hv).2 (hunits3 e1 e2)) fun qv s6 S6 rk6 => ?_)
    have hix6 : fst (fun j => (dd (prf xs k)).getD j 0 == x) ((dd (prf xs k)).zip nvs).length = ix (dd (prf xs k)) x := by rw [hzl]; rfl
    rw [hix6] at rk6
    refine wpAny_items_nil ⟨show 3 ≤ sizeLine by decide, ?_⟩
    have ex7 := Ext.push S6.keepZ (lst [pv, kv, qv] 0) rfl
    refine (S6.ext (tk := s6.toks) ex7).storeL fun s7 S7 => ?_
    have kNone : ∀ {Y : Gh}, Kp (fun _ => none) Y := fun {_} _ _ e => by cases e
    have rp7 : Rd (put Z1 s6.heap.objs.size (lst [pv, kv, qv] 0)) (.ref s6.heap.objs.size) (.list [plc (ix (prf xs k) x), plc (ix (dd (prf xs k)) x), plc (ix (dd (prf xs k)) x)]) := .list ⟨_, put_at, rfl, 0, rfl⟩ (.cons (rk5.mono kNone) (.cons (rk3.mono kNone) (.cons (rk6.mono kNone) .nil)))
    have J7 := (J4.mono ex7.zz).upd (x := "places") (v := .ref s6.heap.objs.size)
    have hth7 := hth.mono ex7.zz
    generalize put Z1 s6.heap.objs.size (lst [pv, kv, qv] 0) = Z7 at ex7 S7 rp7 J7 hth7
    generalize Value.ref s6.heap.objs.size = plv at S7 rp7 J7
    dsimp only
    -- often = [ ... ]
    have G7 := G.keepsF S7.keepF
    obtain ⟨fc7, nc7, hfc7⟩ := G7.nmF (env := fenv 9 L f cd) 3
    have nth7 : Nm (fenv 9 L f cd) s7.heap "thing" th := S7.nmL (by rw [upd_ne (by decide), upd_ne (by decide), upd_ne (by decide), upd_at])
    have nlt7 : Nm (fenv 9 L f cd) s7.heap "letter" (.int x t) := S7.nmL (by rw [upd_ne (by decide), upd_ne (by decide), upd_ne (by decide), upd_ne (by decide), upd_at])
    have nsh7 : Nm (fenv 9 L f cd) s7.heap "shown" (.ref D) := S7.nmL (by rw [upd_ne (by decide), upd_ne (by decide), upd_at])
    have nne7 : Nm (fenv 9 L f cd) s7.heap "newest" (.ref nw) := S7.nmC J7.nN
    have nev7 : Nm (fenv 9 L f cd) s7.heap "everything" (.ref e) := S7.nmL J7.eN
    have cnt2 : ∀ {y z : Str} {p1 p2 p3 pos : Pos} {a b : Value} {n : Nat} {P : Nat → Value → Prop} {q : Nat → Bool}, Nm (fenv 9 L f cd) s7.heap y a → Nm (fenv 9 L f cd) s7.heap z b → (∀ env, SrcB prog w ((A.deeper (fenv 9 L f cd)).deeper env) (fun b => ∃ o, s7.heap.get? b = some o) a s7.heap n P) →
        (∀ env k u, P k u → Same prog w ((A.deeper (fenv 9 L f cd)).deeper env) u b s7.heap (q k)) → Run prog w (A.deeper (fenv 9 L f cd)) (eval (.Call (.Name "countOf" p1) [.Name y p2, .Name z p3] [] pos) (fenv 9 L f cd)) s7.heap Z7 (Is (.int (cnt q n))) :=
      fun {y z p1 p2 p3 pos a b n P q} ny nz hS hq => ev_callF (k := 3) nc7 hfc7 (items_consV (P := fun _ v => v = a) (fun _ _ _ _ e => e) (ev_name ny fun _ _ => rfl) (items_consV (P := fun _ v => v = b) (fun _ _ _ _ e => e) (ev_name nz fun _ _ => rfl) items_nilV)) (by
        rintro H' Z'' us q1 q2 q3 ⟨_, _, rfl, rfl, _, _, rfl, rfl, rfl⟩
        refine countOf_run q (G7.keeps q1) (hfc7.mono q1) (Nat.lt_of_succ_lt hr1) (fun env => ?_) fun env k u hu => (hq env k u hu).mono q1
        intro s Q E k q2
        exact (hS env).mono q1 s Q E k fun I fp wr St h' tk W st0 k4 hwr live hfp hnd => q2 I fp wr St h' tk W st0 k4 hwr live (fun b hb => (hfp b hb).imp id fun ⟨o, e⟩ => ⟨o, q1 _ _ e⟩) hnd)
    have lN7 : IsL s7.heap.get? nw nvs := ⟨_, lstN S7, rfl, nn, rfl⟩
    have dN7 := dctN S7
    have sTN : ∀ env i u, nvs[i]? = some u → Same prog w ((A.deeper (fenv 9 L f cd)).deeper env) u th s7.heap ((dd (prf xs k)).getD i 0 == x) := fun env i u hv => by
      obtain ⟨k', hk', hv'⟩ := J7.nT.get hv
      have := same_thg (prog := prog) (w := w) (A := ((A.deeper (fenv 9 L f cd)).deeper env)) (hv'.mono S7.keepZ) (hth7.mono S7.keepZ) (hunits2 env)
      rw [show k' = (dd (prf xs k)).getD i 0 by simp [hk']] at this
      exact this
    have sTE : ∀ env i u, evs[i]? = some u → Same prog w ((A.deeper (fenv 9 L f cd)).deeper env) u th s7.heap ((prf xs k).getD i 0 == x) := fun env i u hv => by
      obtain ⟨k', hk', hv'⟩ := J7.eT.get hv
      have := same_thg (prog := prog) (w := w) (A := ((A.deeper (fenv 9 L f cd)).deeper env)) (hv'.mono S7.keepZ) (hth7.mono S7.keepZ) (hunits2 env)
      rw [show k' = (prf xs k).getD i 0 by simp [hk']] at this
      exact this
    have e1 := cn_eq elen x
    have e2 := cn_eq nlen x
    have e3 := cn_eq hzl x
    refine wpAny_execs_cons (assign_x (P := Is (.list [.int (cn (prf xs k) x), .int (cn (dd (prf xs k)) x), .int (cn (dd (prf xs k)) x)])) S7 stoL (ev_list (items_cons
      (e1 ▸ cnt2 (P := fun i v => evs[i]? = some v) (q := fun j => (prf xs k).getD j 0 == x) nev7 nth7 (fun env => src_tuple hh (J7.eL.mono S7.keepZ) (let ⟨o, e, _⟩ := J7.eL.mono S7.keepZ; ⟨o, e⟩)) sTE) (items_cons
      (e2 ▸ cnt2 (P := fun i v => nvs[i]? = some v) (q := fun j => (dd (prf xs k)).getD j 0 == x) nne7 nth7 (fun env => src_list hh lN7 ⟨_, lstN S7⟩) sTN) (items_cons
      (e3 ▸ cnt2 (P := fun i v => ∃ k' y, ((dd (prf xs k)).zip nvs)[i]? = some (k', y) ∧ isTk κ k' v = true) (q := fun j => (dd (prf xs k)).getD j 0 == x) nsh7 nlt7 (fun env => src_keys hh dN7 hDs (let ⟨o, e, _⟩ := Heap.dictOf_iff.mp dN7; ⟨o, e⟩)) fun env i v hv => same_key (hsmall i v hv).1 htk (hsmall i v hv).2 (hunits2 env)) items_nil))) (show 3 ≤ sizeLine by decide)) fun ofv s8 Z8 S8 kz8 r8 => ?_)
    have J8 := (J7.mono kz8).upd (x := "often") (v := ofv)
    have hth8 := hth7.mono kz8
    have G8 := G.keepsF S8.keepF
    obtain ⟨fc8, nc8, hfc8⟩ := G8.nmF (env := fenv 9 L f cd) 2
    have nth8 : Nm (fenv 9 L f cd) s8.heap "thing" th := S8.nmL (by rw [upd_ne (by decide), upd_ne (by decide), upd_ne (by decide), upd_ne (by decide), upd_at])
    have nlt8 : Nm (fenv 9 L f cd) s8.heap "letter" (.int x t) := S8.nmL (by rw [upd_ne (by decide), upd_ne (by decide), upd_ne (by decide), upd_ne (by decide), upd_ne (by decide), upd_at])
    have nsh8 : Nm (fenv 9 L f cd) s8.heap "shown" (.ref D) := S8.nmL (by rw [upd_ne (by decide), upd_ne (by decide), upd_ne (by decide), upd_at])
    have nne8 : Nm (fenv 9 L f cd) s8.heap "newest" (.ref nw) := S8.nmC J8.nN
    have nev8 : Nm (fenv 9 L f cd) s8.heap "everything" (.ref e) := S8.nmL J8.eN
    have npl8 : Nm (fenv 9 L f cd) s8.heap "places" plv := S8.nmL (by rw [upd_ne (by decide), upd_at])
    have nof8 : Nm (fenv 9 L f cd) s8.heap "often" ofv := S8.nmL upd_at
    have rE8 : Rd s8.heap.get? (.ref e) (.tuple ((prf xs k).map thg)) := .tuple (J8.eL.mono S8.keepZ) (J8.eT.rd.mono S8.keepZ)
    have rN8 : Rd s8.heap.get? (.ref nw) (.list ((dd (prf xs k)).map thg)) := .list ⟨_, lstN S8, rfl, nn, rfl⟩ (J8.nT.rd.mono S8.keepZ)
    have rT8 := hth8.rd.mono S8.keepZ
    have hr0 := Nat.lt_of_succ_lt hr1
    have ct1 : ∀ {p1 p2 p3 pos : Pos}, Run prog w (A.deeper (fenv 9 L f cd)) (eval (.Call (.Name "contains" p1) [.Name "everything" p2, .Name "thing" p3] [] pos) (fenv 9 L f cd)) s8.heap Z8 (Is (.bool ((prf xs k).contains x))) := fun {_ _ _ _} =>
      ev_callF (k := 2) nc8 hfc8 (items_consV (P := fun _ v => v = .ref e) (fun _ _ _ _ e => e) (ev_name nev8 fun _ _ => rfl) (items_consV (P := fun _ v => v = th) (fun _ _ _ _ e => e) (ev_name nth8 fun _ _ => rfl) items_nilV)) (by
        rintro H' Z'' us q1 q2 q3 ⟨_, _, rfl, rfl, _, _, rfl, rfl, rfl⟩
        have := contains_tuple (prog := prog) (w := w) (Z := Z'') (G8.keeps q1) (hfc8.mono q1) hr0 (rE8.mono q1) (rT8.mono q1) (sh_thgs _) rfl hunits (Nat.le_trans (sh_thg x 0).2 (by decide))
        rw [thg_any] at this; exact this)
    have ct2 : ∀ {p1 p2 p3 pos : Pos}, Run prog w (A.deeper (fenv 9 L f cd)) (eval (.Call (.Name "contains" p1) [.Name "newest" p2, .Name "thing" p3] [] pos) (fenv 9 L f cd)) s8.heap Z8 (Is (.bool ((dd (prf xs k)).contains x))) := fun {_ _ _ _} =>
      ev_callF (k := 2) nc8 hfc8 (items_consV (P := fun _ v => v = .ref nw) (fun _ _ _ _ e => e) (ev_name nne8 fun _ _ => rfl) (items_consV (P := fun _ v => v = th) (fun _ _ _ _ e => e) (ev_name nth8 fun _ _ => rfl) items_nilV)) (by
        rintro H' Z'' us q1 q2 q3 ⟨_, _, rfl, rfl, _, _, rfl, rfl, rfl⟩
        have := contains_list (prog := prog) (w := w) (Z := Z'') (G8.keeps q1) (hfc8.mono q1) hr0 (rN8.mono q1) (rT8.mono q1) (sh_thgs _) rfl hunits (Nat.le_trans (sh_thg x 0).2 (by decide))
        rw [thg_any] at this; exact this)
    have dN8 := dctN S8
    have ct3 : ∀ {p1 p2 p3 pos : Pos}, Run prog w (A.deeper (fenv 9 L f cd)) (eval (.Call (.Name "contains" p1) [.Name "shown" p2, .Name "letter" p3] [] pos) (fenv 9 L f cd)) s8.heap Z8 (Is (.bool ((dd (prf xs k)).contains x))) := fun {_ _ _ _} =>
      ev_callF (k := 2) nc8 hfc8 (items_consV (P := fun _ v => v = .ref D) (fun _ _ _ _ e => e) (ev_name nsh8 fun _ _ => rfl) (items_consV (P := fun _ v => v = .int x t) (fun _ _ _ _ e => e) (ev_name nlt8 fun _ _ => rfl) items_nilV)) (by
        rintro H' Z'' us q1 q2 q3 ⟨_, _, rfl, rfl, _, _, rfl, rfl, rfl⟩
        have := contains_dict (prog := prog) (w := w) (Z := Z'') (G8.keeps q1) (hfc8.mono q1) hr0 (dN8.keep q1) hDs htk
        rw [zip_isSome nlen] at this; exact this)
    have hlA : avs.length = k := by simpa using J8.aR.length
    -- answers.append( ... )
    refine wpAny_execs_cons (append_st (M1 := [(D, isDct prog w κ ((dd (prf xs k)).zip nvs)), (ga, isLst gvs gn), (ka, isLst kvs kn), (sa, isLst svs sn)]) (M2 := (nw, isLst nvs nn) :: F) (P := Is (.list (ansRow xs k))) S8 (S8.nmL J8.aN) ((ev_laddI (ev_laddI (ev_name_is npl8 (rp7.mono kz8)) (ev_name_is nof8 r8) (show 6 ≤ sizeLine by decide)) (ev_list (items_cons ct1 (items_cons ct2 (items_cons ct3 items_nil))) (show 3 ≤ sizeLine by decide)) (show 9 ≤ sizeLine by decide)).conseq fun _ _ _ p => by
      rw [← hx] at p; exact p) (by omega) fun av s9 Z9 S9 kz9 r9 => ?_)
    have J9 := J8.mono kz9
    have hth9 := hth8.mono kz9
    have G9 := G.keepsF S9.keepF
    have nkd9 : Nm (fenv 9 L f cd) s9.heap "kinds" kv := S9.nmC (by rw [upd_ne (by decide), upd_ne (by decide), upd_at])
    have nis9 : Nm (fenv 9 L f cd) s9.heap "isinstance" (.builtin "isinstance") := G9.nmB boot_isinstance
    have nin9 : Nm (fenv 9 L f cd) s9.heap "int" (.type "int") := G9.nmB boot_int
    refine wpAny_execs_cons (wpAny_mono (Q := fun fl s3 => fl = .next ∧ ∃ Z3 ρ3 nvs3 nn3 ps3 svs3 sn3 m3, St (frs outer) (fenv 9 L f cd) s Z Z3 s3 ρ3 ((D, isDct prog w κ ps3) :: (ga, isLst gvs gn) :: (ka, isLst kvs kn) :: (sa, isLst svs3 sn3) :: (aa, isLst (avs ++ [av]) (an + 1)) :: (nw, isLst nvs3 nn3) :: F) ∧ Kp Z9 Z3 ∧
      AJ κ xs k Z3 ρ3 ga ka sa aa nw e gvs kvs svs avs nvs evs ∧ ρ3 "shown" = some (.ref D) ∧ ρ3 "thing" = some th ∧ Thgs κ Z3 nvs3 (dq xs k) ∧ ps3.map (·.1) = dq xs k ∧ m3 ≤ k + 1 ∧ RdAll Z3 svs3 (List.replicate m3 tt)) (E := fun _ _ => False) ?_ ?_ fun _ _ h => h)
    · refine wpAny_If (S9.ev (P := fun _ r => r = isI (plc (ix (dd (prf xs k)) x))) (tst_value (ev_isInt (by cases ix (dd (prf xs k)) x <;> rfl) nis9 nin9 (ev_name_is nkd9 (rk3.mono kNone)))) fun r s10 Z10 S10 kz10 kh10 hr10 => ?_)
      have J10 := J9.mono kz10
      cases hixx : ix (dd (prf xs k)) x with
      | none =>
        rw [hixx] at hr10
        simp only [plc, isI] at hr10
        subst hr10
        simp only [Bool.false_eq_true, if_false]
        have hno := ix_none hixx
        obtain ⟨m, hm, hsr⟩ := J10.sR
        refine wpAny_execs_nil ⟨rfl, Z10, _, nvs, nn, _, svs, sn, m, S10, kz10, J10, by rw [upd_ne (by decide), upd_ne (by decide), upd_ne (by decide), upd_at], by rw [upd_ne (by decide), upd_ne (by decide), upd_ne (by decide), upd_ne (by decide), upd_at], ?_, ?_, by omega, hsr⟩
        · rw [dq, hx, filter_none hno]; exact J10.nT
        · rw [zip_keys nlen, dq, hx, filter_none hno]
      | some j =>
        rw [hixx] at hr10
        simp only [plc, isI] at hr10
        subst hr10
        simp only [if_true]
        obtain ⟨hjl, hjx⟩ := ix_some hixx
        obtain ⟨v0, hv0, hv0t⟩ := J10.nT.get' hjx
        have hkv : ∃ tk, kv = .int j tk := by rw [hixx] at rk3; exact rk3.int_inv
        obtain ⟨tk, rfl⟩ := hkv
        have G10 := G.keepsF S10.keepF
        have nln10 : Nm (fenv 9 L f cd) s10.heap "len" (.builtin "len") := G10.nmB boot_len
        have lN10 : s10.heap.get? nw = some (lst nvs nn) := St.lstAt (M1 := [(D, isDct prog w κ ((dd (prf xs k)).zip nvs)), (ga, isLst gvs gn), (ka, isLst kvs kn), (sa, isLst svs sn), (aa, isLst (avs ++ [av]) (an + 1))]) (M2 := F) S10
        have nkd10 : Nm (fenv 9 L f cd) s10.heap "kinds" (.int j tk) := S10.nmC (by rw [upd_ne (by decide), upd_ne (by decide), upd_at])
        have nne10 : Nm (fenv 9 L f cd) s10.heap "newest" (.ref nw) := S10.nmC J10.nN
        -- behind = kinds - len(newest)
        refine wpAny_execs_cons (assign_x (P := Is (.int ((j : Int) - nvs.length))) S10 stoL (ev_sub (ev_name_is nkd10 (.int ..)) (ev_lenV nln10 (ev_name nne10 fun _ _ => rfl) ⟨_, lN10, rfl, nn, rfl⟩ (by omega))) fun bv s11 Z11 S11 kz11 r11 => ?_)
        obtain ⟨tb, rfl⟩ := r11.int_inv
        have J11 := (J10.mono kz11).upd (x := "behind") (v := .int ((j : Int) - nvs.length) tb)
        have G11 := G.keepsF S11.keepF
        obtain ⟨fg, ng, hfg⟩ := G11.nmF (env := fenv 9 L f cd) 5
        have lN11 : s11.heap.get? nw = some (lst nvs nn) := St.lstAt (M1 := [(D, isDct prog w κ ((dd (prf xs k)).zip nvs)), (ga, isLst gvs gn), (ka, isLst kvs kn), (sa, isLst svs sn), (aa, isLst (avs ++ [av]) (an + 1))]) (M2 := F) S11
        have dN11 := dctN S11
        have nne11 : Nm (fenv 9 L f cd) s11.heap "newest" (.ref nw) := S11.nmC J11.nN
        have nbh11 : Nm (fenv 9 L f cd) s11.heap "behind" (.int ((j : Int) - nvs.length) tb) := S11.nmL upd_at
        have nsh11 : Nm (fenv 9 L f cd) s11.heap "shown" (.ref D) := S11.nmL (by rw [upd_ne (by decide), upd_ne (by decide), upd_ne (by decide), upd_ne (by decide), upd_at])
        have nlt11 : Nm (fenv 9 L f cd) s11.heap "letter" (.int x t) := S11.nmL (by rw [upd_ne (by decide), upd_ne (by decide), upd_ne (by decide), upd_ne (by decide), upd_ne (by decide), upd_ne (by decide), upd_at])
        have hidx : seqIndex? ((j : Int) - nvs.length) nvs.length = some j := by
          unfold seqIndex?
          have h1 : (j : Int) - nvs.length < 0 := by omega
          simp only [h1, if_true]
          rw [if_pos (by simp; omega)]
          congr 1; omega
        -- found = [ ... ]
        refine wpAny_execs_cons (assign_x (P := fun Z v => ∃ a n, v = .ref a ∧ Z a = some (lst [v0, v0] n)) S11 stoL ((ev_List (I := fun _ vs => vs = [v0, v0]) (fun _ _ _ _ e => e) ((items_consV (P := fun _ v => v = v0) (fun _ _ _ _ e => e)
            (ev_callF (k := 5) ng hfg (items_consV (P := fun _ v => v = .ref nw) (fun _ _ _ _ e => e) (ev_name nne11 fun _ _ => rfl) (items_consV (P := fun _ v => v = .int ((j : Int) - nvs.length) tb) (fun _ _ _ _ e => e) (ev_name nbh11 fun _ _ => rfl) items_nilV)) (by
              rintro H' Z'' us q1 q2 q3 ⟨_, _, rfl, rfl, _, _, rfl, rfl, rfl⟩
              exact getitem_list (G11.keeps q1) (hfg.mono q1) hr0 ⟨_, q1 _ _ lN11, rfl, nn, rfl⟩ (by omega) hidx hv0))
            (items_consV (P := fun _ v => v = v0) (fun _ _ _ _ e => e)
            (ev_callF (k := 5) ng hfg (items_consV (P := fun _ v => v = .ref D) (fun _ _ _ _ e => e) (ev_name nsh11 fun _ _ => rfl) (items_consV (P := fun _ v => v = .int x t) (fun _ _ _ _ e => e) (ev_name nlt11 fun _ _ => rfl) items_nilV)) (by
              rintro H' Z'' us q1 q2 q3 ⟨_, _, rfl, rfl, _, _, rfl, rfl, rfl⟩
              exact getitem_dict (G11.keeps q1) (hfg.mono q1) hr0 (dN11.keep q1) htk (zip_valueAt (dd_nodup _) hjx hv0))) items_nilV)).conseq fun _ _ _ ⟨_, _, e, e1, _, _, e2, e3, e4⟩ => by rw [e, e1, e2, e3, e4]) fun _ vs e => by rw [e]; exact show 2 ≤ sizeLine by decide).conseq fun _ _ _ ⟨a, vs, n, e, _, hz, hv⟩ => ⟨a, n, e, hv ▸ hz⟩) fun fv s12 Z12 S12 kz12 r12 => ?_)
        obtain ⟨fa, fn, rfl, hfz⟩ := r12
        have J12 := (J11.mono kz12).upd (x := "found") (v := .ref fa)
        obtain ⟨m, hm, hsr⟩ := J12.sR
        have hsl : svs.length = m := by simpa using hsr.length
        have lN12 : s12.heap.get? nw = some (lst nvs nn) := St.lstAt (M1 := [(D, isDct prog w κ ((dd (prf xs k)).zip nvs)), (ga, isLst gvs gn), (ka, isLst kvs kn), (sa, isLst svs sn), (aa, isLst (avs ++ [av]) (an + 1))]) (M2 := F) S12
        have cN := S12.cellAt (x := "newest") (c := L + 1) J12.nN
        have cK := S12.cellAt (x := "kinds") (c := L + 2) (v := .int j tk) (by rw [upd_ne (by decide), upd_ne (by decide), upd_ne (by decide), upd_ne (by decide), upd_at])
        -- same.append([one is newest[kinds] for one in found])
        refine wpAny_execs_cons (append_st (M1 := [(D, isDct prog w κ ((dd (prf xs k)).zip nvs)), (ga, isLst gvs gn), (ka, isLst kvs kn)]) (M2 := (aa, isLst (avs ++ [av]) (an + 1)) :: (nw, isLst nvs nn) :: F) (P := Is tt) S12 (S12.nmL J12.sN) ((ev_comp (I := Alls [.bool true, .bool true]) (mono_alls _) (ev_name (P := fun _ v => v = .ref fa) (S12.nmL (x := "found") upd_at) fun _ _ => rfl) rfl (fun v H' Z' q1 q2 q3 ev => ?_)).conseq fun _ _ _ p => p.is) (by omega) fun sv s13 Z13 S13 kz13 r13 => ?_)
        · subst ev
          refine ⟨2, fun i u => [v0, v0][i]? = some u, fun k _ _ ys => ys = List.replicate k (.bool true), src_list (vs := [v0, v0]) hh ⟨_, q3 _ _ (q2 _ _ hfz), rfl, fn, rfl⟩ trivial, by decide, fun _ _ _ _ _ _ _ _ h => h, fun _ => rfl, ?_, fun Z'' _ ys h => by rw [h]; exact .cons (.bool _) (.cons (.bool _) .nil)⟩
          intro i u C H'' Z'' tk' ys m hi hu q1' q2' q3' hn hm hJ
          have hu0 : u = v0 := by
            rcases i with _ | _ | i
            · simpa using hu.symm
            · simpa using hu.symm
            · omega
          subst hu0
          refine ⟨true, test_nil, (fun e => by cases e), fun _ => ?_⟩
          refine Run.runK (P := fun _ y => ys ++ [y] = List.replicate (i + 1) (.bool true)) ?_
          refine (ev_Compare (P := Is (.bool true)) (P1 := fun _ v => v = u) (P2 := fun _ v => v = u) (fun _ _ _ _ e => e) (ev_name (Nm.loc hn hm) fun _ _ => rfl) (ev_itemV (a := nw) (vs := nvs) (k := j) (j := j) (ev_name (Nm.cell rfl ((cN.keeps q1).keeps q1')) fun _ _ => rfl) (ev_name (Nm.cell rfl ((cK.keeps q1).keeps q1')) fun _ _ => ⟨_, rfl⟩) ⟨_, q1' _ _ (q1 _ _ lN12), rfl, nn, rfl⟩ (by omega) (seqIndex_nat (by omega)) hv0) (fun H3 Z3 a b _ _ _ pa pb => ?_) rfl).conseq fun _ y _ p => ?_
          · subst pa pb
            obtain ⟨a0, t0, rfl, _⟩ := hv0t
            exact Run.same (fun _ _ _ _ q => wpAny_is_ref_self q) fun _ _ => .bool _
          · obtain rfl := p.bool_inv
            rw [hJ, List.replicate_succ']
        have J13 := J12.mono kz13
        have G13 := G.keepsF S13.keepF
        obtain ⟨fd, nd, hfd⟩ := G13.nmF (env := fenv 9 L f cd) 4
        have nkd13 : Nm (fenv 9 L f cd) s13.heap "kinds" (.int j tk) := S13.nmC (by rw [upd_ne (by decide), upd_ne (by decide), upd_ne (by decide), upd_ne (by decide), upd_at])
        have nbh13 : Nm (fenv 9 L f cd) s13.heap "behind" (.int ((j : Int) - nvs.length) tb) := S13.nmL (by rw [upd_ne (by decide), upd_at])
        -- delitem(newest, behind if kinds % 2 == 1 else kinds)
        refine wpAny_execs_cons (delL_st (M1 := [(D, isDct prog w κ ((dd (prf xs k)).zip nvs)), (ga, isLst gvs gn), (ka, isLst kvs kn), (sa, isLst (svs ++ [sv]) (sn + 1)), (aa, isLst (avs ++ [av]) (an + 1))]) (M2 := F) (k := j) (i := if ((j : Int).fmod 2 == 1) then (j : Int) - nvs.length else j) S13 G13 nd hfd (S13.nmC J13.nN)
          (ev_IfExp (b := ((j : Int).fmod 2 == 1)) (tst_cmp ((ev_eq (ev_mod (by decide) (ev_name_is nkd13 (.int ..)) ev_int) ev_int rfl rfl hunits).conseq fun _ _ _ p => by simpa [PyData.eqv] using p)) (fun h => by rw [if_pos h]; exact ev_name_is nbh13 (.int ..)) (fun h => by rw [if_neg (by rw [h]; exact Bool.false_ne_true)]; exact ev_name_is nkd13 (.int ..)))
          hr0 (by split <;> simp [Builtin.List.listFitsIndex] <;> omega) (by split; exact hidx; exact seqIndex_nat (by omega)) (by omega) fun s14 Z14 nn14 S14 kz14 _ => ?_)
        have J14 := J13.mono kz14
        have G14 := G.keepsF S14.keepF
        obtain ⟨fd4, nd4, hfd4⟩ := G14.nmF (env := fenv 9 L f cd) 4
        -- delitem(shown, letter)
        refine wpAny_execs_cons (delD_st (M := (ga, isLst gvs gn) :: (ka, isLst kvs kn) :: (sa, isLst (svs ++ [sv]) (sn + 1)) :: (aa, isLst (avs ++ [av]) (an + 1)) :: (nw, isLst (nvs.eraseIdx j) nn14) :: F) S14 G14 nd4 hfd4 (S14.nmL (x := "shown") (by rw [upd_ne (by decide), upd_ne (by decide), upd_ne (by decide), upd_ne (by decide), upd_ne (by decide), upd_at])) (S14.nmL (x := "letter") (by rw [upd_ne (by decide), upd_ne (by decide), upd_ne (by decide), upd_ne (by decide), upd_ne (by decide), upd_ne (by decide), upd_ne (by decide), upd_at])) htk hr0
          (by have e := zip_valueAt (vs := nvs) (dd_nodup (prf xs k)) hjx hv0; unfold valueAt; rw [e]; rfl) (by rw [hzl]; omega) fun s15 S15 => ?_)
        refine wpAny_execs_nil ⟨rfl, Z14, _, nvs.eraseIdx j, nn14, _, svs ++ [sv], sn + 1, m + 1, S15, kz10.tr (kz11.tr (kz12.tr (kz13.tr kz14))), J14, by rw [upd_ne (by decide), upd_ne (by decide), upd_ne (by decide), upd_ne (by decide), upd_ne (by decide), upd_at], by rw [upd_ne (by decide), upd_ne (by decide), upd_ne (by decide), upd_ne (by decide), upd_ne (by decide), upd_ne (by decide), upd_at], ?_, ?_, by omega, ?_⟩
        · rw [dq, hx, ← ix_erase (dd_nodup _) hjx]; exact J14.nT.eraseIdx j
        · rw [without_keys, zip_keys nlen, dq, hx]
        · rw [List.replicate_succ']; exact (hsr.mono (kz13.tr kz14)).append (.one (r13.mono kz14))
    · rintro fl s3 ⟨rfl, Z3, ρ3, nvs3, nn3, ps3, svs3, sn3, m3, S3, kz3, J3, g1, g2, g3, g4, g5, g6⟩
      dsimp only
      have hth3 := hth9.mono kz3
      have hlK : kvs.length = k := by simpa using J3.kR.length
      have hlG : gvs.length = k := by simpa using J3.gR.length
      have dN3 := dctN S3
      -- keys.append([key for key in shown])
      refine wpAny_execs_cons (append_st (M1 := [(D, isDct prog w κ ps3), (ga, isLst gvs gn)]) (P := Is (.list (nums (dq xs k)))) S3 (S3.nmL J3.kN) ((ev_comp (I := Alls (nums (dq xs k))) (mono_alls _) (ev_name (P := fun _ v => v = .ref D) (S3.nmL g1) fun _ _ => rfl) rfl (fun v H' Z' q1 q2 q3 ev => ?_)).conseq fun _ _ _ p => p.is) (by omega) fun kv4 s4 Z4 S4 kz4 r4 => ?_)
      · subst ev
        refine compBody_data' (ps3.map fun p : Int × Value => p.1) (fun x : Int => PyData.int x) (fun _ => true) (fun x : Int => PyData.int x) (by rw [List.filter_eq_self.mpr fun _ _ => rfl, g4]) (by rw [g4]; exact Nat.le_trans (List.length_filter_le _ _) (by rw [← nlen]; omega)) (srcD_keys (A := A.deeper (fenv 9 L f cd)) hh (dN3.keep q1) hDs) (fun _ _ _ _ _ _ _ _ _ _ _ _ _ _ => test_nil) ?_
        intro i j hj hp u C H'' Z3' m q1' q2' q3' hn hm ru
        exact ev_name_is (Nm.loc hn hm) ru
      -- head = [thing]
      refine wpAny_execs_cons (assign_x (P := fun Z v => ∃ a n, v = .ref a ∧ Z a = some (lst [th] n)) S4 stoL ((ev_List (I := fun _ vs => vs = [th]) (fun _ _ _ _ e => e) ((items_consV (P := fun _ v => v = th) (fun _ _ _ _ e => e) (ev_name (S4.nmL g2) fun _ _ => rfl) items_nilV).conseq fun _ _ _ ⟨_, _, e, e1, e2⟩ => by rw [e, e1, e2]) fun _ vs e => by rw [e]; exact show 1 ≤ sizeLine by decide).conseq fun _ _ _ ⟨a, vs, n, e, _, hz, hv⟩ => ⟨a, n, e, hv ▸ hz⟩) fun hv5 s5 Z5 S5 kz5 r5 => ?_)
      obtain ⟨hd, hn5, rfl, hz5⟩ := r5
      -- newest is no more changed
      have hlN := St.lstAt (M1 := [(D, isDct prog w κ ps3), (ga, isLst gvs gn), (ka, isLst (kvs ++ [kv4]) (kn + 1)), (sa, isLst svs3 sn3), (aa, isLst (avs ++ [av]) (an + 1))]) (M2 := F) S5
      have hzN := (S5.news (nw, isLst nvs3 nn3) (by simp)).2.2.1
      have S6 := St.freeze (M1 := [(D, isDct prog w κ ps3), (ga, isLst gvs gn), (ka, isLst (kvs ++ [kv4]) (kn + 1)), (sa, isLst svs3 sn3), (aa, isLst (avs ++ [av]) (an + 1))]) (M2 := F) S5 hlN
      have kz6 := kp_put (o := lst nvs3 nn3) hzN
      have hN6 : IsL (put Z5 nw (lst nvs3 nn3)) nw nvs3 := ⟨_, put_at, rfl, nn3, rfl⟩
      generalize put Z5 nw (lst nvs3 nn3) = Z6 at S6 kz6 hN6
      have kz36 := kz4.tr (kz5.tr kz6)
      have J6 := (J3.mono kz36).upd (x := "head") (v := .ref hd)
      have hth6 := hth3.mono kz36
      have g36 := g3.mono kz36
      have hz6 := kz6 _ _ hz5
      have rH6 : Rd Z6 (.ref hd) (.list [thg x]) := .list ⟨_, hz6, rfl, hn5, rfl⟩ (.one hth6.rd)
      have rN6 : Rd Z6 (.ref nw) (.list ((dq xs k).map thg)) := .list hN6 g36.rd
      have hl3 : nvs3.length ≤ 20 := by
        rw [g36.length, dq]; exact Nat.le_trans (List.length_filter_le _ _) (by rw [← nlen]; omega)
      -- given.append([head, newest])
      refine wpAny_execs_cons (append_st (M1 := [(D, isDct prog w κ ps3)]) (P := Is (givRow xs k)) S6 (S6.nmL J6.gN) (by
        rw [givRow, hx]
        exact ev_list (items_cons (ev_name_is (S6.nmL (x := "head") upd_at) rH6) (items_cons (ev_name_is (S6.nmC J6.nN) rN6) items_nil))) (by omega) fun gv7 s7' Z7' S7' kz7' r7' => ?_)
      have J7' := J6.mono kz7'
      have G7' := G.keepsF S7'.keepF
      obtain ⟨fc7', nc7', hfc7'⟩ := G7'.nmF (env := fenv 9 L f cd) 1
      -- everything = concat((thing,), everything)
      refine wpAny_execs_cons (assign_x (P := fun Z v => ∃ c, v = .ref c ∧ IsT Z c (th :: evs)) S7' stoL (ev_callF (k := 1) nc7' hfc7' (items_consV (P := fun Z v => ∃ a n, v = .ref a ∧ Z a = some (tpl [th] n)) (fun _ _ _ k ⟨a, n, e, h⟩ => ⟨a, n, e, k _ _ h⟩) ((ev_Tuple (I := fun _ vs => vs = [th]) (fun _ _ _ _ e => e) ((items_consV (P := fun _ v => v = th) (fun _ _ _ _ e => e) (ev_name (S7'.nmL (by rw [upd_ne (by decide)]; exact g2)) fun _ _ => rfl) items_nilV).conseq fun _ _ _ ⟨_, _, e, e1, e2⟩ => by rw [e, e1, e2]) fun _ vs e => by rw [e]; exact show 1 ≤ sizeLine by decide).conseq fun _ _ _ ⟨a, vs, n, e, _, hz, hv⟩ => ⟨a, n, e, hv ▸ hz⟩)
          (items_consV (P := fun _ v => v = .ref e) (fun _ _ _ _ e => e) (ev_name (S7'.nmL J7'.eN) fun _ _ => rfl) items_nilV)) (by
        rintro H' Z'' us q1 q2 q3 ⟨_, _, rfl, ⟨a1, n1, rfl, hz1⟩, _, _, rfl, rfl, rfl⟩
        exact concat_tuple (G7'.keeps q1) (hfc7'.mono q1) hr0 q3 hz1 (J7'.eL.mono q2) (by simp) (by rw [elen, prf_length (by omega)]; simp; omega))) fun ev8 s8' Z8' S8' kz8' r8' => ?_)
      obtain ⟨ec, rfl, hec⟩ := r8'
      have G8' := G.keepsF S8'.keepF
      obtain ⟨fc8', nc8', hfc8'⟩ := G8'.nmF (env := fenv 9 L f cd) 1
      -- newest = concat(head, newest)
      refine wpAny_execs_cons (assign_x (P := NwL s8'.heap (fun Z vs => vs = th :: nvs3)) S8' stoC (ev_callF (k := 1) nc8' hfc8' (items_consV (P := fun _ v => v = .ref hd) (fun _ _ _ _ e => e) (ev_name (S8'.nmL (x := "head") (by rw [upd_ne (by decide), upd_at])) fun _ _ => rfl) (items_consV (P := fun _ v => v = .ref nw) (fun _ _ _ _ e => e) (ev_name (S8'.nmC (by rw [upd_ne (by decide)]; exact J7'.nN)) fun _ _ => rfl) items_nilV)) (by
        rintro H' Z'' us q1 q2 q3 ⟨_, _, rfl, rfl, _, _, rfl, rfl, rfl⟩
        exact (concat_list (fun _ _ _ _ e => e) (G8'.keeps q1) (hfc8'.mono q1) hr0 (q1 _ _ (S8'.keepZ _ _ (kz8' _ _ (kz7' _ _ hz6)))) ((hN6.mono (kz7'.tr (kz8'.tr S8'.keepZ))).mono q1) rfl (by simp; omega)).conseq fun _ _ _ p => p.weaken q1)) fun nv9 s9' Z9' S9' kz9' nw9' => ?_)
      obtain ⟨nw2, nvs9, nn9, rfl, S10, kz10, e10⟩ := S8'.thawL S9' kz9' nw9'
      subst e10
      have kzA : Kp Z6 (del Z9' nw2) := kz7'.tr (kz8'.tr kz10)
      have kzB : Kp Z3 (del Z9' nw2) := kz36.tr kzA
      have kzT : Kp Z' (del Z9' nw2) := kz1.tr (ex7.zz.tr (kz8.tr (kz9.tr (kz3.tr kzB))))
      refine wpAny_execs_nil ⟨del Z9' nw2, _, [(ga, isLst (gvs ++ [gv7]) (gn + 1)), (ka, isLst (kvs ++ [kv4]) (kn + 1)), (sa, isLst svs3 sn3), (aa, isLst (avs ++ [av]) (an + 1)), (nw2, isLst (th :: nvs3) nn9)], S10.remap (fun p hp => ?_) ?_, kzT, ga, ka, sa, aa, nw2, ec, gvs ++ [gv7], kvs ++ [kv4], svs3, avs ++ [av], th :: nvs3, th :: evs, gn + 1, kn + 1, sn3, an + 1, nn9, ?_, rfl⟩
      · refine ⟨p, ?_, rfl, fun o _ h => h⟩
        have hp : p ∈ (ga, isLst (gvs ++ [gv7]) (gn + 1)) :: (ka, isLst (kvs ++ [kv4]) (kn + 1)) :: (sa, isLst svs3 sn3) :: (aa, isLst (avs ++ [av]) (an + 1)) :: (nw2, isLst (th :: nvs3) nn9) :: F := hp
        show p ∈ (nw2, isLst (th :: nvs3) nn9) :: (D, isDct prog w κ ps3) :: (ga, isLst (gvs ++ [gv7]) (gn + 1)) :: (ka, isLst (kvs ++ [kv4]) (kn + 1)) :: (sa, isLst svs3 sn3) :: (aa, isLst (avs ++ [av]) (an + 1)) :: F
        simp only [List.mem_cons] at hp ⊢
        rcases hp with h | h | h | h | h | h <;> simp [h]
      · exact nodup_shuffle S10.nodup
      · have J9' := J7'.mono (kz8'.tr kz10)
        have nm : ∀ (y : Str) v', y ≠ "everything" → y ≠ "newest" → upd ρ3 "head" (.ref hd) y = some v' → upd (upd (upd ρ3 "head" (.ref hd)) "everything" (.ref ec)) "newest" (.ref nw2) y = some v' := fun y v' h1 h2 e => by rw [upd_ne h2, upd_ne h1]; exact e
        refine ⟨nm _ _ (by decide) (by decide) J9'.gN, nm _ _ (by decide) (by decide) J9'.kN, nm _ _ (by decide) (by decide) J9'.sN, nm _ _ (by decide) (by decide) J9'.aN, upd_at, by rw [upd_ne (by decide), upd_at], ?_, ?_, ⟨m3, g5, g6.mono kzB⟩, ?_, ?_, hec.mono kz10, ?_⟩
        · rw [List.range_succ, List.map_append]; exact J9'.gR.append (.one (r7'.mono (kz8'.tr kz10)))
        · rw [List.range_succ, List.map_append]; exact J9'.kR.append (.one (r4.mono (kz5.tr (kz6.tr kzA))))
        · rw [List.range_succ, List.map_append]; exact J9'.aR.append (.one (r9.mono (kz3.tr kzB)))
        · rw [dd_prf_succ hkx, hx]; exact .cons (hth6.mono kzA) (g36.mono kzA)
        · rw [prf_succ hkx, hx]; exact .cons (hth6.mono kzA) J9'.eT
  · obtain ⟨ga, ka, sa, aa, nw, e, gvs, kvs, svs, avs, nvs, evs, gn, kn, sn, an, nn, J, rfl⟩ := hJ
    refine wpAny_execs_nil ?_
    have hn : lvs.length = xs.length := hll
    rw [hn] at J
    obtain ⟨Y1, X1, y1, l1⟩ := S'.freezeL
    obtain ⟨Y2, X2, y2, l2⟩ := X1.freezeL
    obtain ⟨Y3, X3, y3, l3⟩ := X2.freezeL
    obtain ⟨Y4, X4, y4, l4⟩ := X3.freezeL
    obtain ⟨Y5, X5, y5, l5⟩ := X4.freezeL
    have J5 := J.mono (y1.tr (y2.tr (y3.tr (y4.tr y5))))
    have hprf : prf xs xs.length = xs.reverse := by simp [prf]
    obtain ⟨m, hm, hsr⟩ := J5.sR
    refine wpAny_execs_cons (wpAny_Return_some (X5.ev (P := Is (askD xs m)) (ev_list (items_cons (ev_name_is (X5.nmL J5.aN) (.list (l4.mono y5) J5.aR)) (items_cons (ev_name_is (X5.nmL J5.eN) (.tuple J5.eL (by rw [← hprf]; exact J5.eT.rd))) (items_cons (ev_name_is (X5.nmL J5.sN) (.list (l3.mono (y4.tr y5)) hsr)) (items_cons (ev_name_is (X5.nmL J5.kN) (.list (l2.mono (y3.tr (y4.tr y5))) J5.kR)) (items_cons
      (ev_laddI (ev_name_is (X5.nmL J5.gN) (.list (l1.mono (y2.tr (y3.tr (y4.tr y5)))) J5.gR)) (ev_list (items_cons (ev_name_is (X5.nmC J5.nN) (.list l5 (by rw [← hprf]; exact J5.nT.rd))) items_nil)) (by simp; omega)) items_nil))))) (show 5 ≤ sizeLine by decide)) fun v s8 Z8 X8 kz8 _ r8 => ?_))
    have hx := X8.postF
    obtain ⟨h8, tk8, rfl⟩ := X8.same
    exact h v h8 tk8 Z8 m hx hm r8
end
end Mine
end

section
open PySem PySem.W PyProof.Rows PySem.Calls
namespace Mine

theorem turn1_list (elt : Expr) (g0 : Comprehension) (target iter : Expr) (ifs : List Expr) (scope : Scope) (pos : Pos) (it acc : Value) (env : Env) :
    compTurn (.ListComp elt [g0, ⟨target, iter, ifs, 0⟩] scope pos) 1 it acc env = (do
      standAt iter.pos
      match ← pyNext it with
      | none => pure (.done .next)
      | some v =>
        letOwnedTupleGo target it v
        assign target env v
        let mut ok := true
        for c in ifs do
          if ok then ok ← isTrue c env (eval c env)
        if ok then
          (do let _ ← call (.builtin "list.append") [acc, ← eval elt env])
        again (.compLoop (.ListComp elt [g0, ⟨target, iter, ifs, 0⟩] scope pos) 1 it acc env)) := by rfl
theorem turn0_list (elt : Expr) (target iter target' iter' : Expr) (ifs' : List Expr) (scope : Scope) (pos : Pos) (it acc : Value) (env : Env) :
    compTurn (.ListComp elt [⟨target, iter, [], 0⟩, ⟨target', iter', ifs', 0⟩] scope pos) 0 it acc env = (do
      standAt iter.pos
      match ← pyNext it with
      | none => pure (.done .next)
      | some v =>
        letOwnedTupleGo target it v
        assign target env v
        let x ← eval iter' env
        standAt iter'.pos
        let x ← foldedSetIterable iter' env x
        let _ ← runOwn (.compStart (.ListComp elt [⟨target, iter, [], 0⟩, ⟨target', iter', ifs', 0⟩] scope pos) 1 (← holding [x] (pyIter x)) acc env) env
        again (.compLoop (.ListComp elt [⟨target, iter, [], 0⟩, ⟨target', iter', ifs', 0⟩] scope pos) 0 it acc env)) := by rfl

section
variable {prog : Program} {w : World} {A : Around} {R : Result → Shared → Prop} {s : Shared}

theorem loop1_tests {elt : Expr} {g0 : Comprehension} {target iter : Expr} {ifs : List Expr} {scope : Scope} {pos : Pos} {it acc : Value} {env : Env} (I : Nat → Shared → Prop)
    (turn : ∀ n s, I n s → wpAny (model prog w) A (pyNext it) (fun r s₁ => match r with
      | none => R (.ok .next) s₁
      | some v => wpAny (model prog w) A (assign target env v) (fun _ s₂ =>
          wpAny (model prog w) A (compTest ifs env) (fun ok s₃ =>
            if ok = true then wpAny (model prog w) A (eval elt env) (fun x s₄ =>
              wpAny (model prog w) A (call (.builtin "list.append") [acc, x]) (fun _ s₅ => ∃ m, m < n ∧ I m s₅) (notedBy (model prog w) A env fun e s' => R (.error e) s') s₄) (notedBy (model prog w) A env fun e s' => R (.error e) s') s₃
            else ∃ m, m < n ∧ I m s₃) (notedBy (model prog w) A env fun e s' => R (.error e) s') s₂) (notedBy (model prog w) A env fun e s' => R (.error e) s') s₁) (notedBy (model prog w) A env fun e s' => R (.error e) s') s)
    (n : Nat) (h : I n s) (ht : ∀ v, letOwnedTupleGo target it v = pure () := by intro _; rfl) :
    codeAny (model prog w) A (.compLoop (.ListComp elt [g0, ⟨target, iter, ifs, 0⟩] scope pos) 1 it acc env) R s := by
  refine codeAny_loop rfl I (fun n s hI => ?_) n h
  show wpAny _ A ((compTurn (.ListComp elt [g0, ⟨target, iter, ifs, 0⟩] scope pos) 1 it acc env).onRaise (fun x => do noteFrame x env; theTreesLotGoes x)) _ _ s
  refine wpAny_noted ?_
  rw [turn1_list]
  refine wpAny_bind (wpAny_standAt (wpAny_bind (wpAny_mono (turn n s hI) (fun r s₁ h₁ => ?_) fun _ _ h' => h')))
  cases r with
  | none => exact wpAny_pure h₁
  | some v =>
    refine wpAny_bind (wpAny_of_eq (ht v) ?_)
    refine wpAny_bind (wpAny_mono h₁ (fun _ s₂ h₂ => wpAny_bind (wpAny_mono h₂ (fun ok s₃ h₃ => ?_) fun _ _ h' => h')) fun _ _ h' => h')
    cases ok with
    | false => exact wpAny_pure ⟨rfl, h₃⟩
    | true =>
      exact wpAny_bind (wpAny_bind (wpAny_mono h₃ (fun x s₄ h₄ => wpAny_bind (wpAny_mono h₄ (fun _ s₅ h₅ => wpAny_pure (wpAny_pure ⟨rfl, h₅⟩)) fun _ _ h' => h')) fun _ _ h' => h'))

theorem start1_list {elt : Expr} {g0 : Comprehension} {target iter : Expr} {ifs : List Expr} {scope : Scope} {pos : Pos} {it acc : Value} {env : Env}
    (h0 : codeAny (model prog w) A (.compLoop (.ListComp elt [g0, ⟨target, iter, ifs, 0⟩] scope pos) 1 it acc env) R s)
    (h : wpAny (model prog w) A (pyIter it) (fun it' s' => codeAny (model prog w) A (.compLoop (.ListComp elt [g0, ⟨target, iter, ifs, 0⟩] scope pos) 1 it' acc env) R s') (notedBy (model prog w) A env fun x s' => R (.error x) s') s) :
    codeAny (model prog w) A (.compStart (.ListComp elt [g0, ⟨target, iter, ifs, 0⟩] scope pos) 1 it acc env) R s := by
  refine codeAny_of_tree ?_
  show wpAny _ _ ((compStart (.ListComp elt [g0, ⟨target, iter, ifs, 0⟩] scope pos) 1 it acc env).onRaise (fun x => do noteFrame x env; standAt theWindowsPlace)) _ _ s
  refine wpAny_notedAt ?_
  unfold compStart
  show wpAny _ _ (ask >>= _) _ _ s
  refine wpAny_bind (wpAny_askSetting (wpAny_ite ?_))
  split
  · first
      | exact wpAny_bind (wpAny_pure (wpAny_pure (And.intro rfl h0)))
      | exact wpAny_pure (And.intro rfl h0)
  · first
      | exact wpAny_bind (wpAny_rule (wpAny_bind (wpAny_standAt (wpAny_bind (wpAny_mono h (fun it' s' h' => wpAny_pure (And.intro rfl h')) fun _ _ x => x)))))
      | (refine wpAny_bind (wpAny_rule ?_); show wpAny _ _ (standAt iter.pos >>= _) _ _ s; exact wpAny_bind (wpAny_standAt (wpAny_bind (wpAny_mono h (fun it' s' h' => wpAny_pure (And.intro rfl h')) fun _ _ x => x))))

/-- the outer loop: each item, then the whole inner loop -/
theorem loop0 {elt target iter target' iter' : Expr} {ifs' : List Expr} {scope : Scope} {pos : Pos} {it acc : Value} {env : Env} (I : Nat → Shared → Prop)
    (turn : ∀ n s, I n s → wpAny (model prog w) A (pyNext it) (fun r s₁ => match r with
      | none => R (.ok .next) s₁
      | some v => wpAny (model prog w) A (assign target env v) (fun _ s₂ => wpAny (model prog w) A (eval iter' env) (fun x s₃ => wpAny (model prog w) A (pyIter x) (fun it' s₄ =>
          codeAny (model prog w) A (.compStart (.ListComp elt [⟨target, iter, [], 0⟩, ⟨target', iter', ifs', 0⟩] scope pos) 1 it' acc env) (fun r s₅ => match r with | .ok _ => ∃ m, m < n ∧ I m s₅ | .error _ => False) s₄)
          (fun _ _ => False) s₃) (fun _ _ => False) s₂) (fun _ _ => False) s₁) (fun _ _ => False) s)
    (n : Nat) (h : I n s) (ht : ∀ v, letOwnedTupleGo target it v = pure () := by intro _; rfl) (hs : ∀ x, foldedSetIterable iter' env x = pure x := by intro _; rfl) :
    codeAny (model prog w) A (.compLoop (.ListComp elt [⟨target, iter, [], 0⟩, ⟨target', iter', ifs', 0⟩] scope pos) 0 it acc env) R s := by
  refine codeAny_loop rfl I (fun n s hI => ?_) n h
  show wpAny _ A ((compTurn (.ListComp elt [⟨target, iter, [], 0⟩, ⟨target', iter', ifs', 0⟩] scope pos) 0 it acc env).onRaise (fun x => do noteFrame x env; theTreesLotGoes x)) _ _ s
  refine wpAny_noted ?_
  rw [turn0_list]
  refine wpAny_bind (wpAny_standAt (wpAny_bind (wpAny_mono (turn n s hI) (fun r s₁ h₁ => ?_) fun _ _ h' => h'.elim)))
  cases r with
  | none => exact wpAny_pure h₁
  | some v =>
    refine wpAny_bind (wpAny_of_eq (ht v) ?_)
    refine wpAny_bind (wpAny_mono h₁ (fun _ s₂ h₂ => wpAny_bind (wpAny_mono h₂ (fun x s₃ h₃ => ?_) fun _ _ h' => h'.elim)) fun _ _ h' => h'.elim)
    refine wpAny_bind (wpAny_standAt (wpAny_bind (wpAny_of_eq (hs x) (wpAny_bind (wpAny_holding (wpAny_mono h₃ (fun it' s₄ h₄ => ?_) fun _ _ h' => h'.elim))))))
    refine wpAny_bind (wpAny_runOwn ?_)
    rw [Around.mark_none]
    refine codeAny_mono h₄ fun r s₅ h₅ => ?_
    cases r with
    | ok f => exact wpAny_pure ⟨rfl, h₅⟩
    | error e => exact h₅.elim
end
end Mine
end

section
open PySem PySem.W PyProof.Rows PySem.Calls
namespace Mine
section
variable {prog : Program} {w : World} {A : Around} {H : Heap} {Z : Gh} {env : Env}

/-- [ ... for x in rows for y in x if ...]: nothing passes the test -/
theorem ev_comp2 {elt iter : Expr} {x y : Str} {px px' py : Pos} {ifs : List Expr} {scope : Scope} {pos : Pos} {cl : List (Str × Addr)} {rows : List (List PyData)} (hh : A.handled = none) (hsrc : Run prog w A (eval iter env) H Z (Is (.list (rows.map .list)))) (hclos : closureFor scope env = pure cl)
    (htest : ∀ row ∈ rows, ∀ d ∈ row, ∀ u C H' Z' m, Kp H.get? H'.get? → Kp Z Z' → Kp Z' H'.get? → H'.Ns C m → m y = some u → Rd Z' u d → Run prog w A (compTest ifs (compEnvC scope cl C env)) H' Z' (fun _ r => r = false))
    (hrows : ∀ row ∈ rows, row.length ≤ sizeLine) (hxy : x ≠ y)
    (hcell : ∀ y ∈ scope.names, y.2 ≠ .cell := by decide) (hkind : scope.kind = .function := by rfl) (hnames : ∀ y ∈ scope.names, y.2 = .local → scope.names.lookup y.1 = some .local := by decide) (hx : scope.names.lookup x = some .local := by rfl) (hy : scope.names.lookup y = some .local := by rfl)
    (hxd : (x == ("__debug__" : Str)) = false := by decide) (hs : ∀ x, foldedSetIterable iter env x = pure x := by intro _; rfl) (hs2 : ∀ (e : Env) v, foldedSetIterable (.Name x px') e v = pure v := by intro _ _; rfl) :
    Run prog w A (eval (.ListComp elt [⟨.Name x px, iter, [], 0⟩, ⟨.Name y py, .Name x px', ifs, 0⟩] scope pos) env) H Z (Is (.list [])) := by
  intro s Z1 k1 k2 k3
  rw [eval_ListComp]
  refine wpAny_comprehension_free (use := none) rfl hs hclos hkind hnames (hsrc.cps k1 k2 k3 fun v h1 t1 Z2 e1 p1 => ?_)
  obtain ⟨ra, rvs, rfl, hra, hrv⟩ := p1.list_inv
  refine src_list (prog := prog) (w := w) (Bs := fun b => ∃ o, Z2 b = some o) hh (H := h1) (hra.mono e1.zh) (let ⟨o, e, _⟩ := hra; ⟨o, e⟩) _ _ _ .rf fun I₀ fp wr St h2 t2 W st0 k4 hwr live hfp _ => ?_
  replace k4 : Kp h1.get? h2.get? := k4
  replace hwr : ∀ b ∈ wr, h1.get? b = none := hwr
  refine wpAny_newObj_type (wpAny_newFunctionEnv hcell (by intro y hy; simp at hy) (fun h3 hns hsb => ?_) hkind)
  dsimp only at hns hsb ⊢
  generalize hH2 : h2.push { cls := .type "list", dict := none, data := .seq ([] : List Value).toArray } = H2 at hns hsb ⊢
  have hC : H2.objs.size = h2.objs.size + 1 := by rw [← hH2, Heap.size_push]
  have hDC : h2.objs.size ≠ H2.objs.size := by rw [hC]; exact Nat.ne_of_lt (Nat.lt_succ_self _)
  have below : ∀ b, b < h2.objs.size → b ≠ H2.objs.size ∧ b ≠ h2.objs.size := fun b hb => ⟨by rw [hC]; exact Nat.ne_of_lt (Nat.lt_succ_of_lt hb), Nat.ne_of_lt hb⟩
  have old : Kp h2.get? h3.get? := fun b o e => hsb.extBut b o (below b (Heap.lt_size e)).1 (Heap.get?_push_of_some _ (hH2 ▸ Heap.get?_push_of_some _ e))
  have hacc : h3.PlainList h2.objs.size ([] : List Value).toArray := ⟨_, hsb.extBut _ _ hDC (Heap.get?_push_of_some _ (hH2 ▸ Heap.get?_push_size _ rfl))⟩
  have hst3 : St 0 h3 := W.frame _ _ _ st0 fun b _ o e => old b o e
  have kz2 : Kp Z2 h2.get? := e1.zh.tr k4
  have hZD : Z2 h2.objs.size = none := gh_none_of_new kz2 (Nat.le_refl _)
  have hZC : Z2 H2.objs.size = none := gh_none_of_new kz2 (by rw [hC]; exact Nat.le_succ _)
  have hZw : ∀ b ∈ wr, Z2 b = none := fun b hb => gh_none_sub e1.zh (hwr b hb)
  have hDf : h2.objs.size ∉ fp := fun hm => by obtain ⟨o, e⟩ := live _ _ st0 _ hm; exact Nat.lt_irrefl _ (Heap.lt_size e)
  have hCf : H2.objs.size ∉ fp := fun hm => by
    obtain ⟨o, e⟩ := live _ _ st0 _ hm
    have := Heap.lt_size e; rw [hC] at this; exact Nat.lt_irrefl _ (Nat.lt_of_succ_lt this)
  have kZh : ∀ (h : Heap), (∀ b o, b ≠ H2.objs.size → b ∉ wr → b ≠ h2.objs.size → h3.get? b = some o → h.get? b = some o) → Kp Z2 h.get? := fun h hk b o e =>
    hk b o (fun q => by rw [q, hZC] at e; cases e) (fun q => by rw [hZw b q] at e; cases e) (fun q => by rw [q, hZD] at e; cases e) (old b o (kz2 b o e))
  have kHh : ∀ (h : Heap), (∀ b o, b ≠ H2.objs.size → b ∉ wr → b ≠ h2.objs.size → h3.get? b = some o → h.get? b = some o) → Kp h1.get? h.get? := fun h hk b o e => by
    have e2 := k4 b o e
    exact hk b o (below b (Heap.lt_size e2)).1 (fun q => by rw [hwr b q] at e; cases e) (below b (Heap.lt_size e2)).2 (old b o e2)
  have hkx : (compEnvC scope cl H2.objs.size env).kindOf x = some .local := lookup_relabel_local hx
  have hky : (compEnvC scope cl H2.objs.size env).kindOf y = some .local := lookup_relabel_local hy
  have hpp : ((compEnvC scope cl H2.objs.size env).scope.kind == .class || ((compEnvC scope cl H2.objs.size env).scope.kind == .module && (compEnvC scope cl H2.objs.size env).locals != (compEnvC scope cl H2.objs.size env).globals)) = false := by simp [compEnvC, relabel, hkind]
  have loop : ∀ s3 : Shared, s3 = { s with heap := h3, toks := t2 + ([] : List (Str × Value)).length } →
      codeAny (model prog w) A (.compLoop (.ListComp elt [⟨.Name x px, iter, [], 0⟩, ⟨.Name y py, .Name x px', ifs, 0⟩] scope pos) 0 (.ref I₀) (.ref h2.objs.size) (compEnvC scope cl H2.objs.size env)) (compPost (model prog w) A (fun _ _ => False) none (fun v s' => Post s Z1 (fun Z'' => Is (.list []) Z'' v) s') (.ref h2.objs.size) H2.objs.size) s3 := by
    rintro s3 rfl
    refine loop0 (fun j s' => ∃ i h' tk m', s' = { s with heap := h', toks := tk } ∧ j = rvs.length + 1 - i ∧ i ≤ rvs.length ∧ St i h' ∧ h'.PlainList h2.objs.size ([] : List Value).toArray ∧ h'.Ns H2.objs.size m' ∧
      ∀ b o, b ≠ H2.objs.size → b ∉ wr → b ≠ h2.objs.size → h3.get? b = some o → h'.get? b = some o) ?_ (rvs.length + 1) ⟨0, h3, _, _, rfl, rfl, Nat.zero_le _, hst3, hacc, hns, fun _ _ _ _ _ e => e⟩
    rintro j s' ⟨i, h', tk, m', rfl, rfl, hi, hst', hD', hN', keep⟩
    by_cases hlt : i < rvs.length
    · refine W.item i _ _ _ hlt hst' fun v h₁ tk₁ hPv hst₁ hk₁ => ?_
      replace hk₁ : ∀ b o, b ∉ wr → h'.get? b = some o → h₁.get? b = some o := hk₁
      have hCw : H2.objs.size ∉ wr := fun h => hCf (W.sub _ h)
      have hDw : h2.objs.size ∉ wr := fun h => hDf (W.sub _ h)
      refine wpAny_assign_Name (wpAny_storeName_local hkx (hN'.at' fun o e => hk₁ _ o hCw e) (fun h₂ hn₂ hs₂ => ?_) hpp)
      replace hs₂ : Heap.SameBut H2.objs.size h₁ h₂ := hs₂
      replace hn₂ : h₂.Ns H2.objs.size _ := hn₂
      have keep₂ : ∀ b o, b ≠ H2.objs.size → b ∉ wr → b ≠ h2.objs.size → h3.get? b = some o → h₂.get? b = some o := fun b o hb1 hb2 hb3 e => hs₂.extBut b o hb1 (hk₁ b o hb2 (keep b o hb1 hb2 hb3 e))
      have hst₂ : St (i + 1) h₂ := W.frame _ _ _ hst₁ fun b hb o e => hs₂.extBut b o (fun h => hCf (h ▸ hb)) e
      have hD₂ : h₂.PlainList h2.objs.size ([] : List Value).toArray := hD'.at fun o e => hs₂.extBut _ _ hDC (hk₁ _ o hDw e)
      obtain ⟨dv, hdv, rdv⟩ := hrv.get hPv
      obtain ⟨row, hrow, rfl⟩ : ∃ row, rows[i]? = some row ∧ PyData.list row = dv := by simpa [List.getElem?_map] using hdv
      have hrm : row ∈ rows := List.mem_of_getElem? hrow
      have nx : Nm (compEnvC scope cl H2.objs.size env) h₂ x v := Nm.loc hn₂ (by simp) (by simp [compEnvC, relabel, hkind]) hkx hxd
      refine nx _ _ _ _ _ _ .rf ?_
      obtain ⟨ea, evs, rfl, hea, hev⟩ := rdv.list_inv
      have kzh₂ := kZh h₂ keep₂
      refine src_list (prog := prog) (w := w) (A := A) (Bs := fun b => ∃ o, Z2 b = some o) hh (H := h₂) (hea.mono kzh₂) (let ⟨o, e, _⟩ := hea; ⟨o, e⟩) _ _ _ .rf fun I₁ fp₁ wr₁ St₁ h₃ t₃ W₁ st₁ k₃ hwr₁ live₁ hfp₁ _ => ?_
      replace k₃ : Kp h₂.get? h₃.get? := k₃
      replace hwr₁ : ∀ b ∈ wr₁, h₂.get? b = none := hwr₁
      have liveC : ∃ o, h₂.get? H2.objs.size = some o := let ⟨o, _, _, e, _⟩ := hn₂; ⟨o, e⟩
      have liveD : ∃ o, h₂.get? h2.objs.size = some o := let ⟨_, e⟩ := hD₂; ⟨_, e⟩
      have hDf₁ : h2.objs.size ∉ fp₁ := fun hm => by
        rcases hfp₁ _ hm with q | ⟨o, q⟩
        · obtain ⟨o, e⟩ := liveD; rw [hwr₁ _ q] at e; cases e
        · rw [hZD] at q; cases q
      have hCf₁ : H2.objs.size ∉ fp₁ := fun hm => by
        rcases hfp₁ _ hm with q | ⟨o, q⟩
        · obtain ⟨o, e⟩ := liveC; rw [hwr₁ _ q] at e; cases e
        · rw [hZC] at q; cases q
      have hZw₁ : ∀ b ∈ wr₁, Z2 b = none := fun b hb => gh_none_sub kzh₂ (hwr₁ b hb)
      have hrl : evs.length = row.length := hev.length
      have inner : codeAny (model prog w) A (.compLoop (.ListComp elt [⟨.Name x px, iter, [], 0⟩, ⟨.Name y py, .Name x px', ifs, 0⟩] scope pos) 1 (.ref I₁) (.ref h2.objs.size) (compEnvC scope cl H2.objs.size env)) (fun r s₅ => match r with
          | .ok _ => ∃ m, m < rvs.length + 1 - i ∧ ∃ i h' tk m', s₅ = { s with heap := h', toks := tk } ∧ m = rvs.length + 1 - i ∧ i ≤ rvs.length ∧ St i h' ∧ h'.PlainList h2.objs.size ([] : List Value).toArray ∧ h'.Ns H2.objs.size m' ∧
            ∀ b o, b ≠ H2.objs.size → b ∉ wr → b ≠ h2.objs.size → h3.get? b = some o → h'.get? b = some o
          | .error _ => False) { s with heap := h₃, toks := t₃ } := by
        refine compCore (cenv := compEnvC scope cl H2.objs.size env) (x := y) (px := py) (ifs := ifs) (elt := elt) (Z := Z2) (ys₀ := []) (fun J hJ n hn => loop1_tests J hJ n hn) W₁ live₁ hky hpp hDC hDf₁ hCf₁ (kzh₂.tr k₃) hZC hZD hZw₁ st₁ (hD₂.at fun o e => k₃ _ o e) (hn₂.keeps k₃) (fun _ _ _ ys => ys = []) (fun _ _ _ _ _ _ _ _ h => h) rfl ?_ (by rw [hrl]; simpa using hrows row hrm) ?_
        · intro k u H'' Z'' tk'' ys m'' hk hPu keep'' kz'' kzz'' hn'' hm'' hJ
          obtain ⟨d, hd, rd⟩ := hev.get hPu
          refine ⟨false, htest row hrm d (List.mem_of_getElem? hd) u _ H'' Z'' m'' ?_ ((k2.tr e1.zz).tr kz'') kzz'' hn'' hm'' (rd.mono kz''), fun _ => hJ, fun e => by cases e⟩
          refine (k1.tr e1.hp).tr fun b o e => ?_
          have e2 := kHh h₂ keep₂ b o e
          have eb := k4 b o e
          exact keep'' b o (below b (Heap.lt_size eb)).1 (fun q => by rw [hwr₁ b q] at e2; cases e2) (below b (Heap.lt_size eb)).2 (k₃ b o e2)
        · intro h5 tk5 Z5 m5 ys keep5 _ _ _ hn5 hD5 _ hJ5
          subst hJ5
          refine ⟨rvs.length + 1 - (i + 1), by omega, i + 1, h5, tk5, m5, rfl, rfl, hlt, W.frame _ _ _ hst₂ fun b hb o e => ?_, hD5, hn5, fun b o hb1 hb2 hb3 e => ?_⟩
          · exact keep5 b o (fun (q : b = H2.objs.size) => hCf (q ▸ hb)) (fun q => by rw [hwr₁ b q] at e; cases e) (fun q => hDf (q ▸ hb)) (k₃ b o e)
          · have e2 := keep₂ b o hb1 hb2 hb3 e
            exact keep5 b o hb1 (fun q => by rw [hwr₁ b q] at e2; cases e2) hb3 (k₃ b o e2)
      exact start1_list inner (W₁.self 0 _ _ _ st₁ inner)
    · obtain rfl : i = rvs.length := by omega
      refine W.done _ _ _ hst' fun h₁ tk₁ hk₁ => ?_
      replace hk₁ : ∀ b o, b ∉ wr → h'.get? b = some o → h₁.get? b = some o := hk₁
      have hCw : H2.objs.size ∉ wr := fun h => hCf (W.sub _ h)
      have hDw : h2.objs.size ∉ wr := fun h => hDf (W.sub _ h)
      have keep₁ : ∀ b o, b ≠ H2.objs.size → b ∉ wr → b ≠ h2.objs.size → h3.get? b = some o → h₁.get? b = some o := fun b o hb1 hb2 hb3 e => hk₁ b o hb2 (keep b o hb1 hb2 hb3 e)
      obtain ⟨nD, hD₁⟩ : h₁.PlainList h2.objs.size ([] : List Value).toArray := hD'.at fun o e => hk₁ _ o hDw e
      refine ⟨m', hN'.at' fun o e => hk₁ _ o hCw e, fun h6 hs6 => ?_⟩
      have oldS : ∀ b o, s.heap.get? b = some o → h2.get? b = some o := fun b o e => k4 b o (e1.hp b o e)
      have hneC : ∀ b o, h2.get? b = some o → b ≠ H2.objs.size := fun b o e => (below b (Heap.lt_size e)).1
      have ex1 : Ext s.heap Z1 h6 Z2 := ⟨fun b o e => hs6.extBut b o (hneC b o (oldS b o e)) (kHh h₁ keep₁ b o (e1.hp b o e)), e1.zz, fun b o e => hs6.extBut b o (fun q => by rw [q, hZC] at e; cases e) (kZh h₁ keep₁ b o e), e1.old⟩
      refine ⟨h6, tk₁, put Z2 h2.objs.size (lst [] nD), rfl, ⟨ex1.hp, ex1.zz.tr (kp_put hZD), fun b o e => ?_, fun b o e => ?_⟩, .list ⟨_, put_at, rfl, nD, rfl⟩ .nil⟩
      · by_cases q : b = h2.objs.size
        · subst q; rw [put_at] at e; cases e; exact hs6.extBut _ _ hDC hD₁
        · rw [put_ne q] at e; exact ex1.zh b o e
      · rw [put_ne (below b (Heap.lt_size (oldS b o e))).2]; exact ex1.old b o e
  exact codeAny_compStart_list (loop _ rfl) (W.self 0 _ _ _ hst3 (loop _ rfl))
end
end Mine
end

section
open PySem PySem.W PyProof.Rows PySem.Calls PySem.Spec
namespace Mine
section
variable {prog : Program} {w : World} {A : Around} {H : Heap} {Z : Gh} {env : Env}

theorem ev_rev {value st : Expr} {p pos : Pos} {ds : List PyData} (hv : Run prog w A (eval value env) H Z (Is (.list ds))) (hst : Run prog w A (eval st env) H Z (Is (.int (-1)))) (hsz : ds.length ≤ sizeLine) (ht : ∀ o r, letTemporaryGo value o r = pure () := by intro _ _; rfl) :
    Run prog w A (eval (.Subscript value (.Slice none none (some st) p) pos) env) H Z (Is (.list ds.reverse)) := by
  intro s Z1 k1 k2 k3
  refine wpAny_Subscript_Slice_step (T := "list") list_getitem_lookup (hv.cps k1 k2 k3 fun a h1 t1 Z2 e1 p1 => ?_) ht
  refine wpAny_Slice (evalPart_none_step (evalPart_none_step (evalPart_some_step ?_)))
  refine hst.cps (k1.tr e1.hp) (k2.tr e1.zz) e1.zh fun b h2 t2 Z3 e2 p2 => ?_
  obtain ⟨l, vs, rfl, hl, rl⟩ := p1.list_inv
  obtain ⟨u, rfl⟩ := p2.int_inv
  have hl2 : h2.IsList l vs.toArray := ((hl.mono e2.zz).mono e2.zh).isList
  refine ⟨(hl2.push _).typeIs, wpAny_getItem_list_slice (hl2.push _) (Heap.IsSliceOf.new ..) .none .none (.int _ _) (by decide) ?_ (by simpa [rl.length] using hsz)⟩
  rw [krv_pick]
  have e4 : Ext h2 Z3 (h2.push { cls := .type "slice", data := .fields #[.none, .none, .int (-1) u] }) Z3 := .keeps e2.zh fun _ _ e => Heap.get?_push_of_some _ e
  have e5 := Ext.push e4.zh (lst vs.reverse 0) rfl
  refine ⟨_, t2, _, by simp [lst], (e1.tr e2).tr (e4.tr e5), .list ⟨_, put_at, rfl, 0, rfl⟩ ?_⟩
  exact ((rl.mono e2.zz).mono e5.zz).reverse

theorem mul_any {s : Shared} {E : Value → Shared → Prop} {l : Addr} {items : Array Value} {k : Nat} {x : Int} {u : Tok} {Q : Value → Shared → Prop} (hl : s.heap.get? l = some { cls := .type "list", dict := none, data := .seq items k, slots := #[] })
    (hlo : -(2 ^ 63 : Int) ≤ x) (hhi : x < 2 ^ 63) (hsz : items.size * x.toNat ≤ 2 ^ 24)
    (h : Q (.ref s.heap.objs.size) { s with heap := s.heap.push { cls := .type "list", data := .seq (List.foldl (fun x1 x2 => x1 ++ x2) #[] (List.replicate (if items.isEmpty = true then 0 else x.toNat) items)) } }) :
    wpAny (model prog w) A (binaryOp .Mult (.ref l) (.int x u)) Q E s :=
  wpAny_binaryOp_repeat_ref (T := "list") (U := "int") (by decide) ⟨_, hl, rfl⟩ (fun s' => typeIs_int s' x u) noFill_list_mul F.fills_int_mul F.slot_int_rmul repeat_list F.slot_int_index.lookup
    (call_meets F.slot_int_rmul (typeIs_int s x u) F.entry_int_rmul (F.args_int_rmul_2 _ _) (int___rmul___int_list x u l items k)
      ⟨hl, rfl, ⟨_, hl, rfl⟩, call_meets F.slot_list_mul ⟨_, hl, rfl⟩ F.entry_list_mul (F.args_list_mul_2 _ _)
        (AutoListH.list___mul___list_int_3 l items k x u (by simp [Builtin.List.listFitsIndex]; omega) (by omega) (by simp [Builtin.List.listTooLong, sizeLine]; omega)) ⟨hl, h⟩⟩)
theorem ev_rep {l r : Expr} {pos : Pos} {v : Value} {d : PyData} {k : Nat} (hl : Run prog w A (eval l env) H Z (fun Z v' => ∃ a n, v' = .ref a ∧ Z a = some (lst [v] n))) (hr : Run prog w A (eval r env) H Z (Is (.int k))) (hd : ∀ Z, Rd Z v d) (hk : k ≤ 1000) :
    Run prog w A (eval (.BinOp l .Mult r pos) env) H Z (Is (.list (List.replicate k d))) :=
  ev_BinOp (P1 := fun Z v' => ∃ a n, v' = .ref a ∧ Z a = some (lst [v] n)) (fun _ _ _ k ⟨a, n, e, h⟩ => ⟨a, n, e, k _ _ h⟩) hl hr fun H' Z' x y _ _ kz p q => by
    obtain ⟨a, n, rfl, hz⟩ := p
    obtain ⟨u, rfl⟩ := q.int_inv
    intro s Z1 k1 k2 k3
    have hl : s.heap.get? a = some { cls := .type "list", dict := none, data := .seq #[v] n, slots := #[] } := k1 _ _ (kz _ _ hz)
    refine mul_any hl (by omega) (by omega) (by simp; omega) ?_
    have e5 := Ext.push k3 (lst (List.replicate k v) 0) rfl
    refine ⟨_, s.toks, _, ?_, e5, .list ⟨_, put_at, rfl, 0, rfl⟩ ?_⟩
    · rw [listMul_foldl]
      simp [lst, lm_rep_flat_one]
    · refine RdAll.of_get (by simp) fun i v' d' e1 e2 => ?_
      rw [List.getElem?_replicate] at e1 e2
      split at e1
      · cases e1
        rename_i hlt
        rw [if_pos hlt] at e2; cases e2
        exact hd _
      · cases e1

theorem ev_tupleOf {p pos : Pos} {e : Expr} {ds : List PyData} (n : Nm env H "tuple" (.type "tuple")) (h : Run prog w A (eval e env) H Z (Is (.list ds))) (hsz : ds.length ≤ sizeLine)
    (he : starEach [e] env = (false, eval e env) :: starEach [] env := by rfl) (hev : eval (.Call (.Name "tuple" p) [e] [] pos) env = (do callWith pos (← eval (.Name "tuple" p) env) [] (backTo pos (starEach [e] env)) (backToKw pos (keywordEach [] env))) := by rfl) :
    Run prog w A (eval (.Call (.Name "tuple" p) [e] [] pos) env) H Z (Is (.tuple ds)) :=
  ev_callT n (items_consV (mono_is _) h items_nilV he) (fun H' Z' us _ _ kz p => by
    obtain ⟨v, us, rfl, rv, rfl⟩ := p
    obtain ⟨a, vs, rfl, hl, rl⟩ := rv.list_inv
    refine (Run.newT (vs := vs) (I := Alls ds) (fun s Q E k q => call_tuple_list ((hl.mono kz).mono k).isList (fun h' hk => q h' s.toks hk) (by simpa [rl.length] using hsz)) (mono_alls _) rl).conseq fun _ _ _ p => p.is) he rfl hev
end
end Mine
end

section
open PySem PySem.W PyProof.Rows PySem.Calls
namespace Mine

/-- ints whose tokens lie below n and tell their numbers -/
def TkL (n : Nat) (ys : List Value) (xs : List Int) : Prop := ∃ κ : Tok → Int, ys.length = xs.length ∧ ∀ i u, ys[i]? = some u → ∃ t : Nat, u = .int (xs.getD i 0) t ∧ t ≠ 0 ∧ t < n ∧ κ t = xs.getD i 0
theorem TkL.nil (n : Nat) : TkL n [] [] := ⟨fun _ => 0, rfl, fun i u e => by simp at e⟩
theorem TkL.mono {n n' : Nat} {ys : List Value} {xs : List Int} (h : TkL n ys xs) (k : n ≤ n') : TkL n' ys xs := by
  obtain ⟨κ, hl, h⟩ := h
  exact ⟨κ, hl, fun i u e => let ⟨t, a, b, c, d⟩ := h i u e; ⟨t, a, b, Nat.lt_of_lt_of_le c k, d⟩⟩
theorem TkL.snoc {n n' t : Nat} {ys : List Value} {xs : List Int} {x : Int} (h : TkL n ys xs) (h1 : n ≤ t) (h2 : t ≠ 0) (h3 : t < n') : TkL n' (ys ++ [.int x t]) (xs ++ [x]) := by
  obtain ⟨κ, hl, h⟩ := h
  refine ⟨fun t' => if t' = t then x else κ t', by simp [hl], fun i u e => ?_⟩
  by_cases hi : i < ys.length
  · rw [List.getElem?_append_left hi] at e
    obtain ⟨t', a, b, c, d⟩ := h i u e
    have hx : (xs ++ [x]).getD i 0 = xs.getD i 0 := by
      simp [List.getD_eq_getElem?_getD, List.getElem?_append_left (show i < xs.length by omega)]
    rw [hx]
    refine ⟨t', a, b, by omega, ?_⟩
    show (if t' = t then x else κ t') = _
    rw [if_neg (by omega)]; exact d
  · have hi' : i = ys.length := by
      rcases Nat.lt_or_ge i (ys.length + 1) with q | q
      · omega
      · rw [List.getElem?_eq_none (by simp; omega)] at e; cases e
    subst hi'
    rw [List.getElem?_append_right (Nat.le_refl _)] at e
    simp at e
    have hx : (xs ++ [x]).getD ys.length 0 = x := by rw [hl]; simp
    rw [hx]
    exact ⟨t, e.symm, h2, h3, by simp⟩
theorem TkL.rd {n : Nat} {ys : List Value} {xs : List Int} {Z : Gh} (h : TkL n ys xs) : RdAll Z ys (nums xs) := by
  obtain ⟨κ, hl, h⟩ := h
  refine RdAll.of_get (by simp [hl]) fun i v d e1 e2 => ?_
  obtain ⟨t, rfl, _⟩ := h i v e1
  have hi : i < xs.length := by
    rcases Nat.lt_or_ge i xs.length with q | q
    · exact q
    · rw [List.getElem?_eq_none (by rw [hl]; exact q)] at e1; cases e1
  rw [nums_get hi] at e2
  cases e2
  exact .int ..

section
variable {prog : Program} {w : World} {A : Around} {H : Heap} {Z : Gh} {env : Env}

/-- as comp_any, with a floor for the tokens -/
theorem ev_compN {elt iter : Expr} {x : Str} {px : Pos} {ifs : List Expr} {scope : Scope} {pos : Pos} {cl : List (Str × Addr)} {s : Shared} {Z1 : Gh} {n0 n : Nat} {P : Nat → Value → Prop} {J : Nat → Gh → Nat → List Value → Prop} {Q : Value → Shared → Prop} {E : Value → Shared → Prop}
    (hclos : closureFor scope env = pure cl) (hcell : ∀ y ∈ scope.names, y.2 ≠ .cell) (hkind : scope.kind = .function) (hnames : ∀ y ∈ scope.names, y.2 = .local → scope.names.lookup y.1 = some .local) (hx : scope.names.lookup x = some .local)
    (hs : ∀ x, foldedSetIterable iter env x = pure x) (hn : n ≤ sizeLine) (mJ : ∀ k Z Z' n n' ys, Kp Z Z' → n ≤ n' → J k Z n ys → J k Z' n' ys) (h0 : ∀ Z tk, n0 ≤ tk → J 0 Z tk [])
    (hsrc : ∀ (Q : Value → Shared → Prop) (E : Value → Shared → Prop), (∀ v h1 t1 Z2, Ext s.heap Z1 h1 Z2 → n0 ≤ t1 → Src prog w A v h1 n P → Q v { s with heap := h1, toks := t1 }) → wpAny (model prog w) A (eval iter env) Q E s)
    (turn : ∀ k u C H' Z' tk ys m, k < n → P k u → Kp s.heap.get? H'.get? → Kp Z1 Z' → Kp Z' H'.get? → H'.Ns C m → m x = some u → J k Z' tk ys →
      ∃ b, Run prog w A (compTest ifs (compEnvC scope cl C env)) H' Z' (fun _ r => r = b) ∧ (b = false → J (k + 1) Z' tk ys) ∧ (b = true → RunK prog w A (eval elt (compEnvC scope cl C env)) H' Z' tk fun Z'' tk' y => J (k + 1) Z'' tk' (ys ++ [y])))
    (K : ∀ h' tk Z' D ys, n0 ≤ tk → Ext s.heap Z1 h' Z' → IsL h'.get? D ys → s.heap.get? D = none → Z' D = none → J n Z' tk ys → Q (.ref D) { s with heap := h', toks := tk }) :
    wpAny (model prog w) A (eval (.ListComp elt [⟨.Name x px, iter, ifs, 0⟩] scope pos) env) Q E s := by
  rw [eval_ListComp]
  refine wpAny_comprehension_free (use := none) rfl hs hclos hkind hnames (hsrc _ _ fun v h1 t1 Z2 e1 ht1 hS => ?_)
  refine wpAny_with_toks (n := n0) ht1 (hS _ _ _ .rf fun I₀ fp wr St h2 t2 W st0 k4 hwr live _ _ => fun ht2 => ?_)
  replace k4 : Kp h1.get? h2.get? := k4
  replace hwr : ∀ b ∈ wr, h1.get? b = none := hwr
  replace ht2 : n0 ≤ t2 := ht2
  refine wpAny_newObj_type (wpAny_newFunctionEnv hcell (by intro y hy; simp at hy) (fun h3 hns hsb => ?_) hkind)
  dsimp only at hns hsb ⊢
  generalize hH2 : h2.push { cls := .type "list", dict := none, data := .seq ([] : List Value).toArray } = H2 at hns hsb ⊢
  have hC : H2.objs.size = h2.objs.size + 1 := by rw [← hH2, Heap.size_push]
  have hDC : h2.objs.size ≠ H2.objs.size := by rw [hC]; exact Nat.ne_of_lt (Nat.lt_succ_self _)
  have below : ∀ b, b < h2.objs.size → b ≠ H2.objs.size ∧ b ≠ h2.objs.size := fun b hb => ⟨by rw [hC]; exact Nat.ne_of_lt (Nat.lt_succ_of_lt hb), Nat.ne_of_lt hb⟩
  have old : Kp h2.get? h3.get? := fun b o e => hsb.extBut b o (below b (Heap.lt_size e)).1 (Heap.get?_push_of_some _ (hH2 ▸ Heap.get?_push_of_some _ e))
  have hacc : h3.PlainList h2.objs.size ([] : List Value).toArray := ⟨_, hsb.extBut _ _ hDC (Heap.get?_push_of_some _ (hH2 ▸ Heap.get?_push_size _ rfl))⟩
  have hst3 : St 0 h3 := W.frame _ _ _ st0 fun b _ o e => old b o e
  have kz2 : Kp Z2 h2.get? := e1.zh.tr k4
  have hZD : Z2 h2.objs.size = none := gh_none_of_new kz2 (Nat.le_refl _)
  have hZC : Z2 H2.objs.size = none := gh_none_of_new kz2 (by rw [hC]; exact Nat.le_succ _)
  have hZw : ∀ b ∈ wr, Z2 b = none := fun b hb => gh_none_sub e1.zh (hwr b hb)
  have hDf : h2.objs.size ∉ fp := fun hm => by obtain ⟨o, e⟩ := live _ _ st0 _ hm; exact Nat.lt_irrefl _ (Heap.lt_size e)
  have hCf : H2.objs.size ∉ fp := fun hm => by
    obtain ⟨o, e⟩ := live _ _ st0 _ hm
    have := Heap.lt_size e; rw [hC] at this; exact Nat.lt_irrefl _ (Nat.lt_of_succ_lt this)
  have loop : ∀ s3 : Shared, s3 = { s with heap := h3, toks := t2 + ([] : List (Str × Value)).length } →
      codeAny (model prog w) A (.compLoop (.ListComp elt [⟨.Name x px, iter, ifs, 0⟩] scope pos) 0 (.ref I₀) (.ref h2.objs.size) (compEnvC scope cl H2.objs.size env)) (compPost (model prog w) A E none Q (.ref h2.objs.size) H2.objs.size) s3 := by
    rintro s3 rfl
    refine codeAny_mono (codeAny_toks_of (n := n0) (R := fun r s' => n0 ≤ s'.toks → compPost (model prog w) A E none Q (.ref h2.objs.size) H2.objs.size r s') (by simpa using ht2) ?_) fun r s' h => h.2 h.1
    refine compCore (cenv := compEnvC scope cl H2.objs.size env) (x := x) (px := px) (ifs := ifs) (elt := elt) (ys₀ := []) (fun J hJ n hn => codeAny_compLoop_tests J hJ n hn) W live (lookup_relabel_local hx) (by simp [compEnvC, relabel, hkind]) hDC hDf hCf (kz2.tr old) hZC hZD hZw hst3 hacc hns J mJ (h0 _ _ (by simpa using ht2)) ?_ (by simpa using hn) ?_
    · intro k u H' Z' tk ys m' hk hP keep kz kz' hn' hm hJ
      refine turn k u H2.objs.size H' Z' tk ys m' hk hP (fun b o e => ?_) (e1.zz.tr kz) kz' hn' hm hJ
      have hb := k4 b o (e1.hp b o e)
      exact keep b o (below b (Heap.lt_size hb)).1 (fun q => by have := e1.hp b o e; rw [hwr b q] at this; cases this) (below b (Heap.lt_size hb)).2 (old b o hb)
    · intro h' tk Z' m' ys keep kz kz' hold hn' hD' _ hJ htk
      obtain ⟨nD, hD'⟩ := hD'
      have liveD : ∃ o, h3.get? h2.objs.size = some o := let ⟨_, e⟩ := hacc; ⟨_, e⟩
      have liveC : ∃ o, h3.get? H2.objs.size = some o := let ⟨o, _, _, e, _⟩ := hns; ⟨o, e⟩
      obtain ⟨oD, liveD⟩ := liveD
      obtain ⟨oC, liveC⟩ := liveC
      have zD : Z' h2.objs.size = none := (hold _ _ liveD).trans hZD
      have zC : Z' H2.objs.size = none := (hold _ _ liveC).trans hZC
      have oldS : ∀ b o, s.heap.get? b = some o → h2.get? b = some o := fun b o e => k4 b o (e1.hp b o e)
      have up : Kp s.heap.get? h'.get? := fun b o e => keep b o (below b (Heap.lt_size (oldS b o e))).1 (fun q => by have := e1.hp b o e; rw [hwr b q] at this; cases this) (below b (Heap.lt_size (oldS b o e))).2 (old b o (oldS b o e))
      refine ⟨m', hn', fun h6 hs6 => K h6 tk Z' h2.objs.size ys htk ⟨fun b o e => hs6.extBut b o (below b (Heap.lt_size (oldS b o e))).1 (up b o e), e1.zz.tr kz, fun b o e => hs6.extBut b o (fun (q : b = H2.objs.size) => by rw [q, zC] at e; cases e) (kz' b o e), fun b o e => (hold b o (old b o (oldS b o e))).trans (e1.old b o e)⟩ ⟨_, hs6.extBut _ _ hDC hD', rfl, nD, rfl⟩ ?_ zD hJ⟩
      exact none_of_new (s := { s with heap := h2 }) oldS (Nat.le_refl _)
  exact codeAny_compStart_list (loop _ rfl) (W.self 0 _ _ _ hst3 (loop _ rfl))
end
end Mine
end

section
open PySem PySem.W PyProof.Rows PySem.Calls
namespace Mine
section
variable {prog : Program} {w : World} {A : Around} {s : Shared} {mg mb : Str → Option Value}

theorem Nm.use {env : Env} {H : Heap} {x : Str} {v : Value} {M : Model} {Q : Value → Shared → Prop} {E : Value → Shared → Prop} {pos : Pos} (n : Nm env H x v) (k : Kp H.get? s.heap.get?) (q : Q v s) : wpAny M A (eval (.Name x pos) env) Q E s := n _ _ _ _ _ _ k q

theorem get_getD {l : List Int} {k : Nat} (h : k < l.length) : l[k]? = some (l.getD k 0) := by simp [h]
def m5 (ns : List Int) : List Int := (ns.take 9).map fun x : Int => x.fmod 5
def lets (ns : List Int) : List Int := m5 ns ++ [1, 4, 1, 0]
def frsh (xs : List Int) : List Int := ((List.range xs.length).filter fun i => !((xs.take i).contains (xs.getD i 0))).map fun i => xs.getD i 0
def lst' (xs : List Int) : List Int := ((List.range xs.length).filter fun i => !((xs.drop (i + 1)).contains (xs.getD i 0))).map fun i => xs.getD i 0

/-- all that must hold of the letters -/
structure Plain (xs : List Int) : Prop where
  due : ∀ k, k < xs.length → ansRow xs k = dueRow xs k
  oth : ∀ k, k < xs.length → dq xs k = oth xs k
  last : dd xs.reverse = (lst' xs).reverse
  read : rdAll [] (frsh xs) ((List.range xs.length).map fun k => ix (prf xs k) (xs.getD k 0)) = some xs

theorem lets_small (ns : List Int) : ∀ i, i < (lets ns).length → 0 ≤ (lets ns).getD i 0 ∧ (lets ns).getD i 0 < 5 := fun i hi => by
  have hm : (lets ns).getD i 0 ∈ lets ns := List.mem_of_getElem? (get_getD hi)
  generalize (lets ns).getD i 0 = x at hm
  unfold lets m5 at hm
  rcases List.mem_append.mp hm with hm | hm
  · obtain ⟨y, _, rfl⟩ := List.mem_map.mp hm
    exact ⟨Int.fmod_nonneg_of_pos _ (by decide), Int.fmod_lt_of_pos _ (by decide)⟩
  · simp at hm; omega

theorem if_no {S₀ : List Addr} {env : Env} {s₀ s : Shared} {Z₀ Z : Gh} {ρ : Str → Option Value} {M : List (Addr × (Obj → Prop))} {c : Expr} {body rest : List Stmt} {pos : Pos} {Q : Flow → Shared → Prop} {E : Value → Shared → Prop} (X : St S₀ env s₀ Z₀ Z s ρ M) (hc : Tst prog w A env c s.heap Z false)
    (k : ∀ s' Z', St S₀ env s₀ Z₀ Z' s' ρ M → Kp Z Z' → wpAny (model prog w) A (execs rest env) Q E s') : wpAny (model prog w) A (execs (.If c body [] pos :: rest) env) Q E s :=
  wpAny_execs_cons (wpAny_If (X.ev (P := fun _ b => b = false) hc fun b s' Z' X' kz _ hb => by
    subst hb
    simp only [Bool.false_eq_true, if_false]
    exact wpAny_execs_nil (k s' Z' X' kz)))

theorem sh_ansRow (xs : List Int) (k : Nat) : ∀ d ∈ ansRow xs k, Sh 0 d := fun d hd => by
  unfold ansRow at hd
  simp only [List.mem_cons, List.not_mem_nil, or_false] at hd
  rcases hd with rfl | rfl | rfl | rfl | rfl | rfl | rfl | rfl | rfl
  · exact sh_plc _ 0
  · exact sh_plc _ 0
  · exact sh_plc _ 0
  · exact sh_int _ 0
  · exact sh_int _ 0
  · exact sh_int _ 0
  · exact sh_bool _ 0
  · exact sh_bool _ 0
  · exact sh_bool _ 0
theorem sh_ans (xs : List Int) : Sh 2 (.list ((List.range xs.length).map fun k => PyData.list (ansRow xs k))) := sh_list fun d hd => by
  obtain ⟨k, _, rfl⟩ := List.mem_map.mp hd
  exact sh_list (sh_ansRow xs k)
theorem due_eq {xs : List Int} (hP : Plain xs) : ((List.range xs.length).map fun k => PyData.list (ansRow xs k)) = (List.range xs.length).map fun k => PyData.list (dueRow xs k) :=
  List.map_congr_left fun k hk => by rw [hP.due k (List.mem_range.mp hk)]
theorem sh_due (xs : List Int) (hP : Plain xs) : Sh 2 (.list ((List.range xs.length).map fun k => PyData.list (dueRow xs k))) := due_eq hP ▸ sh_ans xs

theorem sca_ans {xs : List Int} {k : Nat} {d : PyData} (hd : d ∈ ansRow xs k) : sca d = true := by
  unfold ansRow at hd
  simp only [List.mem_cons, List.not_mem_nil, or_false] at hd
  have hp : ∀ o, sca (plc o) = true := fun o => by cases o <;> rfl
  rcases hd with rfl | rfl | rfl | rfl | rfl | rfl | rfl | rfl | rfl <;> first | exact hp _ | rfl
theorem isb_eq (xs : List Int) : ((List.range xs.length).map fun k => PyData.list ((ansRow xs k).map fun d => PyData.bool (isB d))) = xs.map fun _ => PyData.list (List.replicate 6 (.bool false) ++ List.replicate 3 (.bool true)) := by
  have hp : ∀ o, isB (plc o) = false := fun o => by cases o <;> rfl
  have e : ∀ k, (ansRow xs k).map (fun d => PyData.bool (isB d)) = List.replicate 6 (.bool false) ++ List.replicate 3 (.bool true) := fun k => by
    unfold ansRow
    simp only [List.map_cons, List.map_nil, hp]
    rfl
  rw [List.map_congr_left fun k _ => by rw [e k]]
  refine List.ext_getElem (by simp) fun i h1 h2 => ?_
  simp
theorem sh_rows9 (xs : List Int) : Sh 2 (.list (xs.map fun _ => PyData.list (List.replicate 6 (.bool false) ++ List.replicate 3 (.bool true)))) := sh_list fun d hd => by
  obtain ⟨_, _, rfl⟩ := List.mem_map.mp hd
  refine sh_list fun d hd => ?_
  rcases List.mem_append.mp hd with h | h
  · rw [List.eq_of_mem_replicate h]; exact sh_bool _ 0
  · rw [List.eq_of_mem_replicate h]; exact sh_bool _ 0

theorem ans_test {xs : List Int} {k : Nat} {d : PyData} (hd : d ∈ ansRow xs k) : ((!PyData.eqv d (.str "new")) && !(isI d)) = false := by
  unfold ansRow at hd
  simp only [List.mem_cons, List.not_mem_nil, or_false] at hd
  have hp : ∀ o, ((!PyData.eqv (plc o) (.str "new")) && !(isI (plc o))) = false := fun o => by
    rw [eqv_plc]
    cases o <;> rfl
  rcases hd with rfl | rfl | rfl | rfl | rfl | rfl | rfl | rfl | rfl <;> first | exact hp _ | simp [isI]

theorem law_rest2 {f L : Addr} {cd : Value} {s₀ s : Shared} {Z : Gh} {ρ : Str → Option Value} {m : Nat} {xs : List Int} {lv ov fv tv av wv : Value} (hf : Fn 13 f s₀.heap) (G : Gd mg mb s₀.heap) (hA : A.frames = some []) (hh : A.handled = none) (hu : A.units < 500) (hroom : A.depth + 10 < recursionLimit) (hlen : xs.length ≤ 13)
    (S : St [] (fenv 13 L f cd) s₀ s₀.heap.get? Z s ρ []) (hP : Plain xs) (rL : Rd Z lv (.list (nums xs))) (rO : Rd Z ov (.list ((List.range xs.length).map fun i => PyData.list (nums (oth xs i))))) (rF : Rd Z fv (.list (nums (frsh xs)))) (rT : Rd Z tv (.list (nums (lst' xs))))
    (rA : Rd Z av (askD xs m)) (hm : m ≤ xs.length) (rW : Rd Z wv (.list ((List.range xs.length).map fun k => PyData.list (ansRow xs k)))) (hL : ρ "letters" = some lv) (hO : ρ "others" = some ov) (hF : ρ "fresh" = some fv) (hT : ρ "last" = some tv) (hAs : ρ "asked" = some av) (hW : ρ "answers" = some wv) :
    wpAny (model prog w) (A.deeper (fenv 13 L f cd)) (execs ((bodyOf (stm 13)).drop 6) (fenv 13 L f cd)) (fun fl s' => (match fl with | .ret v => v | _ => .none) = .bool true ∧ ∃ h' tk, s' = { s₀ with heap := h', toks := tk } ∧ Kp s₀.heap.get? h'.get?) (fun _ _ => False) s := by
  have hsL : 1000 ≤ sizeLine := by decide
  have hunits : (A.deeper (fenv 13 L f cd)).units + 64 < cLine := by
    rw [Around.deeper_units]; unfold cLine; omega
  have hr2 : (A.deeper (fenv 13 L f cd)).depth + 8 < recursionLimit := show A.depth + 1 + 8 < recursionLimit by omega
  have hu2 : (A.deeper (fenv 13 L f cd)).units < 1000 := by rw [Around.deeper_units]; omega
  have G1 := G.keeps S.kb
  -- if answers != _law_due(letters)
  obtain ⟨fd, hmd, hfd⟩ := G1.fn 10 (by decide)
  refine if_no S (tst_cmp ((ev_ne (db := .list ((List.range xs.length).map fun k => PyData.list (dueRow xs k))) (ev_name_is (S.nmL hW) rW) (ev_callF (k := 10) (Nm.glob G1.g hmd) hfd (items_consV (P := fun _ v => v = lv) (fun _ _ _ _ e => e) (ev_name (S.nmC hL) fun _ _ => rfl) items_nilV) ?_) (sh_ans xs).shaped (sh_due xs hP).shaped hunits).conseq fun _ _ _ p => ?_)) fun s2 Z2 S2 kz2 => ?_
  · rintro H4 Z4 us p1 p2 p3 ⟨_, _, rfl, rfl, rfl⟩
    exact due_run (G1.keeps p1) (hfd.mono p1) (by omega) hh hu2 (rL.mono p2) (by omega)
  · rw [due_eq hP, SeqAt.eqv_refl _ (sh_due xs hP).1] at p; exact p
  have G2 := G.keeps S2.kb
  have rW2 := rW.mono kz2
  have rL2 := rL.mono kz2
  have bl2 : ∀ {x : Str}, x ∈ (["hasattr", "enumerate", "ValueError", "isinstance", "int", "len", "range", "bool", "tuple"] : List Str) → mg x = none ∧ mb x = bootBuiltins x := fun {x} h => G2.blt x h
  -- if [[isinstance(one, bool) for one in row] for row in answers] != [[False] * 6 + [True] * 3 for letter in letters]
  refine if_no S2 (tst_cmp ((ev_ne (da := .list ((List.range xs.length).map fun k => PyData.list ((ansRow xs k).map fun d => PyData.bool (isB d)))) (db := .list (xs.map fun _ => PyData.list (List.replicate 6 (.bool false) ++ List.replicate 3 (.bool true))))
    ((ev_comp (I := Alls ((List.range xs.length).map fun k => PyData.list ((ansRow xs k).map fun d => PyData.bool (isB d)))) (mono_alls _) (ev_name_is (S2.nmL hW) rW2) rfl ?_).conseq fun _ _ _ p => p.is)
    ((ev_comp (I := Alls (xs.map fun _ => PyData.list (List.replicate 6 (.bool false) ++ List.replicate 3 (.bool true)))) (mono_alls _) (ev_name_is (S2.nmC hL) rL2) rfl ?_).conseq fun _ _ _ p => p.is) ?_ ?_ hunits).conseq fun _ _ _ p => ?_)) fun s3 Z3 S3 kz3 => ?_
  · intro u H' Z' q1 q2 q3 hr
    refine compBody_data' (List.range xs.length) (fun k => PyData.list (ansRow xs k)) (fun _ => true) (fun k => PyData.list ((ansRow xs k).map fun d => PyData.bool (isB d))) (congrArg _ (List.filter_eq_self.mpr fun _ _ => rfl)) (by simp; omega) (srcD_list hh q3 hr) (fun _ _ _ _ _ _ _ _ _ _ _ _ _ _ => test_nil) ?_
    intro i j hj hp u C H'' Z3' m q1' q2' q3' hn hm ru
    refine (ev_comp (I := Alls ((ansRow xs j).map fun d => PyData.bool (isB d))) (mono_alls _) (ev_name_is (Nm.loc hn hm) ru) rfl ?_).conseq fun _ _ _ p => p.is
    intro u2 H3 Z3 r1 r2 r3 hr2'
    refine compBody_data' (ansRow xs j) (fun d => d) (fun _ => true) (fun d => PyData.bool (isB d)) (congrArg _ (List.filter_eq_self.mpr fun _ _ => rfl)) (by simp [ansRow]; omega) (by simpa using srcD_list (A := A.deeper (fenv 13 L f cd)) hh r3 hr2') (fun _ _ _ _ _ _ _ _ _ _ _ _ _ _ => test_nil) ?_
    intro i2 d hd _ u3 C3 H4 Z4 m3 p1 p2 p3 hn3 hm3 ru3
    have G'' := ((G2.keeps q1).keeps q1').keeps (r1.tr p1)
    exact ev_isBool (sca_ans (List.mem_of_getElem? hd)) (Nm.blt G''.g (bl2 (x := "isinstance") (by decide)).1 G''.b ((bl2 (x := "isinstance") (by decide)).2.trans boot_isinstance)) (Nm.blt G''.g (bl2 (x := "bool") (by decide)).1 G''.b ((bl2 (x := "bool") (by decide)).2.trans boot_bool)) (ev_name_is (Nm.loc hn3 hm3) ru3)
  · intro u H' Z' q1 q2 q3 hr
    refine compBody_data' xs (fun x => PyData.int x) (fun _ => true) (fun _ => PyData.list (List.replicate 6 (.bool false) ++ List.replicate 3 (.bool true))) (congrArg _ (List.filter_eq_self.mpr fun _ _ => rfl)) (by omega) (srcD_list hh q3 hr) (fun _ _ _ _ _ _ _ _ _ _ _ _ _ _ => test_nil) ?_
    intro i j hj hp u C H'' Z3' m q1' q2' q3' hn hm ru
    have one : ∀ {b : Bool} {c0 : Nat} {p1 p2 : Pos} {e : Env}, Run prog w (A.deeper (fenv 13 L f cd)) (eval (.List [.Constant (.bool b) c0 p1] p2) e) H'' Z3' (fun Z v' => ∃ a n, v' = .ref a ∧ Z a = some (lst [.bool b] n)) := fun {b c0 p1 p2 e} =>
      (ev_List (I := fun _ vs => vs = [.bool b]) (fun _ _ _ _ e => e) ((items_consV (P := fun _ v => v = .bool b) (fun _ _ _ _ e => e) (Run.same (fun _ _ _ _ q => wpAny_Constant_bool q) fun _ _ => rfl) items_nilV).conseq fun _ _ _ ⟨_, _, e, e1, e2⟩ => by rw [e, e1, e2]) fun _ vs e => by rw [e]; exact show 1 ≤ sizeLine by decide).conseq fun _ _ _ ⟨a, vs, n, e, _, hz, hv⟩ => ⟨a, n, e, hv ▸ hz⟩
    exact ev_laddI (ev_rep (k := 6) one ev_int (fun _ => .bool _) (by decide)) (ev_rep (k := 3) one ev_int (fun _ => .bool _) (by decide)) (by decide)
  · exact (isb_eq xs ▸ sh_rows9 xs).shaped
  · exact (sh_rows9 xs).shaped
  · rw [isb_eq xs, SeqAt.eqv_refl _ (sh_rows9 xs).1] at p; exact p
  have G3 := G.keeps S3.kb
  have rW3 := rW2.mono kz3
  -- if [one for row in answers for one in row if one != 'new' and not isinstance(one, int)] != []
  refine if_no S3 (tst_cmp ((ev_ne (da := .list []) (db := .list []) (ev_comp2 (A := A.deeper (fenv 13 L f cd)) (rows := (List.range xs.length).map fun k => ansRow xs k) hh (ev_name_is (S3.nmL hW) (by rw [List.map_map]; exact rW3)) rfl (fun row hrow d hd u C H' Z' m q1 q2 q3 hn hm ru => ?_) (fun row hrow => ?_) (by decide)) (ev_list items_nil) rfl rfl hunits).conseq fun _ _ _ p => p)) fun s4 Z4 S4 kz4 => ?_
  · obtain ⟨k, _, rfl⟩ := List.mem_map.mp hrow
    have G'' := G3.keeps q1
    have hsc := sca_ans hd
    have e : ((!PyData.eqv d (.str "new")) && !(isI d)) = false := ans_test hd
    refine test_one (e ▸ tst_and (tst_cmp (ev_ne (ev_name_is (Nm.loc hn hm) ru) ev_str (sh_ansRow xs k d hd).shaped (sh_new 0).shaped hunits)) fun _ => tst_not (tst_value (ev_isInt hsc (Nm.blt G''.g (bl2 (x := "isinstance") (by decide)).1 G''.b ((bl2 (x := "isinstance") (by decide)).2.trans boot_isinstance)) (Nm.blt G''.g (bl2 (x := "int") (by decide)).1 G''.b ((bl2 (x := "int") (by decide)).2.trans boot_int)) (ev_name_is (Nm.loc hn hm) ru))))
  · obtain ⟨k, _, rfl⟩ := List.mem_map.mp hrow
    exact show 9 ≤ sizeLine by decide
  have G4 := G.keeps S4.kb
  have rL4 := rL2.mono (kz3.tr kz4)
  have rA4 := rA.mono (kz2.tr (kz3.tr kz4))
  have shT : Sh 2 (.tuple (xs.reverse.map thg)) := sh_tuple fun d hd => by obtain ⟨x, _, rfl⟩ := List.mem_map.mp hd; exact sh_thg x 0
  -- if asked[1] != tuple([[letter] for letter in letters[::-1]])
  refine if_no S4 (tst_cmp ((ev_ne (da := .tuple (xs.reverse.map thg)) (db := .tuple (xs.reverse.map thg)) (ev_item (k := 1) (ev_name_is (S4.nmL hAs) rA4) ev_int (by decide) (by decide) rfl) (ev_tupleOf (G4.nmB boot_tuple) ((ev_comp (I := Alls (xs.reverse.map thg)) (mono_alls _) (ev_rev (ev_name_is (S4.nmC hL) rL4) (ev_neg ev_int) (by simp; omega)) rfl ?_).conseq fun _ _ _ p => p.is) (by simp; omega)) shT.shaped shT.shaped hunits).conseq fun _ _ _ p => ?_)) fun s5 Z5 S5 kz5 => ?_
  · intro u H' Z' q1 q2 q3 hr
    refine compBody_data' xs.reverse (fun x => PyData.int x) (fun _ => true) thg (congrArg _ (List.filter_eq_self.mpr fun _ _ => rfl)) (by simp; omega) (by simpa [nums] using srcD_list (A := A.deeper (fenv 13 L f cd)) hh q3 hr) (fun _ _ _ _ _ _ _ _ _ _ _ _ _ _ => test_nil) ?_
    intro i j hj hp u C H'' Z3' m q1' q2' q3' hn hm ru
    exact ev_list (items_cons (ev_name_is (Nm.loc hn hm) ru) items_nil)
  · rw [SeqAt.eqv_refl _ shT.1] at p; exact p
  have rA5 := rA4.mono kz5
  have hTT : PyData.eqv tt tt = true := by decide
  have shTT : Sh 1 tt := sh_list fun d hd => by
    simp only [List.mem_cons, List.not_mem_nil, or_false, or_self] at hd
    rw [hd]; exact sh_bool _ 0
  -- if [row for row in asked[2] if row != [True, True]] != []
  refine if_no S5 (tst_cmp ((ev_ne (da := .list []) (db := .list []) ((ev_comp (I := Alls []) (mono_alls _) (ev_item (k := 2) (d := .list (List.replicate m tt)) (ev_name_is (S5.nmL hAs) rA5) ev_int (by decide) (by decide) rfl) rfl ?_).conseq fun _ _ _ p => p.is) (ev_list items_nil) rfl rfl hunits).conseq fun _ _ _ p => p)) fun s6 Z6 S6 kz6 => ?_
  · intro u H' Z' q1 q2 q3 hr
    refine compBody_data' (List.replicate m tt) (fun d => d) (fun d => !PyData.eqv d tt) (fun d => d) ?_ (by simp; omega) (by simpa using srcD_list (A := A.deeper (fenv 13 L f cd)) hh q3 hr) ?_ ?_
    · rw [List.filter_eq_nil_iff.mpr fun d hd => by rw [List.eq_of_mem_replicate hd, hTT]; decide]; rfl
    · intro i d hd u C H'' Z3' m q1' q2' q3' hn hm ru
      have hd' : d = tt := List.eq_of_mem_replicate (List.mem_of_getElem? hd)
      subst hd'
      exact test_one (tst_cmp (ev_ne (ev_name_is (Nm.loc hn hm) ru) (ev_list (items_cons ev_bool (items_cons ev_bool items_nil))) shTT.shaped shTT.shaped hunits))
    · intro i d hd hp
      have hd' : d = tt := List.eq_of_mem_replicate (List.mem_of_getElem? hd)
      rw [hd', hTT] at hp; cases hp
  have rA6 := rA5.mono kz6
  have kz16 := kz2.tr (kz3.tr (kz4.tr (kz5.tr kz6)))
  have rO6 := rO.mono kz16
  have rL6 := rL.mono kz16
  have hoth : ((List.range xs.length).map fun k => PyData.list (nums (dq xs k))) = (List.range xs.length).map fun k => PyData.list (nums (oth xs k)) := List.map_congr_left fun k hk => by rw [hP.oth k (List.mem_range.mp hk)]
  have shO : Sh 2 (.list ((List.range xs.length).map fun k => PyData.list (nums (oth xs k)))) := sh_list fun d hd => by obtain ⟨k, _, rfl⟩ := List.mem_map.mp hd; exact sh_nums _ 0
  -- if asked[3] != others
  refine if_no S6 (tst_cmp ((ev_ne (da := .list ((List.range xs.length).map fun k => PyData.list (nums (dq xs k)))) (ev_item (k := 3) (ev_name_is (S6.nmL hAs) rA6) ev_int (by decide) (by decide) rfl) (ev_name_is (S6.nmC hO) rO6) (hoth ▸ shO).shaped shO.shaped hunits).conseq fun _ _ _ p => ?_)) fun s7 Z7 S7 kz7 => ?_
  · rw [hoth, SeqAt.eqv_refl _ shO.1] at p; exact p
  have G7 := G.keeps S7.kb
  have rL7 := rL6.mono kz7
  have rO7 := rO6.mono kz7
  have nL7 : Nm (fenv 13 L f cd) s7.heap "letters" lv := S7.nmC hL
  have cL7 := S7.cellAt (x := "letters") (c := L + 1) hL
  have cO7 := S7.cellAt (x := "others") (c := L + 2) hO
  have othlen : ∀ k, k < xs.length → (oth xs k).length ≤ 100 := fun k hk => by
    unfold oth
    rw [List.length_map]
    exact Nat.le_trans (List.length_filter_le _ _) (by simp; omega)
  -- given = [ ... ]
  refine wpAny_execs_cons (assign_comp (I := Alls ((List.range xs.length).map (givRow xs))) (mono_alls _) S7 stoL (ev_range1 (G7.nmB boot_range) (ev_len (G7.nmB boot_len) (ev_name_is nL7 rL7) (by simp; omega))) rfl ?_ fun gv s8 Z8 S8 kz8 nw8 => ?_)
  · intro u H' Z' q1 q2 q3 hr
    refine compBody_data' (List.range xs.length) (fun j : Nat => PyData.int j) (fun _ => true) (givRow xs) (congrArg _ (List.filter_eq_self.mpr fun _ _ => rfl)) (by simp; omega) (srcD_up hh q3 (by simpa using hr) (by omega)) (fun _ _ _ _ _ _ _ _ _ _ _ _ _ _ => test_nil) ?_
    intro i j hj hp u C H'' Z3' m q1' q2' q3' hn hm ru
    have hjk : j < xs.length := List.mem_range.mp (List.mem_of_getElem? hj)
    rw [givRow, hP.oth j hjk]
    refine ev_list (items_cons (ev_list (items_cons (ev_list (items_cons (ev_item (ev_name_is (Nm.cell rfl ((cL7.keeps q1).keeps q1')) ((rL7.mono q2).mono q2')) (ev_name_is (Nm.loc hn hm) ru) (by omega) (by omega) (nums_getI hjk)) items_nil)) items_nil)) (items_cons ((ev_comp (I := Alls ((oth xs j).map thg)) (mono_alls _) (ev_item (k := j) (d := .list (nums (oth xs j))) (ev_name_is (Nm.cell rfl ((cO7.keeps q1).keeps q1')) ((rO7.mono q2).mono q2')) (ev_name_is (Nm.loc hn hm) ru) (by omega) (by omega) (by simp [hjk])) rfl ?_).conseq fun _ _ _ p => p.is) items_nil))
    intro u2 H3 Z3 r1 r2 r3 hr2'
    refine compBody_data' (oth xs j) (fun x => PyData.int x) (fun _ => true) thg (congrArg _ (List.filter_eq_self.mpr fun _ _ => rfl)) (Nat.le_trans (othlen j hjk) (by omega)) (srcD_list hh r3 hr2') (fun _ _ _ _ _ _ _ _ _ _ _ _ _ _ => test_nil) ?_
    intro i2 d hd _ u3 C3 H4 Z4 m3 p1 p2 p3 hn3 hm3 ru3
    exact ev_list (items_cons (ev_name_is (Nm.loc hn3 hm3) ru3) items_nil)
  have rG8 : Rd Z8 gv (.list ((List.range xs.length).map (givRow xs))) := nw8.is
  have rA8 := rA6.mono (kz7.tr kz8)
  have rT8 := rT.mono (kz16.tr (kz7.tr kz8))
  have hlastl : (lst' xs).length ≤ 13 := by
    unfold lst'; rw [List.length_map]; exact Nat.le_trans (List.length_filter_le _ _) (by simpa using hlen)
  have shG : Sh 4 (.list ((List.range xs.length).map (givRow xs) ++ [.list ((lst' xs).reverse.map thg)])) := sh_list fun d hd => by
    have shl : ∀ q : List Int, Sh 2 (.list (q.map thg)) := fun q => sh_list fun d hd => by obtain ⟨x, _, rfl⟩ := List.mem_map.mp hd; exact sh_thg x 0
    rcases List.mem_append.mp hd with h | h
    · obtain ⟨k, _, rfl⟩ := List.mem_map.mp h
      refine sh_list fun d hd => ?_
      simp only [List.mem_cons, List.not_mem_nil, or_false] at hd
      rcases hd with rfl | rfl
      · exact sh_list fun d hd => by rw [List.mem_singleton.mp hd]; exact sh_thg _ 0
      · exact shl _
    · rw [List.mem_singleton.mp h]; exact (shl _).mono (by decide)
  -- if asked[4] != given + [[[letter] for letter in last[::-1]]]
  refine if_no S8 (tst_cmp ((ev_ne (da := .list ((List.range xs.length).map (givRow xs) ++ [.list ((dd xs.reverse).map thg)])) (db := .list ((List.range xs.length).map (givRow xs) ++ [.list ((lst' xs).reverse.map thg)])) (ev_item (k := 4) (ev_name_is (S8.nmL (by rw [upd_ne (by decide)]; exact hAs)) rA8) ev_int (by decide) (by decide) rfl)
    (ev_laddI (ev_name_is (S8.nmL (x := "given") upd_at) rG8) (ev_list (items_cons ((ev_comp (I := Alls ((lst' xs).reverse.map thg)) (mono_alls _) (ev_rev (ev_name_is (S8.nmL (by rw [upd_ne (by decide)]; exact hT)) rT8) (ev_neg ev_int) (by simp; omega)) rfl ?_).conseq fun _ _ _ p => p.is) items_nil)) (by simp; omega)) (by rw [hP.last]; exact shG.shaped) shG.shaped hunits).conseq fun _ _ _ p => ?_)) fun s9 Z9 S9 kz9 => ?_
  · intro u H' Z' q1 q2 q3 hr
    refine compBody_data' (lst' xs).reverse (fun x => PyData.int x) (fun _ => true) thg (congrArg _ (List.filter_eq_self.mpr fun _ _ => rfl)) (by simp; omega) (by simpa [nums] using srcD_list (A := A.deeper (fenv 13 L f cd)) hh q3 hr) (fun _ _ _ _ _ _ _ _ _ _ _ _ _ _ => test_nil) ?_
    intro i j hj hp u C H'' Z3' m q1' q2' q3' hn hm ru
    exact ev_list (items_cons (ev_name_is (Nm.loc hn hm) ru) items_nil)
  · rw [hP.last, SeqAt.eqv_refl _ shG.1] at p; exact p
  have G9 := G.keeps S9.kb
  obtain ⟨fr, hmr, hfr⟩ := G9.fn 12 (by decide)
  have kz19 := kz16.tr (kz7.tr (kz8.tr kz9))
  have rW9 := rW.mono kz19
  have hfl : (frsh xs).length ≤ 100 := by
    unfold frsh; rw [List.length_map]; exact Nat.le_trans (List.length_filter_le _ _) (by simp; omega)
  -- return _law_read([row[0] for row in answers], fresh) == letters
  refine wpAny_execs_cons (wpAny_Return_some (S9.ev (P := Is (.bool true)) ((ev_eq (da := .list (nums xs)) (db := .list (nums xs)) (ev_callF (k := 12) (Nm.glob G9.g hmr) hfr (items_consV (mono_is (.list (((List.range xs.length).map fun k => ix (prf xs k) (xs.getD k 0)).map plc))) ((ev_comp (I := Alls (((List.range xs.length).map fun k => ix (prf xs k) (xs.getD k 0)).map plc)) (mono_alls _) (ev_name_is (S9.nmL (by rw [upd_ne (by decide)]; exact hW)) rW9) rfl ?_).conseq fun _ _ _ p => p.is) (items_consV (mono_is (.list (nums (frsh xs)))) (ev_name_is (S9.nmL (by rw [upd_ne (by decide)]; exact hF)) (rF.mono kz19)) items_nilV)) ?_) (ev_name_is (S9.nmC (by rw [upd_ne (by decide)]; exact hL)) (rL.mono kz19)) (sh_nums xs 0).shaped (sh_nums xs 0).shaped hunits).conseq fun _ _ _ p => ?_) fun v s10 Z10 S10 _ _ r10 => ?_))
  · intro u H' Z' q1 q2 q3 hr
    refine compBody_data' (List.range xs.length) (fun k => PyData.list (ansRow xs k)) (fun _ => true) (fun k => plc (ix (prf xs k) (xs.getD k 0))) (by rw [List.filter_eq_self.mpr fun _ _ => rfl, List.map_map]; rfl) (by simp; omega) (srcD_list hh q3 hr) (fun _ _ _ _ _ _ _ _ _ _ _ _ _ _ => test_nil) ?_
    intro i j hj hp u C H'' Z3' m q1' q2' q3' hn hm ru
    exact ev_item (k := 0) (ev_name_is (Nm.loc hn hm) ru) ev_int (by decide) (by decide) rfl
  · rintro H4 Z4 us p1 p2 p3 ⟨_, _, rfl, r1, _, _, rfl, r2, rfl⟩
    exact read_run (G9.keeps p1) (hfr.mono p1) (by omega) hh hu2 r1 r2 (by simp; omega) hfl hP.read
  · rw [SeqAt.eqv_refl _ (sh_nums xs 0).1] at p; exact p
  · obtain ⟨h', tk, rfl⟩ := S10.same
    exact ⟨r10.bool_inv, h', tk, rfl, S10.kb⟩

end
end Mine
end

section
open PySem PySem.W PyProof.Rows PySem.Calls
namespace Mine
section
variable {prog : Program} {w : World} {A : Around} {s : Shared} {mg mb : Str → Option Value}

theorem law_rest {f la L : Addr} {cd : Value} {s₀ s : Shared} {Z : Gh} {ρ : Str → Option Value} {n : Nat} {lvs : List Value} {xs : List Int} (hf : Fn 13 f s₀.heap) (G : Gd mg mb s₀.heap) (hA : A.frames = some []) (hh : A.handled = none) (hu : A.units < 500) (hroom : A.depth + 10 < recursionLimit) (hT : TkL n lvs xs) (hl : IsL Z la lvs) (hlen : xs.length ≤ 13) (h5 : ∀ i, i < xs.length → 0 ≤ xs.getD i 0 ∧ xs.getD i 0 < 5)
    (S : St [] (fenv 13 L f cd) s₀ s₀.heap.get? Z s ρ []) (hρ : ρ "letters" = some (.ref la)) (hP : Plain xs) :
    wpAny (model prog w) (A.deeper (fenv 13 L f cd)) (execs ((bodyOf (stm 13)).drop 1) (fenv 13 L f cd)) (fun fl s' => (match fl with | .ret v => v | _ => .none) = .bool true ∧ ∃ h' tk, s' = { s₀ with heap := h', toks := tk } ∧ Kp s₀.heap.get? h'.get?) (fun _ _ => False) s := by
  have hsL : 1000 ≤ sizeLine := by decide
  have hunits : (A.deeper (fenv 13 L f cd)).units + 64 < cLine := by
    rw [Around.deeper_units]; unfold cLine; omega
  have rL : Rd Z (.ref la) (.list (nums xs)) := .list hl hT.rd
  have G1 := G.keeps S.kb
  have nr1 : Nm (fenv 13 L f cd) s.heap "range" (.type "range") := G1.nmB boot_range
  have nl1 : Nm (fenv 13 L f cd) s.heap "len" (.builtin "len") := G1.nmB boot_len
  have nL1 : Nm (fenv 13 L f cd) s.heap "letters" (.ref la) := S.nmC hρ
  have c1 := S.cellAt (x := "letters") (c := L + 1) hρ
  -- fresh = [ ... ]
  refine wpAny_execs_cons (assign_comp (I := Alls (nums (frsh xs))) (mono_alls _) S stoL (ev_range1 nr1 (ev_len nl1 (ev_name_is nL1 rL) (by simp; omega))) rfl ?_ fun fv s2 Z2 S2 kz2 nw2 => ?_)
  · intro u H' Z' q1 q2 q3 hr
    refine compBody_data' (List.range xs.length) (fun j : Nat => PyData.int j) (fun i => !((xs.take i).contains (xs.getD i 0))) (fun i => .int (xs.getD i 0)) (by simp [nums, frsh]) (by simp; omega) (srcD_up hh q3 (by simpa using hr) (by omega)) ?_ ?_
    · intro i j hj u C H'' Z3' m q1' q2' q3' hn hm ru
      have hjk : j < xs.length := List.mem_range.mp (List.mem_of_getElem? hj)
      have cL := (c1.keeps q1).keeps q1'
      have rL' := (rL.mono q2).mono q2'
      refine test_one (tst_cmp ?_)
      refine (ev_notIn (d := .int (xs.getD j 0)) (xs := nums (xs.take j)) (ev_item (ev_name_is (Nm.cell rfl cL) rL') (ev_name_is (Nm.loc hn hm) ru) (by omega) (by omega) (nums_getI hjk)) ?_ (nums_canLay _) rfl (by simp only [PyData.depth]; omega)).conseq fun _ _ _ p => ?_
      · refine (ev_upto (ds := nums xs) (b := j) (ev_name_is (Nm.cell rfl cL) rL') (ev_name_is (Nm.loc hn hm) ru) (by omega) (by simp; omega)).conseq fun _ _ _ p => ?_
        simpa [nums, List.map_take] using p
      · rw [nums_any] at p; exact p
    · intro i j hj hp u C H'' Z3' m q1' q2' q3' hn hm ru
      have hjk : j < xs.length := List.mem_range.mp (List.mem_of_getElem? hj)
      exact ev_item (ev_name_is (Nm.cell rfl ((c1.keeps q1).keeps q1')) ((rL.mono q2).mono q2')) (ev_name_is (Nm.loc hn hm) ru) (by omega) (by omega) (nums_getI hjk)
  have rF2 : Rd Z2 fv (.list (nums (frsh xs))) := nw2.is
  have rL2 := rL.mono kz2
  have G2 := G.keeps S2.kb
  have nr2 : Nm (fenv 13 L f cd) s2.heap "range" (.type "range") := G2.nmB boot_range
  have nl2 : Nm (fenv 13 L f cd) s2.heap "len" (.builtin "len") := G2.nmB boot_len
  have nL2 : Nm (fenv 13 L f cd) s2.heap "letters" (.ref la) := S2.nmC (by rw [upd_ne (by decide)]; exact hρ)
  have c2 := S2.cellAt (x := "letters") (c := L + 1) (by rw [upd_ne (by decide)]; exact hρ)
  -- last = [ ... ]
  refine wpAny_execs_cons (assign_comp (I := Alls (nums (lst' xs))) (mono_alls _) S2 stoL (ev_range1 nr2 (ev_len nl2 (ev_name_is nL2 rL2) (by simp; omega))) rfl ?_ fun tv s3 Z3 S3 kz3 nw3 => ?_)
  · intro u H' Z' q1 q2 q3 hr
    refine compBody_data' (List.range xs.length) (fun j : Nat => PyData.int j) (fun i => !((xs.drop (i + 1)).contains (xs.getD i 0))) (fun i => .int (xs.getD i 0)) (by simp [nums, lst']) (by simp; omega) (srcD_up hh q3 (by simpa using hr) (by omega)) ?_ ?_
    · intro i j hj u C H'' Z3' m q1' q2' q3' hn hm ru
      have hjk : j < xs.length := List.mem_range.mp (List.mem_of_getElem? hj)
      have cL := (c2.keeps q1).keeps q1'
      have rL' := (rL2.mono q2).mono q2'
      refine test_one (tst_cmp ?_)
      refine (ev_notIn (d := .int (xs.getD j 0)) (xs := nums (xs.drop (j + 1))) (ev_item (ev_name_is (Nm.cell rfl cL) rL') (ev_name_is (Nm.loc hn hm) ru) (by omega) (by omega) (nums_getI hjk)) ?_ (nums_canLay _) rfl (by simp only [PyData.depth]; omega)).conseq fun _ _ _ p => ?_
      · refine (ev_from (ds := nums xs) (a := (j : Int) + 1) (ev_name_is (Nm.cell rfl cL) rL') (ev_add (ev_name_is (Nm.loc hn hm) ru) ev_int) (by omega) (by simp; omega)).conseq fun _ _ _ p => ?_
        rw [show ((j : Int) + 1).toNat = j + 1 by omega] at p
        simpa [nums, List.map_drop] using p
      · rw [nums_any] at p; exact p
    · intro i j hj hp u C H'' Z3' m q1' q2' q3' hn hm ru
      have hjk : j < xs.length := List.mem_range.mp (List.mem_of_getElem? hj)
      exact ev_item (ev_name_is (Nm.cell rfl ((c2.keeps q1).keeps q1')) ((rL2.mono q2).mono q2')) (ev_name_is (Nm.loc hn hm) ru) (by omega) (by omega) (nums_getI hjk)
  have rT3 : Rd Z3 tv (.list (nums (lst' xs))) := nw3.is
  have rL3 := rL2.mono kz3
  have G3 := G.keeps S3.kb
  have nr3 : Nm (fenv 13 L f cd) s3.heap "range" (.type "range") := G3.nmB boot_range
  have nl3 : Nm (fenv 13 L f cd) s3.heap "len" (.builtin "len") := G3.nmB boot_len
  have nL3 : Nm (fenv 13 L f cd) s3.heap "letters" (.ref la) := S3.nmC (by rw [upd_ne (by decide), upd_ne (by decide)]; exact hρ)
  have c3 := S3.cellAt (x := "letters") (c := L + 1) (by rw [upd_ne (by decide), upd_ne (by decide)]; exact hρ)
  have hr2 : (A.deeper (fenv 13 L f cd)).depth + 8 < recursionLimit := show A.depth + 1 + 8 < recursionLimit by omega
  have hu2 : (A.deeper (fenv 13 L f cd)).units < 1000 := by rw [Around.deeper_units]; omega
  obtain ⟨fo, hmo, hfo⟩ := G3.fn 11 (by decide)
  -- others = [ ... ]
  refine wpAny_execs_cons (assign_x (P := Is (.list ((List.range xs.length).map fun i => PyData.list (nums (oth xs i))))) S3 stoC ((ev_comp (I := Alls ((List.range xs.length).map fun i => PyData.list (nums (oth xs i)))) (mono_alls _) (ev_range1 nr3 (ev_len nl3 (ev_name_is nL3 rL3) (by simp; omega))) rfl ?_).conseq fun _ _ _ p => p.is) fun ov s4 Z4 S4 kz4 rO4 => ?_)
  · intro u H' Z' q1 q2 q3 hr
    refine compBody_data' (List.range xs.length) (fun j : Nat => PyData.int j) (fun _ => true) (fun i => PyData.list (nums (oth xs i))) (congrArg _ (List.filter_eq_self.mpr fun _ _ => rfl)) (by simp; omega) (srcD_up hh q3 (by simpa using hr) (by omega)) (fun _ _ _ _ _ _ _ _ _ _ _ _ _ _ => test_nil) ?_
    intro i j hj hp u C H'' Z3' m q1' q2' q3' hn hm ru
    have hjk : j < xs.length := List.mem_range.mp (List.mem_of_getElem? hj)
    have G'' := (G3.keeps q1).keeps q1'
    refine ev_callF (k := 11) (Nm.glob G''.g hmo) ((hfo.mono q1).mono q1') (items_consV (P := fun _ v => v = .ref la) (fun _ _ _ _ e => e) (ev_name (Nm.cell rfl ((c3.keeps q1).keeps q1')) fun _ _ => rfl) (items_consV (mono_is (.int j)) (ev_name_is (Nm.loc hn hm) ru) items_nilV)) ?_
    rintro H4 Z4 us p1 p2 p3 ⟨_, _, rfl, rfl, _, _, rfl, ri, rfl⟩
    obtain ⟨ti, rfl⟩ := ri.int_inv
    exact others_run (G''.keeps p1) (((hfo.mono q1).mono q1').mono p1) (by omega) hh hu2 (((rL3.mono q2).mono q2').mono p2) hjk (by omega)
  have hρ4 : ∀ (y : Str) v', y ≠ "fresh" → y ≠ "last" → y ≠ "others" → ρ y = some v' → upd (upd (upd ρ "fresh" fv) "last" tv) "others" ov y = some v' := fun y v' h1 h2 h3 e => by rw [upd_ne h3, upd_ne h2, upd_ne h1]; exact e
  have G4 := G.keeps S4.kb
  obtain ⟨fa, hma, hfa⟩ := G4.fn 9 (by decide)
  have nas : Nm (fenv 13 L f cd) s4.heap "_law_asked" (.ref fa) := Nm.glob G4.g hma
  obtain ⟨oa, pma, cda, doca, hoa, hda, hcra⟩ := id hfa
  obtain ⟨κ, hκl, hκ⟩ := hT
  have hns4 : ∃ m, s4.heap.Ns L m := let ⟨m, hn, _⟩ := S4.ns; ⟨m, hn⟩
  obtain ⟨m4, hns4⟩ := hns4
  have frl4 : FrLive s4.heap [fenv 13 L f cd] := FrLive.cons (fun _ h => by cases h) rfl hns4 (by intro q; cases q)
  -- asked = _law_asked(letters)
  have nL4 : Nm (fenv 13 L f cd) s4.heap "letters" (.ref la) := S4.nmC (hρ4 _ _ (by decide) (by decide) (by decide) hρ)
  refine wpAny_execs_cons (wpAny_Assign_Name (Call_ (Nm.use nas .rf (callWith_def hda (wpAny_items_cons (Nm.use nL4 .rf (wpAny_items_nil ⟨hoa, ?_⟩)))))))
  refine asked_run (κ := κ) (Z := Z4) (xs := xs) G4 hfa (by omega) hh hu2 (Around.frames_deeper hA) frl4 S4.keepZ (fun b hb => ?_) (hl.mono (kz2.tr (kz3.tr kz4))) hκl (fun i u hi => ?_) h5 (by omega) fun av h5' tk5 Z5 m ex5 hm5 rA5 => ?_
  · obtain ⟨ev, hev, hfe⟩ := List.mem_filterMap.mp hb
    rw [List.mem_singleton.mp hev] at hfe
    have hb' : L = b := Option.some.inj hfe
    subst hb'; exact S4.offL.2
  · obtain ⟨t, rfl, h1, _, h3⟩ := hκ i u hi
    simp [isTk, h1, h3]
  have S5 := S4.extF (tk := tk5) ex5 (fun b hb => by
    obtain ⟨ev, hev, hfe⟩ := List.mem_filterMap.mp hb
    rw [List.mem_singleton.mp hev] at hfe
    exact .inl (Option.some.inj hfe).symm)
  refine S5.storeL fun s6 S6 => ?_
  dsimp only
  have rL6 : Rd Z5 (.ref la) (.list (nums xs)) := (rL3.mono kz4).mono ex5.zz
  have rO6 := rO4.mono ex5.zz
  have rF6 : Rd Z5 fv (.list (nums (frsh xs))) := rF2.mono (kz3.tr (kz4.tr ex5.zz))
  have rT6 : Rd Z5 tv (.list (nums (lst' xs))) := rT3.mono (kz4.tr ex5.zz)
  have hρ6 : ∀ (y : Str) v', y ≠ "asked" → upd (upd (upd ρ "fresh" fv) "last" tv) "others" ov y = some v' → upd (upd (upd (upd ρ "fresh" fv) "last" tv) "others" ov) "asked" av y = some v' := fun y v' h1 e => by rw [upd_ne h1]; exact e
  -- answers = asked[0]
  refine wpAny_execs_cons (assign_x (P := Is (.list ((List.range xs.length).map fun k => PyData.list (ansRow xs k)))) S6 stoL (ev_item (k := 0) (ev_name_is (S6.nmL (x := "asked") upd_at) rA5) ev_int (by decide) (by decide) rfl) fun wv s7 Z7 S7 kz7 rW7 => ?_)
  refine law_rest2 hf G hA hh hu hroom hlen S7 hP (rL6.mono kz7) (rO6.mono kz7) (rF6.mono kz7) (rT6.mono kz7) (rA5.mono kz7) hm5 rW7 ?_ ?_ ?_ ?_ ?_ ?_
  · rw [upd_ne (by decide)]; exact hρ6 _ _ (by decide) (hρ4 _ _ (by decide) (by decide) (by decide) hρ)
  · rw [upd_ne (by decide)]; exact hρ6 _ _ (by decide) upd_at
  · rw [upd_ne (by decide)]; exact hρ6 _ _ (by decide) (by rw [upd_ne (by decide), upd_ne (by decide), upd_at])
  · rw [upd_ne (by decide)]; exact hρ6 _ _ (by decide) (by rw [upd_ne (by decide), upd_at])
  · rw [upd_ne (by decide), upd_at]
  · exact upd_at

theorem law_run {f la : Addr} {vs : List Value} {ns : List Int} (G : Gd mg mb s.heap) (hf : Fn 13 f s.heap) (hA : A.frames = some []) (hh : A.handled = none) (hu : A.units < 500) (hroom : A.depth + 10 < recursionLimit)
    (hl : IsL s.heap.get? la vs) (hI : RdAll (fun _ => none) vs (nums ns)) (hlen : ns.length ≤ 63) (hP : Plain (lets ns)) :
    wpAny (model prog w) A (call (.ref f) [.ref la]) (fun v s' => v = .bool true ∧ ∃ h' tk, s' = { s with heap := h', toks := tk } ∧ Kp s.heap.get? h'.get?) (fun _ _ => False) s := by
  refine wpAny_call (enter (S₀ := []) (Z := s.heap.get?) (binds := [("script", .ref la)]) hf G.nolimit (by omega) .rf (fun b hb => by cases hb) (fun L cd s₁ hL S => ?_) (fun _ _ _ => rfl) (kindsX rfl))
  have hsL : 1000 ≤ sizeLine := by decide
  have hunits : (A.deeper (fenv 13 L f cd)).units + 64 < cLine := by
    rw [Around.deeper_units]; unfold cLine; omega
  have hr1 : (A.deeper (fenv 13 L f cd)).depth + 8 < recursionLimit := show A.depth + 1 + 8 < recursionLimit by omega
  have kNone : ∀ {Y : Gh}, Kp (fun _ => none) Y := fun {_} _ _ e => by cases e
  have nsc : Nm (fenv 13 L f cd) s₁.heap "script" (.ref la) := S.nmL rfl
  have hvl : vs.length = ns.length := by simpa using hI.length
  -- letters = [x % 5 for x in script[:9]] + [1, 4, 1, 0]
  refine wpAny_execs_cons (wpAny_Assign_Name (wpAny_BinOp (ev_compN (Z1 := s.heap.get?) (n0 := 1) (n := (ns.take 9).length) (P := fun i u => (vs.take 9)[i]? = some u) (J := fun k _ tk ys => TkL tk ys ((m5 ns).take k)) rfl (by decide) rfl (by decide) rfl (fun _ => rfl) (by simp; omega) (fun k Z Z' n n' ys _ hn h => h.mono hn) (fun Z tk _ => by simpa using TkL.nil tk) ?_ ?_ ?_)))
  · intro Q E h
    refine wpAny_Subscript_list_slice (nsc _ _ _ _ _ _ .rf (evalPart_none_step (evalPart_some_step (wpAny_Constant_int ⟨la, vs.toArray, none, some 9, rfl, ((hl.mono S.kb).isList), by simp; omega, .none, .int _ _, ?_⟩))))
    have hpick : slicePick vs.toArray none (some 9) none = (vs.take 9).toArray := by
      have := slicePick_upto' vs.toArray 9
      simpa using this
    rw [hpick]
    have e4 : Ext s₁.heap s.heap.get? (s₁.heap.push { cls := .type "slice", data := .fields #[.none, .int 9 s₁.toks, .none] }) s.heap.get? := .keeps S.kb fun _ _ e => Heap.get?_push_of_some _ e
    have e5 := Ext.push e4.zh (lst (vs.take 9) 0) rfl
    rw [Heap.size_push] at e5
    refine h _ _ (s₁.toks + 1) _ (e4.tr e5) (by omega) ?_
    have hsl := src_list (prog := prog) (w := w) (A := A.deeper (fenv 13 L f cd)) (Bs := fun _ => True) hh (a := s₁.heap.objs.size + 1) (vs := vs.take 9) (H := (s₁.heap.push { cls := .type "slice", data := .fields #[.none, .int 9 s₁.toks, .none] }).push (lst (vs.take 9) 0)) ⟨_, e5.zh _ _ put_at, rfl, 0, rfl⟩ trivial
    simpa [hvl] using hsl
  · intro k u C H' Z' tk ys m hk hu q1 q2 q3 hn hm hJ
    refine ⟨true, test_nil, (fun e => by cases e), fun _ => ?_⟩
    obtain ⟨d, hd, rd⟩ := (hI.take 9).get hu
    have hk' : k < (ns.take 9).length := hk
    have hd' : d = .int ((ns.take 9).getD k 0) := by
      rw [← List.map_take] at hd
      have := nums_get (xs := ns.take 9) hk'
      rw [nums] at this
      rw [this] at hd; exact (Option.some.inj hd).symm
    subst hd'
    obtain ⟨t, rfl⟩ := rd.int_inv
    intro s' Z'' k1 k2 k3 htk
    refine wpAny_BinOp (Nm.use (Nm.loc hn hm) k1 (wpAny_Constant_int (mod_int (by decide) ?_)))
    refine ⟨s'.heap, s'.toks + 1 + 1, Z'', rfl, .rf k3, ?_⟩
    have hx : (m5 ns)[k]? = some (((ns.take 9).getD k 0).fmod 5) := by
      have hg : (ns.take 9)[k]? = some ((ns.take 9).getD k 0) := get_getD hk'
      unfold m5
      rw [List.getElem?_map, hg]; rfl
    rw [take_succ_of_get hx]
    exact hJ.snoc (t := s'.toks + 1) (by omega) (by omega) (by omega)
  · intro h1 tk Z1 D ys htk ex hD hD0 hZD hJ
    rw [List.take_of_length_le (by simp [m5])] at hJ
    refine wpAny_List (wpAny_items_cons (wpAny_Constant_int (wpAny_items_cons (wpAny_Constant_int (wpAny_items_cons (wpAny_Constant_int (wpAny_items_cons (wpAny_Constant_int (wpAny_items_nil ⟨show 4 ≤ sizeLine by decide, ?_⟩)))))))))
    have e5 := Ext.push ex.zh (lst [.int 1 tk, .int 4 (tk + 1), .int 1 (tk + 1 + 1), .int 0 (tk + 1 + 1 + 1)] 0) rfl
    have hT : TkL (tk + 4) (ys ++ [.int 1 tk, .int 4 (tk + 1), .int 1 (tk + 1 + 1), .int 0 (tk + 1 + 1 + 1)]) (lets ns) := by
      have h1 := hJ.snoc (x := 1) (t := tk) (n' := tk + 1) (Nat.le_refl _) (by omega) (by omega)
      have h2 := h1.snoc (x := 4) (t := tk + 1) (n' := tk + 2) (Nat.le_refl _) (by omega) (by omega)
      have h3 := h2.snoc (x := 1) (t := tk + 2) (n' := tk + 3) (Nat.le_refl _) (by omega) (by omega)
      have h4 := h3.snoc (x := 0) (t := tk + 3) (n' := tk + 4) (Nat.le_refl _) (by omega) (by omega)
      simpa [lets] using h4
    have hyl : ys.length ≤ 9 := by
      obtain ⟨_, hl, _⟩ := hJ
      rw [hl]; simp [m5]; omega
    refine add_lists_at (vs := ys) (ws := [.int 1 tk, .int 4 (tk + 1), .int 1 (tk + 1 + 1), .int 0 (tk + 1 + 1 + 1)]) ((hD.mono e5.hp).isList) ⟨_, Heap.get?_push_size _ rfl, rfl, 0, rfl⟩ ?_ (by simp; omega)
    have e6 := Ext.push e5.zh (lst (ys ++ [.int 1 tk, .int 4 (tk + 1), .int 1 (tk + 1 + 1), .int 0 (tk + 1 + 1 + 1)]) 0) rfl
    generalize hlvs : ys ++ [Value.int 1 tk, .int 4 (tk + 1), .int 1 (tk + 1 + 1), .int 0 (tk + 1 + 1 + 1)] = lvs at e6 hT
    have S2 := S.ext (tk := tk + 1 + 1 + 1 + 1) (ex.tr (e5.tr e6))
    refine (show wpAny _ _ (storeName (fenv 13 L f cd) "letters" _) _ _ _ from S2.storeC fun s3 S3 => ?_)
    have hLl : IsL (put (put Z1 h1.objs.size (lst [.int 1 tk, .int 4 (tk + 1), .int 1 (tk + 1 + 1), .int 0 (tk + 1 + 1 + 1)] 0)) (h1.push (lst [.int 1 tk, .int 4 (tk + 1), .int 1 (tk + 1 + 1), .int 0 (tk + 1 + 1 + 1)] 0)).objs.size (lst lvs 0)) (h1.push (lst [.int 1 tk, .int 4 (tk + 1), .int 1 (tk + 1 + 1), .int 0 (tk + 1 + 1 + 1)] 0)).objs.size lvs := ⟨_, put_at, rfl, 0, rfl⟩
    refine wpAny_mono (law_rest hf G hA hh hu hroom hT hLl (by simp [lets, m5]; omega) (lets_small ns) S3 rfl hP) (fun fl s' h => h) fun _ _ h => h.elim
end
end Mine
end

section
namespace Mine
open PySem PyProof.Rows

theorem eq_map_range (q : List Int) : (List.range q.length).map (fun i => q.getD i 0) = q := by
  refine List.ext_getElem (by simp) fun i h1 h2 => ?_
  simp at h1
  simp [h1]
theorem take_eq_map {xs : List Int} {k : Nat} (hk : k ≤ xs.length) : (List.range k).map (fun i => xs.getD i 0) = xs.take k := by
  refine List.ext_getElem (by simp [hk]) fun i h1 h2 => ?_
  simp at h1
  have : i < xs.length := by omega
  simp [this]
theorem cnt_countP (p : Nat → Bool) : ∀ n, cnt p n = ((List.range n).countP p : Int)
  | 0 => rfl
  | n + 1 => by
    rw [cnt, cnt_countP p n, List.range_succ, List.countP_append, List.countP_singleton]
    split <;> simp_all
theorem cn_count (q : List Int) (x : Int) : cn q x = (q.count x : Int) := by
  have h : (List.range q.length).countP (fun j => q.getD j 0 == x) = q.countP (· == x) := by
    conv => rhs; rw [← eq_map_range q]
    rw [List.countP_map]; rfl
  rw [cn, cnt_countP, h]; rfl
theorem earl_length {xs : List Int} {k : Nat} (hk : k ≤ xs.length) : (earl xs k).length = (xs.take k).count (xs.getD k 0) := by
  unfold earl
  rw [← List.countP_eq_length_filter, ← take_eq_map hk, List.count, List.countP_map]; rfl

/-- first occurrences -/
def fo (q : List Int) : List Int := ((List.range q.length).filter fun i => !((q.take i).contains (q.getD i 0))).map fun i => q.getD i 0
theorem fo_cons (x : Int) (q : List Int) : fo (x :: q) = x :: (fo q).filter (fun y => y != x) := by
  unfold fo
  rw [List.length_cons, List.range_succ_eq_map, List.filter_cons_of_pos (by simp), List.map_cons, List.filter_map, List.map_map, List.filter_map, List.filter_filter]
  congr 1
  congr 1
  apply List.filter_congr
  intro i _
  simp only [Function.comp_apply, List.take_succ_cons, List.contains_cons, List.getD_cons_succ, Bool.not_or, bne]
theorem fo_dd (q : List Int) : fo q = dd q := by
  induction q with
  | nil => rfl
  | cons x q ih => rw [fo_cons, ih, dd]
theorem frsh_dd (xs : List Int) : frsh xs = dd xs := fo_dd xs

theorem dd_snoc (q : List Int) (x : Int) : dd (q ++ [x]) = dd q ++ (if x ∈ q then [] else [x]) := by
  induction q with
  | nil => simp [dd]
  | cons y q ih =>
    rw [List.cons_append, dd, ih, dd, List.filter_append, List.cons_append]
    by_cases h1 : x ∈ q
    · simp [h1]
    · by_cases h2 : x = y
      · simp [h1, h2]
      · simp [h1, h2]
theorem lst_cons (x : Int) (t : List Int) : lst' (x :: t) = (if x ∈ t then [] else [x]) ++ lst' t := by
  unfold lst'
  rw [List.length_cons, List.range_succ_eq_map, List.filter_cons]
  have e : ((List.range t.length).map Nat.succ |>.filter fun i => !((List.drop (i + 1) (x :: t)).contains ((x :: t).getD i 0))).map (fun i => (x :: t).getD i 0) = ((List.range t.length).filter fun i => !((t.drop (i + 1)).contains (t.getD i 0))).map fun i => t.getD i 0 := by
    rw [List.filter_map, List.map_map]
    congr 1
  by_cases h : x ∈ t
  · rw [if_neg (by simp [h]), if_pos h, e]; rfl
  · rw [if_pos (by simp [h]), if_neg h, List.map_cons, e]; rfl
theorem last_ok (xs : List Int) : dd xs.reverse = (lst' xs).reverse := by
  induction xs with
  | nil => rfl
  | cons x t ih =>
    rw [List.reverse_cons, dd_snoc, ih, lst_cons, List.reverse_append]
    congr 1
    simp only [List.mem_reverse]
    split <;> rfl

theorem prf_getD {xs : List Int} {k i : Nat} (hk : k ≤ xs.length) (hi : i < k) : (prf xs k).getD i 0 = xs.getD (k - 1 - i) 0 := by
  unfold prf
  have h1 : k - 1 - i < xs.length := by omega
  rw [List.getD_eq_getElem?_getD, List.getElem?_reverse (by simp; omega), List.getElem?_take_of_lt (by simp; omega)]
  rw [List.getD_eq_getElem?_getD, List.length_take, Nat.min_eq_left hk]
theorem oth_ok {xs : List Int} {k : Nat} (hk : k < xs.length) : dq xs k = oth xs k := by
  unfold dq oth
  rw [← fo_dd, fo, prf_length (Nat.le_of_lt hk), List.filter_map, List.filter_map, List.map_map, List.filter_filter]
  rw [List.map_congr_left (g := fun i => xs.getD (k - 1 - i) 0) fun i hi => by
    have := List.mem_range.mp (List.mem_filter.mp hi).1
    exact prf_getD (Nat.le_of_lt hk) this]
  have hf : (List.range k).filter (fun a => (((fun y => y != xs.getD k 0) ∘ fun i => (prf xs k).getD i 0) a && !(((prf xs k).take a).contains ((prf xs k).getD a 0)))) =
      (List.range k).filter ((fun j => (!(xs.getD j 0 == xs.getD k 0)) && !(((xs.drop (j + 1)).take (k - (j + 1))).contains (xs.getD j 0))) ∘ fun i => k - 1 - i) := by
    apply List.filter_congr
    intro i hi
    have hi := List.mem_range.mp hi
    have e : (xs.drop (k - 1 - i + 1)).take (k - (k - 1 - i + 1)) = ((prf xs k).take i).reverse := by
      unfold prf
      rw [List.take_reverse, List.reverse_reverse, List.length_take, Nat.min_eq_left (Nat.le_of_lt hk), List.drop_take]
      rw [show k - 1 - i + 1 = k - i by omega]
    simp only [Function.comp_apply]
    rw [e, prf_getD (Nat.le_of_lt hk) hi]
    simp [bne]
  rw [hf]
  rfl
end Mine
end

section
namespace Mine
open PySem PyProof.Rows

theorem ix_split {p r : List Int} {x : Int} (h : x ∉ p) : ix (p ++ x :: r) x = some p.length := by
  refine fst_some (by simp) (by simp) fun j hj => ?_
  have : (p ++ x :: r).getD j 0 = p.getD j 0 := by
    rw [List.getD_eq_getElem?_getD, List.getElem?_append_left hj, ← List.getD_eq_getElem?_getD]
  rw [this]
  rw [beq_eq_false_iff_ne]
  intro e
  apply h
  rw [← e]
  exact List.mem_of_getElem? (get_getD hj)
theorem ix_not {q : List Int} {x : Int} (h : x ∉ q) : ix q x = none := by
  refine fst_none fun j hj => ?_
  rw [beq_eq_false_iff_ne]
  intro e
  apply h
  rw [← e]
  exact List.mem_of_getElem? (get_getD hj)
theorem dd_split {p r : List Int} {x : Int} (h : x ∉ p) : ∃ r', dd (p ++ x :: r) = dd p ++ x :: r' := by
  induction p with
  | nil => exact ⟨_, rfl⟩
  | cons y p ih =>
    simp only [List.mem_cons, not_or] at h
    obtain ⟨r', e⟩ := ih h.2
    refine ⟨r'.filter fun z => z != y, ?_⟩
    rw [List.cons_append, dd, e, dd, List.filter_append, List.filter_cons_of_pos (by simpa using h.1), List.cons_append]

theorem length_le_of_sub : ∀ {a b : List Int}, a.Nodup → (∀ y ∈ a, y ∈ b) → a.length ≤ b.length
  | [], _, _, _ => Nat.zero_le _
  | x :: a, b, hn, hs => by
    rw [List.nodup_cons] at hn
    have hx : x ∈ b := hs x (.head _)
    have : a.length ≤ (b.erase x).length := length_le_of_sub hn.2 fun y hy => (List.mem_erase_of_ne (fun (e : y = x) => hn.1 (e ▸ hy))).mpr (hs y (.tail _ hy))
    have h2 := List.length_erase_of_mem hx
    have h3 := List.length_pos_of_mem hx
    rw [List.length_cons]; omega
theorem dd_rev_length (p : List Int) : (dd p.reverse).length = (dd p).length :=
  Nat.le_antisymm (length_le_of_sub (dd_nodup _) fun y hy => by rw [dd_mem] at hy ⊢; simpa using hy) (length_le_of_sub (dd_nodup _) fun y hy => by rw [dd_mem] at hy ⊢; simpa using hy)
theorem diff_length (p : List Int) : (diff p).length = (dd p).length := by
  rw [← fo_dd, fo, List.length_map]; rfl
theorem nodup_count {q : List Int} {x : Int} (hn : q.Nodup) (hx : x ∈ q) : q.count x = 1 := by
  induction q with
  | nil => cases hx
  | cons y q ih =>
    rw [List.nodup_cons] at hn
    rw [List.count_cons]
    rcases List.mem_cons.mp hx with rfl | h
    · rw [List.count_eq_zero.mpr hn.1]; simp
    · rw [ih hn.2 h]
      have : y ≠ x := fun e => hn.1 (e ▸ h)
      simp [this]

theorem earl_mem {xs : List Int} {k j : Nat} : j ∈ earl xs k ↔ j < k ∧ xs.getD j 0 = xs.getD k 0 := by
  unfold earl
  rw [List.mem_filter, List.mem_range, beq_iff_eq]
theorem last_max {l : List Nat} (h : l.Pairwise (· < ·)) {j : Nat} (hj : j ∈ l) : j ≤ l.getLastD 0 := by
  have hne : l ≠ [] := List.ne_nil_of_mem hj
  obtain ⟨l', a, rfl⟩ : ∃ l' a, l = l' ++ [a] := ⟨_, _, (List.dropLast_concat_getLast hne).symm⟩
  have hl : (l' ++ [a]).getLastD 0 = a := by simp [List.getLastD_eq_getLast?]
  rw [hl]
  rcases List.mem_append.mp hj with q | q
  · exact Nat.le_of_lt ((List.pairwise_append.mp h).2.2 j q a (by simp))
  · rw [List.mem_singleton.mp q]; exact Nat.le_refl _
theorem earl_sorted (xs : List Int) (k : Nat) : (earl xs k).Pairwise (· < ·) := List.Pairwise.filter _ List.pairwise_lt_range

theorem due_ok {xs : List Int} {k : Nat} (hk : k < xs.length) : ansRow xs k = dueRow xs k := by
  have hmem : ∀ {y : Int}, y ∈ xs.take k ↔ ∃ j, j < k ∧ xs.getD j 0 = y := fun {y} => by
    rw [← take_eq_map (Nat.le_of_lt hk), List.mem_map]
    simp [List.mem_range]
  have hq : ∀ {y : Int}, y ∈ prf xs k ↔ y ∈ xs.take k := fun {y} => by simp [prf]
  by_cases he : earl xs k = []
  · have hno : xs.getD k 0 ∉ xs.take k := fun hm => by
      obtain ⟨j, h1, h2⟩ := hmem.mp hm
      have : j ∈ earl xs k := earl_mem.mpr ⟨h1, h2⟩
      rw [he] at this; cases this
    have hno1 : xs.getD k 0 ∉ prf xs k := fun h => hno (hq.mp h)
    have hno2 : xs.getD k 0 ∉ dd (prf xs k) := fun h => hno1 (dd_mem.mp h)
    rw [ansRow, dueRow, if_pos he]
    simp only [ix_not hno1, ix_not hno2, cn_count, List.count_eq_zero.mpr hno1, List.count_eq_zero.mpr hno2, plc]
    have c1 : (prf xs k).contains (xs.getD k 0) = false := by simpa using hno1
    have c2 : (dd (prf xs k)).contains (xs.getD k 0) = false := by simpa using hno2
    rw [c1, c2]
    rfl
  · have hlast : (earl xs k).getLastD 0 ∈ earl xs k := by
      rw [List.getLastD_eq_getLast?, List.getLast?_eq_some_getLast he]; exact List.getLast_mem he
    have hmax := fun {j : Nat} (hj : j ∈ earl xs k) => last_max (earl_sorted xs k) hj
    have hs : sinc xs k = (xs.drop ((earl xs k).getLastD 0 + 1)).take (k - ((earl xs k).getLastD 0 + 1)) := rfl
    generalize (earl xs k).getLastD 0 = e at hlast hmax hs
    obtain ⟨hek, hex⟩ := earl_mem.mp hlast
    have hsplit : xs.take k = xs.take e ++ xs.getD k 0 :: sinc xs k := by
      have h1 : xs.take k = xs.take e ++ (xs.drop e).take (k - e) := by
        have := List.take_add (l := xs) (i := e) (j := k - e)
        rwa [show e + (k - e) = k by omega] at this
      have h2 : xs.drop e = xs.getD e 0 :: xs.drop (e + 1) := by
        rw [List.drop_eq_getElem_cons (by omega)]
        simp [show e < xs.length by omega]
      rw [h1, h2, hs, hex, show k - e = (k - (e + 1)) + 1 by omega, List.take_succ_cons]
    have hno : xs.getD k 0 ∉ sinc xs k := fun hm => by
      obtain ⟨i, hi, ei⟩ := List.mem_iff_getElem.mp hm
      have hil : i < k - (e + 1) := by
        have := hi; rw [hs, List.length_take] at this; omega
      have hv : xs.getD (e + 1 + i) 0 = xs.getD k 0 := by
        rw [← ei]
        simp only [hs, List.getElem_take, List.getElem_drop]
        simp [show e + 1 + i < xs.length by omega]
      have := hmax (earl_mem.mpr ⟨by omega, hv⟩)
      omega
    have hp : prf xs k = (sinc xs k).reverse ++ xs.getD k 0 :: (xs.take e).reverse := by
      unfold prf; rw [hsplit]; simp
    have hno' : xs.getD k 0 ∉ (sinc xs k).reverse := by simpa using hno
    have hin : xs.getD k 0 ∈ prf xs k := by rw [hp]; simp
    obtain ⟨r', hd⟩ := dd_split (r := (xs.take e).reverse) hno'
    rw [← hp] at hd
    have hnd : xs.getD k 0 ∉ dd (sinc xs k).reverse := fun h => hno' (dd_mem.mp h)
    have i1 : ix (prf xs k) (xs.getD k 0) = some (sinc xs k).length := by rw [hp, ix_split hno', List.length_reverse]
    have i2 : ix (dd (prf xs k)) (xs.getD k 0) = some (diff (sinc xs k)).length := by rw [hd, ix_split hnd, dd_rev_length, diff_length]
    have c1 : (prf xs k).contains (xs.getD k 0) = true := by simpa using hin
    have c2 : (dd (prf xs k)).contains (xs.getD k 0) = true := by simpa [dd_mem] using hin
    have n1 : (prf xs k).count (xs.getD k 0) = (earl xs k).length := by rw [earl_length (Nat.le_of_lt hk)]; unfold prf; rw [List.count_reverse]
    have n2 : (dd (prf xs k)).count (xs.getD k 0) = 1 := nodup_count (dd_nodup _) (dd_mem.mpr hin)
    rw [ansRow, dueRow, if_neg he]
    simp only [i1, i2, c1, c2, cn_count, n1, n2, plc]
    rfl

theorem read_ok (xs : List Int) : rdAll [] (frsh xs) ((List.range xs.length).map fun k => ix (prf xs k) (xs.getD k 0)) = some xs := by
  have key : ∀ n k, k + n = xs.length → rdAll (prf xs k) (((List.range' k n).filter fun i => !((xs.take i).contains (xs.getD i 0))).map fun i => xs.getD i 0) ((List.range' k n).map fun k => ix (prf xs k) (xs.getD k 0)) = some (xs.drop k) := by
    intro n
    induction n with
    | zero => intro k hk; rw [show xs.drop k = [] from List.drop_eq_nil_of_le (by omega)]; rfl
    | succ n ih =>
      intro k hk
      have hlt : k < xs.length := by omega
      have ihk := ih (k + 1) (by omega)
      rw [prf_succ hlt] at ihk
      have hdrop : xs.drop k = xs.getD k 0 :: xs.drop (k + 1) := by
        rw [List.drop_eq_getElem_cons hlt]; simp [hlt]
      rw [List.range'_succ, List.map_cons]
      cases hix : ix (prf xs k) (xs.getD k 0) with
      | none =>
        have hno : xs.getD k 0 ∉ xs.take k := by
          have := ix_none hix
          simpa [prf] using this
        rw [List.filter_cons_of_pos (by simpa using hno), List.map_cons, rdAll, ihk, hdrop]; rfl
      | some j =>
        obtain ⟨h1, h2⟩ := ix_some hix
        have hyes : xs.getD k 0 ∈ xs.take k := by
          have := List.mem_of_getElem? h2
          simpa [prf] using this
        rw [List.filter_cons_of_neg (by simpa using hyes), rdAll, h2]
        simp only [ihk, hdrop]; rfl
  have := key xs.length 0 (by omega)
  rw [prf_zero, List.drop_zero, ← List.range_eq_range'] at this
  exact this

theorem plain (xs : List Int) : Plain xs := ⟨fun _ hk => due_ok hk, fun _ hk => oth_ok hk, last_ok xs, read_ok xs⟩
end Mine
end

section
open PySem PySem.W PyProof.Rows
namespace Mine
set_option maxRecDepth 100000 in
set_option maxHeartbeats 8000000 in
open_top hd for PySem.Challenge.rw_nb0377_01
end Mine
end

section
open PySem PySem.W PyProof.Rows PySem.Calls
namespace Mine
set_option maxRecDepth 100000
set_option maxHeartbeats 8000000

theorem recs_have : ∀ k ∈ ([1, 2, 3, 4, 5, 6, 8, 9, 10, 11, 12, 13] : List Nat), ∃ d ∈ recsOf PySem.Challenge.pw_nb0377_01, d.name = nameOf (stm k) ∧ d.params = paramsOf (stm k) ∧ d.body = bodyOf (stm k) ∧ d.scope = scopeOf (stm k) := by
  have g : ∀ {i : Nat} {d : DefRec}, (recsOf PySem.Challenge.pw_nb0377_01)[i]? = some d → d ∈ recsOf PySem.Challenge.pw_nb0377_01 := fun {_ _} e => List.mem_of_getElem? e
  intro k hk
  simp only [List.mem_cons, List.not_mem_nil, or_false] at hk
  rcases hk with rfl | rfl | rfl | rfl | rfl | rfl | rfl | rfl | rfl | rfl | rfl | rfl
  · exact ⟨_, g (i := 0) rfl, rfl, rfl, rfl, rfl⟩
  · exact ⟨_, g (i := 1) rfl, rfl, rfl, rfl, rfl⟩
  · exact ⟨_, g (i := 2) rfl, rfl, rfl, rfl, rfl⟩
  · exact ⟨_, g (i := 3) rfl, rfl, rfl, rfl, rfl⟩
  · exact ⟨_, g (i := 4) rfl, rfl, rfl, rfl, rfl⟩
  · exact ⟨_, g (i := 5) rfl, rfl, rfl, rfl, rfl⟩
  · exact ⟨_, g (i := 6) rfl, rfl, rfl, rfl, rfl⟩
  · exact ⟨_, g (i := 7) rfl, rfl, rfl, rfl, rfl⟩
  · exact ⟨_, g (i := 8) rfl, rfl, rfl, rfl, rfl⟩
  · exact ⟨_, g (i := 9) rfl, rfl, rfl, rfl, rfl⟩
  · exact ⟨_, g (i := 10) rfl, rfl, rfl, rfl, rfl⟩
  · exact ⟨_, g (i := 11) rfl, rfl, rfl, rfl, rfl⟩

theorem ints_rd : ∀ {vs : List Value} {ns : List Int}, IntsAre vs ns → RdAll (fun _ => none) vs (nums ns)
  | _, _, .nil => .nil
  | _, _, .cons n t h => .cons (.int n t) (ints_rd h)

theorem gd_of_top {mean : ExcName → Option Value} {mg mb : Str → Option Value} {h : Heap} (T : Top hd.view_39 (looseW hd.view_39 []) mean mg mb h) : Gd mg mb h where
  g := T.g
  b := T.b
  nolimit := T.nolimit
  fn := fun k hk => by
    obtain ⟨d, hd1, e1, e2, e3, e4⟩ := recs_have k hk
    have hr : recsOf hd.view_39 = recsOf PySem.Challenge.pw_nb0377_01 := rfl
    obtain ⟨a, o, pm, code, doc, h1, h2, h3, h4⟩ := T.fn d (hr ▸ hd1)
    rw [e1] at h1 h3 h4
    rw [e2, e3, e4] at h3
    exact ⟨a, h1, o, pm, code, doc, h2, h3, h4⟩
  blt := fun x hx => by
    simp only [List.mem_cons, List.not_mem_nil, or_false] at hx
    rcases hx with rfl | rfl | rfl | rfl | rfl | rfl | rfl | rfl | rfl <;>
      exact ⟨T.free _ (by decide +kernel) (by decide +kernel) (by decide +kernel) (by decide +kernel) (by decide +kernel), T.builtins _ (by decide +kernel)⟩
end Mine
end

open PySem PySem.W PyProof.Rows PySem.Calls Mine
set_option maxRecDepth 100000 in
set_option maxHeartbeats 8000000 in
theorem PySem.Challenge.cw_nb0377_01_holds : PySem.Challenge.rw_nb0377_01.Holds := by
  refine Mine.hd ?_
  intro w s₀ s₁ mg mb G Y fa o pm cd doc dV kV ho hd' hcd hD hmg hg args vals as hpre hlay hrd hwl hlo
  have T := G.T
  have hmg : mg (Str.ofString "law") = some (.ref fa) := hmg
  clear Y hD ho hd' hcd G
  wrow_args hpre hlay hrd hwl hlo
  rename_i ns hs hlay0 hL1 hr1 hl2 as4 as3 la vs as0 hL ra w1 r0 hI hr hcond hcond2
  have Gd0 := Mine.gd_of_top T
  obtain ⟨f13, hm13, hf13⟩ := Gd0.fn 13 (by decide)
  have hfa : f13 = fa := by
    have e : mg (Str.ofString "law") = some (.ref f13) := hm13
    rw [hmg] at e; cases e; rfl
  subst hfa
  refine wpAny_mono (Mine.law_run (ns := ns) (vs := vs) Gd0 hf13 rfl rfl (by decide) (by decide) hL ?_ ?_ (Mine.plain _)) (fun v s' h => ?_) fun _ _ h => h.elim
  · exact Mine.ints_rd hI
  · omega
  · obtain ⟨rfl, h', tk, rfl, kp⟩ := h
    refine GoodW.toG ⟨.inl ⟨.bool true, .bool true, [], rfl, fun _ => rfl, ?_, ?_, fun _ => ⟨List.nodup_nil, fun _ h => by cases h⟩⟩, kp, rfl, hg⟩
    · exact .bool true
    · wrow_post
