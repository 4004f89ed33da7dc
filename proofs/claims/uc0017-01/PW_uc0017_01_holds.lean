import PyProof.Rows.All
import Wide.All
import OpenK.AllK
import Wide.FinOn
import PySem.Challenge.RW_uc0017_01
set_option Elab.async false
set_option maxRecDepth 100000
set_option genSizeOf false
set_option genSizeOfSpec false

section
open PySem PySem.W PyProof.Rows PySem.Calls
namespace Mine
theorem byC {P : Prop} (h : ∀ C : Prop, (P → C) → C) : P := h P id
theorem bind_some {P : Prop} {α β : Type} {x : Option α} {f : α → Option β} {b : β} (h : x.bind f = some b) (k : ∀ a, x = some a → f a = some b → P) : P := (Option.bind_eq_some_iff.mp h).elim fun a w => k a w.1 w.2
theorem bind_some2 {P : Prop} {α γ β : Type} {x : Option (α × γ)} {f : α × γ → Option β} {b : β} (h : x.bind f = some b) (k : ∀ a c, x = some (a, c) → f (a, c) = some b → P) : P := (Option.bind_eq_some_iff.mp h).elim fun a w => k a.1 a.2 w.1 w.2
theorem map_some {P : Prop} {α β : Type} {x : Option α} {f : α → β} {b : β} (h : x.map f = some b) (k : ∀ a, x = some a → f a = b → P) : P := (Option.map_eq_some_iff.mp h).elim fun a w => k a w.1 w.2
theorem cond_elim {P : Prop} {α : Type} {c : Bool} {x : Option α} {y : α} (e : cond c x none = some y) (k : c = true → x = some y → P) : P := by
  cases c
  · cases e
  · exact k rfl e
theorem ex2 {P : Prop} {α : Sort _} {p q : α → Prop} (h : ∃ a, p a ∧ q a) (k : ∀ a, p a → q a → P) : P := h.elim fun a w => k a w.1 w.2
theorem ex3 {P : Prop} {α β : Sort _} {p q : α → β → Prop} (h : ∃ a b, p a b ∧ q a b) (k : ∀ a b, p a b → q a b → P) : P := h.elim fun a w => w.elim fun b w => k a b w.1 w.2
theorem no_some {α : Type} {a : Option α} {o : α} (q : a = none) (e : a = some o) : False := by rw [q] at e; cases e
theorem ne_none {B : Heap} {b c : Addr} {o : Obj} (X : B.get? c = none) (e : B.get? b = some o) : b ≠ c := fun q => no_some X (q ▸ e)

noncomputable abbrev Ext (h h' : Heap) : Prop := ∀ b o, h.get? b = some o → h'.get? b = some o
theorem Ext.refl (h : Heap) : Ext h h := fun _ _ e => e
theorem Ext.trans {h h' h'' : Heap} (a : Ext h h') (b : Ext h' h'') : Ext h h'' := fun _ _ e => b _ _ (a _ _ e)
theorem Ext.push (h : Heap) (o : Obj) : Ext h (h.push o) := fun _ _ e => Heap.get?_push_of_some _ e

noncomputable def HOk (H : List Addr) (h : Heap) : Prop := ∀ a ∈ H, ∃ o, h.get? a = some o
theorem HOk.ext {H : List Addr} {h h' : Heap} (x : HOk H h) (e : Ext h h') : HOk H h' := fun a ha => (x a ha).imp fun _ q => e _ _ q
theorem HOk.not_mem {H : List Addr} {h : Heap} (x : HOk H h) {a : Addr} (ha : h.get? a = none) : a ∉ H := fun m => by
  obtain ⟨o, q⟩ := x a m; exact (no_some (ha) q).elim

theorem get_fresh (h : Heap) : h.get? h.objs.size = none := by
  cases q : h.get? h.objs.size with
  | none => rfl
  | some o => exact absurd (Heap.lt_size q) (Nat.lt_irrefl _)

theorem hide_gen {H H' : List Addr} {h h' : Heap} (hx : ∀ b o, b ∉ H → h.get? b = some o → h'.get? b = some o) (hs : ∀ a ∈ H', a ∈ H ∨ h.get? a = none) :
    Ext (hideAll h H) (hideAll h' H') := fun b o e => by
  have hb : b ∉ H := fun m => by exact (no_some (hideAll_none H m) e).elim
  have e' := of_hideAll H e
  refine hideAll_get H' (hx b o hb e') fun m => ?_
  rcases hs b m with q | q
  · exact hb q
  · rw [e'] at q; cases q
theorem hide_ext {H : List Addr} {h h' : Heap} (x : Ext h h') : Ext (hideAll h H) (hideAll h' H) := hide_gen (fun b o _ e => x b o e) fun _ m => .inl m
theorem hide_new {H : List Addr} {h h' : Heap} {a : Addr} (x : Ext h h') (ha : h.get? a = none) : Ext (hideAll h H) (hideAll h' (a :: H)) := hide_gen (fun b o _ e => x b o e) fun b m => by
  rcases List.mem_cons.mp m with rfl | m
  · exact .inr ha
  · exact .inl m
theorem fresh_of_ext {h h' : Heap} (x : Ext h h') : h.get? h'.objs.size = none := by
  cases w : h.get? h'.objs.size with
  | none => rfl
  | some o => exact absurd (get_fresh h') (by rw [x _ _ w]; simp)
theorem hide_le (H : List Addr) (h : Heap) : Ext (hideAll h H) h := fun _ _ e => of_hideAll H e

mutual
inductive Rd (h : Heap) : Value → PyData → Prop
  | none : Rd h .none .none
  | bool (b : Bool) : Rd h (.bool b) (.bool b)
  | int (i : Int) (t : Tok) : Rd h (.int i t) (.int i)
  | str (x : Str) (t : Tok) : Rd h (.str x t) (.str x)
  | list0 {a : Addr} {vs : Array Value} {n : Nat} {ds : List PyData} : h.get? a = some { cls := .type "list", data := .seq vs n } → RdA h vs.toList ds → Rd h (.ref a) (.list ds)
  | tuple {a : Addr} {o : Obj} {vs : Array Value} {n : Nat} {ds : List PyData} : h.get? a = some o → o.cls = .type "tuple" → o.data = .seq vs n → RdA h vs.toList ds → Rd h (.ref a) (.tuple ds)
inductive RdA (h : Heap) : List Value → List PyData → Prop
  | nil : RdA h [] []
  | cons {v : Value} {vs : List Value} {d : PyData} {ds : List PyData} : Rd h v d → RdA h vs ds → RdA h (v :: vs) (d :: ds)
end

theorem Rd.ext {h h' : Heap} (x : Ext h h') {v : Value} {d : PyData} (r : Rd h v d) : Rd h' v d :=
  Rd.rec (motive_1 := fun v d _ => Rd h' v d) (motive_2 := fun vs ds _ => RdA h' vs ds) .none .bool .int .str (fun ho _ q => .list0 (x _ _ ho) q) (fun ho hc hd _ q => .tuple (x _ _ ho) hc hd q) .nil (fun _ _ a b => .cons a b) r
theorem RdA.ext {h h' : Heap} (x : Ext h h') {vs : List Value} {ds : List PyData} (r : RdA h vs ds) : RdA h' vs ds :=
  RdA.rec (motive_1 := fun v d _ => Rd h' v d) (motive_2 := fun vs ds _ => RdA h' vs ds) .none .bool .int .str (fun ho _ q => .list0 (x _ _ ho) q) (fun ho hc hd _ q => .tuple (x _ _ ho) hc hd q) .nil (fun _ _ a b => .cons a b) r
theorem Rd.reads {h : Heap} {v : Value} {d : PyData} (r : Rd h v d) : ∃ as, Reads h v d as :=
  Rd.rec (motive_1 := fun v d _ => ∃ as, Reads h v d as) (motive_2 := fun vs ds _ => ∃ as, ReadsAll h vs ds as) ⟨_, .none⟩ (fun b => ⟨_, .bool b⟩) (fun i t => ⟨_, .int i t⟩) (fun y t => ⟨_, .str y t⟩)
    (fun ho _ q => q.elim fun _ q => ⟨_, .list ho rfl rfl q⟩) (fun ho hc hd _ q => q.elim fun _ q => ⟨_, .tuple ho hc hd q⟩) ⟨_, .nil⟩ (fun _ _ p q => p.elim fun _ p => q.elim fun _ q => ⟨_, .cons p q⟩) r
noncomputable def RdAInvL (h : Heap) (ds : List PyData) : List Value → Prop
  | [] => ds = []
  | v :: vs => ∃ d ds', ds = d :: ds' ∧ Rd h v d ∧ RdA h vs ds'
noncomputable def RdAInvR (h : Heap) (vs : List Value) : List PyData → Prop
  | [] => vs = []
  | d :: ds => ∃ v vs', vs = v :: vs' ∧ Rd h v d ∧ RdA h vs' ds
theorem RdA.invL {h : Heap} {vs : List Value} {ds : List PyData} (r : RdA h vs ds) : RdAInvL h ds vs := by
  cases r with
  | nil => rfl
  | cons a b => exact ⟨_, _, rfl, a, b⟩
theorem RdA.invR {h : Heap} {vs : List Value} {ds : List PyData} (r : RdA h vs ds) : RdAInvR h vs ds := by
  cases r with
  | nil => rfl
  | cons a b => exact ⟨_, _, rfl, a, b⟩
theorem RdA.nilL {h : Heap} {ds : List PyData} (r : RdA h [] ds) : ds = [] := r.invL
theorem RdA.nilR {h : Heap} {vs : List Value} (r : RdA h vs []) : vs = [] := r.invR
theorem RdA.consR {h : Heap} {vs : List Value} {d : PyData} {ds : List PyData} (r : RdA h vs (d :: ds)) : ∃ v vs', vs = v :: vs' ∧ Rd h v d ∧ RdA h vs' ds := r.invR
theorem RdA.consL {h : Heap} {v : Value} {vs : List Value} {ds : List PyData} (r : RdA h (v :: vs) ds) : ∃ d ds', ds = d :: ds' ∧ Rd h v d ∧ RdA h vs ds' := r.invL
theorem RdA.length {h : Heap} : ∀ {vs : List Value} {ds : List PyData}, RdA h vs ds → vs.length = ds.length
  | [], ds, r => by rw [r.nilL]; rfl
  | v :: vs, ds, r => by
    obtain ⟨d, ds', rfl, _, b⟩ := r.consL
    simp [b.length]
theorem RdA.get {h : Heap} : ∀ {vs : List Value} {ds : List PyData}, RdA h vs ds → ∀ {i : Nat} {d : PyData}, ds[i]? = some d → ∃ v, vs[i]? = some v ∧ Rd h v d := by
  intro vs
  induction vs with
  | nil =>
    intro ds r i d e
    rw [r.nilL] at e; simp at e
  | cons v vs ih =>
    intro ds r i d e
    obtain ⟨d', ds', rfl, a, b⟩ := r.consL
    cases i with
    | zero => simp at e; subst e; exact ⟨v, rfl, a⟩
    | succ i => simp at e; obtain ⟨v', q, r'⟩ := ih b e; exact ⟨v', by exact q, r'⟩
theorem RdA.append {h : Heap} : ∀ {vs : List Value} {ds : List PyData} {us : List Value} {es : List PyData}, RdA h vs ds → RdA h us es → RdA h (vs ++ us) (ds ++ es)
  | [], ds, us, es, r, q => by rw [r.nilL]; exact q
  | v :: vs, ds, us, es, r, q => by
    obtain ⟨d, ds', rfl, a, b⟩ := r.consL
    exact .cons a (b.append q)
theorem RdA.one {h : Heap} {v : Value} {d : PyData} (r : Rd h v d) : RdA h [v] [d] := .cons r .nil
theorem Rd.list {h : Heap} {a : Addr} {vs : Array Value} {ds : List PyData} (l : h.PlainList a vs) (r : RdA h vs.toList ds) : Rd h (.ref a) (.list ds) := l.elim fun _ e => .list0 e r
noncomputable def RdInv (h : Heap) (v : Value) : PyData → Prop
  | .none => v = .none
  | .bool b => v = .bool b
  | .int i => ∃ t, v = .int i t
  | .str x => ∃ t, v = .str x t
  | .list ds => ∃ a vs, v = .ref a ∧ h.PlainList a vs ∧ RdA h vs.toList ds
  | .tuple ds => ∃ a o vs n, v = .ref a ∧ h.get? a = some o ∧ o.cls = .type "tuple" ∧ o.data = .seq vs n ∧ RdA h vs.toList ds
  | _ => True
theorem Rd.inv {h : Heap} {v : Value} {d : PyData} (r : Rd h v d) : RdInv h v d :=
  Rd.rec (motive_1 := fun v d _ => RdInv h v d) (motive_2 := fun _ _ _ => True) rfl (fun _ => rfl) (fun _ t => ⟨t, rfl⟩) (fun _ t => ⟨t, rfl⟩) (fun ho r _ => ⟨_, _, rfl, ⟨_, ho⟩, r⟩) (fun ho hc hd r _ => ⟨_, _, _, _, rfl, ho, hc, hd, r⟩) trivial (fun _ _ _ _ => trivial) r
theorem Rd.int_inv {h : Heap} {v : Value} {i : Int} (r : Rd h v (.int i)) : ∃ t, v = .int i t := r.inv
theorem Rd.str_inv {h : Heap} {v : Value} {x : Str} (r : Rd h v (.str x)) : ∃ t, v = .str x t := r.inv
theorem Rd.bool_inv {h : Heap} {v : Value} {b : Bool} (r : Rd h v (.bool b)) : v = .bool b := r.inv
theorem Rd.none_inv {h : Heap} {v : Value} (r : Rd h v .none) : v = .none := r.inv
theorem Rd.list_inv {h : Heap} {v : Value} {ds : List PyData} (r : Rd h v (.list ds)) : ∃ a vs, v = .ref a ∧ h.PlainList a vs ∧ RdA h vs.toList ds := r.inv
theorem Rd.tuple_inv {h : Heap} {v : Value} {ds : List PyData} (r : Rd h v (.tuple ds)) : ∃ a o vs n, v = .ref a ∧ h.get? a = some o ∧ o.cls = .type "tuple" ∧ o.data = .seq vs n ∧ RdA h vs.toList ds := r.inv

noncomputable def scalar : PyData → Bool
  | .none | .bool _ | .int _ | .str _ => true
  | _ => false
theorem Rd.scalar {h h' : Heap} {v : Value} {d : PyData} (hs : scalar d = true) (r : Rd h v d) : Rd h' v d := by
  cases r with
  | none => exact .none
  | bool b => exact .bool b
  | int i t => exact .int i t
  | str x t => exact .str x t
  | list0 => cases hs
  | tuple => cases hs

inductive LV where
  | d (p : PyData)
  | own (xs : List PyData)
  | arg (xs : List PyData)
  | fn
noncomputable def LV.dat : LV → Option PyData
  | .d p => some p
  | .own xs => some (.list xs)
  | .arg _ => none
  | .fn => none
noncomputable abbrev St := List (Nat × LV)
noncomputable def St.get : St → Nat → Option LV
  | [], _ => none
  | (j, v) :: r, i => cond (Nat.beq i j) (some v) (St.get r i)
noncomputable def St.set : St → Nat → LV → St
  | [], i, v => [(i, v)]
  | (j, u) :: r, i, v => cond (Nat.beq i j) ((i, v) :: r) ((j, u) :: St.set r i v)
theorem all_nil {α : Type} {P : α → Prop} : ∀ x ∈ ([] : List α), P x := fun _ m => nomatch m
theorem all_cons {α : Type} {P : α → Prop} {a : α} {l : List α} (h : P a) (hs : ∀ x ∈ l, P x) : ∀ x ∈ a :: l, P x := fun x m => by
  rcases List.mem_cons.mp m with rfl | m
  · exact h
  · exact hs x m
theorem beq_dec (i j : Nat) : Nat.beq i j = decide (i = j) := by
  rw [Bool.eq_iff_iff, decide_eq_true_iff]
  exact ⟨Nat.eq_of_beq_eq_true, fun h => h ▸ Nat.beq_refl i⟩
theorem St.get_c (j : Nat) (v : LV) (r : St) (i : Nat) : St.get ((j, v) :: r) i = cond (Nat.beq i j) (some v) (St.get r i) := rfl
theorem St.set_c (j : Nat) (u : LV) (r : St) (i : Nat) (v : LV) : St.set ((j, u) :: r) i v = cond (Nat.beq i j) ((i, v) :: r) ((j, u) :: St.set r i v) := rfl
theorem get_all {P : Nat → LV → Prop} {y : Nat} {lv : LV} : ∀ {st : St}, (∀ p ∈ st, P p.1 p.2) → st.get y = some lv → P y lv
  | [], _, e => nomatch e
  | (j, u) :: r, h, e => by
    rw [St.get_c] at e
    cases q : Nat.beq y j with
    | true => rw [q] at e; cases e; cases Nat.eq_of_beq_eq_true q; exact h _ (.head _)
    | false => rw [q] at e; exact get_all (fun p m => h p (.tail _ m)) e
theorem St.get_set (st : St) (i : Nat) (v : LV) (k : Nat) : (st.set i v).get k = if k = i then some v else st.get k := by
  induction st with
  | nil =>
    show cond (Nat.beq k i) (some v) none = _
    rw [beq_dec]; by_cases h : k = i <;> simp [h, St.get]
  | cons p r ih =>
    obtain ⟨j, u⟩ := p
    rw [St.set_c, beq_dec]
    by_cases hij : i = j
    · subst hij
      simp only [decide_true, cond_true, St.get_c, beq_dec]
      by_cases h : k = i <;> simp [h]
    · simp only [hij, decide_false, cond_false, St.get_c, beq_dec, ih]
      by_cases h : k = j
      · subst h; simp [Ne.symm hij]
      · simp [h]

set_option genInjectivity false in
structure Gd where
  prog : Program
  w : World
  nm : Nat → Str
  inj : ∀ i j, nm i = nm j → i = j
  dbg : ∀ i, (nm i == ("__debug__" : Str)) = false
  cdc : ∀ i, (nm i == ("__classdict__" : Str)) = false
  mg : Str → Option Value
  mb : Str → Option Value
  key : Addr
  P : Heap → Prop
  mono : ∀ {h h' : Heap}, Ext h h' → P h → P h'
  g : ∀ {h : Heap}, P h → h.Ns mainGlobals mg
  b : ∀ {h : Heap}, P h → h.Ns builtinsNs mb
  nl : ∀ {h : Heap}, P h → h.NoLimit

noncomputable def RO (G : Gd) (H : List Addr) (h : Heap) (v : Value) : LV → Prop
  | .d p => Rd (hideAll h H) v p
  | .own xs => ∃ a vs, v = .ref a ∧ h.PlainList a vs ∧ RdA (hideAll h H) vs.toList xs
  | .arg xs => ∃ a vs, v = .ref a ∧ (hideAll h H).IsList a vs ∧ RdA (hideAll h H) vs.toList xs
  | .fn => v = .ref G.key
theorem RO.ext {G : Gd} {H : List Addr} {h h' : Heap} (x : Ext h h') {v : Value} {lv : LV} (r : RO G H h v lv) : RO G H h' v lv := by
  cases lv with
  | d _ => exact Rd.ext (hide_ext x) r
  | own _ => obtain ⟨a, vs, e, p, r⟩ := r; exact ⟨a, vs, e, p.at fun o q => x a o q, r.ext (hide_ext x)⟩
  | arg _ => obtain ⟨a, vs, e, ⟨o, q, p⟩, r⟩ := r; exact ⟨a, vs, e, ⟨o, hide_ext x a o q, p⟩, r.ext (hide_ext x)⟩
  | fn => exact r
theorem RO.rd {G : Gd} {H : List Addr} {h : Heap} {v : Value} {lv : LV} {p : PyData} (r : RO G H h v lv) (e : lv.dat = some p) : Rd h v p := by
  cases lv with
  | d q => cases e; exact Rd.ext (hide_le H h) r
  | own xs =>
    cases e
    obtain ⟨a, vs, rfl, pl, ra⟩ := r
    exact Rd.list pl (ra.ext (hide_le H h))
  | arg _ => cases e
  | fn => cases e

noncomputable def Sto (env : Env) (h : Heap) (x : Str) (v : Value) : Prop :=
  (env.kindOf x = some .local ∧ ∃ m, h.Ns env.locals m ∧ m x = some v) ∨
  ((env.kindOf x = some .cell ∨ env.kindOf x = some .free) ∧ ∃ c, env.cells.lookup x = some c ∧ h.IsCell c (some v))
theorem Sto.ext {env : Env} {h h' : Heap} (x : Ext h h') {y : Str} {v : Value} (s : Sto env h y v) : Sto env h' y v :=
  s.imp (fun s => ⟨s.1, s.2.imp fun _ n => ⟨n.1.keeps x, n.2⟩⟩) fun s => ⟨s.1, s.2.imp fun _ n => ⟨n.1, n.2.keeps x⟩⟩

noncomputable def Vars (G : Gd) (env : Env) (H : List Addr) (st : St) (h : Heap) : Prop := ∀ x lv, st.get x = some lv → ∃ v, Sto env h (G.nm x) v ∧ RO G H h v lv
theorem Vars.ext {G : Gd} {env : Env} {H : List Addr} {st : St} {h h' : Heap} (V : Vars G env H st h) (x : Ext h h') : Vars G env H st h' := fun y lv e =>
  (V y lv e).imp fun _ w => ⟨w.1.ext x, w.2.ext x⟩

structure EO (sc : Scope) (env : Env) : Prop where
  kind : env.scope.kind = .function
  gl : env.globals = mainGlobals
  bl : env.builtins = builtinsNs
  glob : ∀ x, sc.names.lookup x = some .globalImplicit → env.kindOf x = some .globalImplicit
  cell : ∀ x, sc.names.lookup x = some .cell → env.kindOf x = some .cell ∧ ∃ c, env.cells.lookup x = some c

structure Bud (n : Nat) (A : Around) : Prop where
  hh : A.handled = none
  dp : A.depth + n ≤ 800
  un : A.units + 20 * n ≤ 9000

structure Sit (G : Gd) (sc : Scope) (n : Nat) (A : Around) (env : Env) (H : List Addr) (st : St) (h : Heap) : Prop where
  eo : EO sc env
  bud : Bud n A
  p : G.P h
  hok : HOk H h
  vars : Vars G env H st h
theorem Sit.ext {G : Gd} {sc : Scope} {n : Nat} {A : Around} {env : Env} {H : List Addr} {st : St} {h h' : Heap} (S : Sit G sc n A env H st h) (x : Ext h h') : Sit G sc n A env H st h' :=
  ⟨S.eo, S.bud, G.mono x S.p, S.hok.ext x, S.vars.ext x⟩

noncomputable def EvV (G : Gd) (sc : Scope) (n : Nat) (pe : PySem.Expr) (f : St → Option LV) : Prop :=
  ∀ (A : Around) (env : Env) (H : List Addr) (st : St) (s : Shared) (lv : LV) (Q : Value → Shared → Prop) (E : Value → Shared → Prop), Sit G sc n A env H st s.heap → f st = some lv →
    (∀ v h' tk, Ext s.heap h' → RO G H h' v lv → Q v { s with heap := h', toks := tk }) → wpAny (model G.prog G.w) A (eval pe env) Q E s
noncomputable def EvT (G : Gd) (sc : Scope) (n : Nat) (pe : PySem.Expr) (f : St → Option Bool) : Prop :=
  ∀ (A : Around) (env : Env) (H : List Addr) (st : St) (s : Shared) (b : Bool) (Q : Bool → Shared → Prop) (E : Value → Shared → Prop), Sit G sc n A env H st s.heap → f st = some b →
    (∀ h' tk, Ext s.heap h' → Q b { s with heap := h', toks := tk }) → wpAny (model G.prog G.w) A (isTrue pe env (eval pe env)) Q E s
noncomputable def EvF (G : Gd) (sc : Scope) (n : Nat) (pe : PySem.Expr) (f : St → Option (List PyData)) : Prop :=
  ∀ (A : Around) (env : Env) (H : List Addr) (st : St) (s : Shared) (xs : List PyData) (Q : Value → Shared → Prop) (E : Value → Shared → Prop), Sit G sc n A env H st s.heap → f st = some xs →
    (∀ a h' tk vs, Ext s.heap h' → s.heap.get? a = none → h'.PlainList a vs → RdA (hideAll h' (a :: H)) vs.toList xs → Q (.ref a) { s with heap := h', toks := tk }) → wpAny (model G.prog G.w) A (eval pe env) Q E s

noncomputable def fzF (f : St → Option (List PyData)) : St → Option LV := fun st => (f st).map fun xs => .d (.list xs)

section
variable {G : Gd} {sc : Scope} {n : Nat}
theorem EvF.toV {pe : PySem.Expr} {f : St → Option (List PyData)} (h : EvF G sc n pe f) : EvV G sc n pe (fzF f) := fun A env H st s lv Q E S e hQ => by
  unfold fzF at e
  cases q : f st with
  | none => rw [q] at e; cases e
  | some xs =>
    rw [q] at e; cases e
    refine h A env H st s xs Q E S q fun a h' tk vs x hf pl r => hQ _ h' tk x ?_
    have ha : a ∉ H := S.hok.not_mem hf
    obtain ⟨k, e⟩ := pl
    exact Rd.list ⟨k, hideAll_get H e ha⟩ (r.ext (hide_gen (fun b o _ e => e) fun b m => .inl (.tail _ m)))

noncomputable def eVar (i : Nat) : St → Option LV := fun st => st.get i
theorem EvV.name {i : Nat} {x : Str} {pos : Pos} (hx : G.nm i = x) : EvV G sc n (.Name x pos) (eVar i) := fun A env H st s lv Q E S e hQ => by
  subst hx
  refine ex2 (S.vars i lv e) fun v sto r => ?_
  refine wpAny_Name ?_ (G.dbg i)
  have fin : Q v s := hQ v s.heap s.toks (Ext.refl _) r
  rcases sto with ⟨k, m, hn, hm⟩ | ⟨k, c, hc, hi⟩
  · exact wpAny_loadName_local S.eo.kind k hn hm fin
  · rcases k with k | k
    · exact wpAny_loadName_cell S.eo.kind k hc hi fin
    · exact wpAny_loadName_free S.eo.kind k hc hi fin (G.cdc i)
noncomputable def eFn : St → Option LV := fun _ => some .fn
theorem EvV.fnName {x : Str} {pos : Pos} (hs : sc.names.lookup x = some .globalImplicit) (hm : G.mg x = some (.ref G.key)) (hd : (x == ("__debug__" : Str)) = false) : EvV G sc n (.Name x pos) eFn := fun A env H st s lv Q E S e hQ => by
  cases e
  exact Name_function_global S.eo.kind (S.eo.glob x hs) (loadGlobal_global (by rw [S.eo.gl]; exact G.g S.p) hm (hQ _ s.heap s.toks (Ext.refl _) rfl)) hd
noncomputable def eC (p : PyData) : St → Option LV := fun _ => some (.d p)
theorem EvV.int {i : Int} {k : Nat} {pos : Pos} : EvV G sc n (.Constant (.int i) k pos) (eC (.int i)) := fun A env H st s lv Q E S e hQ => by
  cases e; exact wpAny_Constant_int (hQ _ s.heap _ (Ext.refl _) (Rd.int i _))
theorem EvV.str {x : Str} {k : Nat} {pos : Pos} : EvV G sc n (.Constant (.str x) k pos) (eC (.str x)) := fun A env H st s lv Q E S e hQ => by
  cases e; exact wpAny_Constant_str (hQ _ s.heap _ (Ext.refl _) (Rd.str x _))
theorem EvV.none {k : Nat} {pos : Pos} : EvV G sc n (.Constant .none k pos) (eC .none) := fun A env H st s lv Q E S e hQ => by
  cases e; exact wpAny_Constant_none (hQ _ s.heap s.toks (Ext.refl _) Rd.none)
theorem EvV.bool {b : Bool} {k : Nat} {pos : Pos} : EvV G sc n (.Constant (.bool b) k pos) (eC (.bool b)) := fun A env H st s lv Q E S e hQ => by
  cases e; exact wpAny_Constant_bool (hQ _ s.heap s.toks (Ext.refl _) (Rd.bool b))

noncomputable def eDat (f : St → Option LV) : St → Option PyData := fun st => (f st).bind LV.dat
noncomputable def e2 (op : PyData → PyData → Option LV) (f g : St → Option LV) : St → Option LV := fun st => (eDat f st).bind fun a => (eDat g st).bind fun b => op a b
noncomputable def Op2 (G : Gd) (t : Value → Value → Sem Value) (op : PyData → PyData → Option LV) : Prop :=
  ∀ (m : Nat) (A : Around) (H : List Addr) (s : Shared) (va vb : Value) (a b : PyData) (lv : LV) (Q : Value → Shared → Prop) (E : Value → Shared → Prop), Bud m A → G.P s.heap → HOk H s.heap → Rd s.heap va a → Rd s.heap vb b → op a b = some lv →
    (∀ v h' tk, Ext s.heap h' → RO G H h' v lv → Q v { s with heap := h', toks := tk }) → wpAny (model G.prog G.w) A (t va vb) Q E s
theorem dat_some {f : St → Option LV} {st : St} {p : PyData} (h : eDat f st = some p) : ∃ lv, f st = some lv ∧ lv.dat = some p := by
  unfold eDat at h
  cases q : f st with
  | none => rw [q] at h; cases h
  | some lv => rw [q] at h; exact ⟨lv, rfl, h⟩
theorem two {l r : PySem.Expr} {f g : St → Option LV} {op : PyData → PyData → Option LV} {t : Value → Value → Sem Value} (hl : EvV G sc n l f) (hr : EvV G sc n r g) (ho : Op2 G t op)
    {A : Around} {env : Env} {H : List Addr} {st : St} {s : Shared} {lv : LV} {Q : Value → Shared → Prop} {E : Value → Shared → Prop} (S : Sit G sc n A env H st s.heap) (e : e2 op f g st = some lv)
    (hQ : ∀ v h' tk, Ext s.heap h' → RO G H h' v lv → Q v { s with heap := h', toks := tk }) :
    wpAny (model G.prog G.w) A (eval l env) (fun a s₁ => wpAny (model G.prog G.w) A (eval r env) (fun b s₂ => wpAny (model G.prog G.w) A (t a b) Q E s₂) E s₁) E s := by
  unfold e2 at e
  refine bind_some (e) fun a ha e => ?_
  refine bind_some (e) fun b hb e => ?_
  refine ex2 (dat_some ha) fun la hla da => ?_
  refine ex2 (dat_some hb) fun lb hlb db => ?_
  refine hl A env H st s la _ E S hla fun va h₁ t₁ x₁ ra => ?_
  have S₁ : Sit G sc n A env H st h₁ := S.ext x₁
  refine hr A env H st _ lb _ E S₁ hlb fun vb h₂ t₂ x₂ rb => ?_
  have S₂ : Sit G sc n A env H st h₂ := S₁.ext x₂
  exact ho n A H _ va vb a b lv Q E S.bud S₂.p S₂.hok ((ra.ext x₂).rd da) (rb.rd db) e fun v h' tk x r => hQ v h' tk (x₁.trans (x₂.trans x)) r
theorem EvV.binop {l r : PySem.Expr} {o : Operator} {pos : Pos} {f g : St → Option LV} {op : PyData → PyData → Option LV} (hl : EvV G sc n l f) (hr : EvV G sc n r g) (ho : Op2 G (binaryOp o) op) :
    EvV G sc n (.BinOp l o r pos) (e2 op f g) := fun _ _ _ _ _ _ _ _ S e hQ => wpAny_BinOp (two hl hr ho S e hQ)
theorem EvV.cmp {l r : PySem.Expr} {o : CmpOp} {pos : Pos} {f g : St → Option LV} {op : PyData → PyData → Option LV} (hl : EvV G sc n l f) (hr : EvV G sc n r g) (ho : Op2 G (compareOp o) op) (hm : behindInMarks o r = false) :
    EvV G sc n (.Compare l [o] [r] pos) (e2 op f g) := fun _ _ _ _ _ _ _ _ S e hQ => wpAny_Compare1 (two hl hr ho S e hQ) hm

noncomputable def retI (i : Int) : Option LV := some (.d (.int i))
noncomputable def retB (b : Bool) : Option LV := some (.d (.bool b))
noncomputable def oAdd : PyData → PyData → Option LV
  | .int a, .int b => retI (a + b)
  | _, _ => none
noncomputable def oSub : PyData → PyData → Option LV
  | .int a, .int b => retI (a - b)
  | .bool a, .bool b => retI (b2i a - b2i b)
  | _, _ => none
noncomputable def oMul : PyData → PyData → Option LV
  | .int a, .int b => cond (Nat.ble (Builtin.Int.intBits a) 64) (retI (a * b)) none
  | _, _ => none
noncomputable def oMod : PyData → PyData → Option LV
  | .int a, .int b => if b = 0 then none else retI (a.fmod b)
  | _, _ => none
noncomputable def oPow : PyData → PyData → Option LV
  | .int a, .int b => if 0 ≤ b ∧ Builtin.Int.intBits a * b ≤ 1000 then retI (a ^ b.toNat) else none
  | _, _ => none

theorem op2_int {t : Value → Value → Sem Value} {op : PyData → PyData → Option LV} (hop : ∀ a b lv, op a b = some lv → ∃ i j k, a = .int i ∧ b = .int j ∧ lv = .d (.int k) ∧
      ∀ (m : Nat) (A : Around) (s : Shared) (t₁ t₂ : Tok) (Q : Value → Shared → Prop) (E : Value → Shared → Prop), Bud m A → G.P s.heap → (∀ t' tk, Q (.int k t') { s with toks := tk }) → wpAny (model G.prog G.w) A (t (.int i t₁) (.int j t₂)) Q E s) : Op2 G t op := by
  intro m A H s va vb a b lv Q E hb hp hk ra rb e hQ
  obtain ⟨i, j, k, rfl, rfl, rfl, w⟩ := hop a b lv e
  obtain ⟨t₁, rfl⟩ := ra.int_inv
  obtain ⟨t₂, rfl⟩ := rb.int_inv
  exact w m A s t₁ t₂ Q E hb hp fun t' tk => hQ _ s.heap tk (Ext.refl _) (Rd.int k t')

theorem inv_ii {f : Int → Int → Option LV} {a b : PyData} {lv : LV} (e : (match a, b with | .int i, .int j => f i j | _, _ => none) = some lv) : ∃ i j, a = .int i ∧ b = .int j ∧ f i j = some lv := by
  split at e
  · exact ⟨_, _, rfl, rfl, e⟩
  · cases e
theorem inv_is {f : Int → Int → Option LV} {g : Str → Str → Option LV} {a b : PyData} {lv : LV} (e : (match a, b with | .int i, .int j => f i j | .str i, .str j => g i j | _, _ => none) = some lv) :
    (∃ i j, a = .int i ∧ b = .int j ∧ f i j = some lv) ∨ ∃ i j, a = .str i ∧ b = .str j ∧ g i j = some lv := by
  split at e
  · exact .inl ⟨_, _, rfl, rfl, e⟩
  · exact .inr ⟨_, _, rfl, rfl, e⟩
  · cases e
theorem inv_ib {f : Int → Int → Option LV} {g : Bool → Bool → Option LV} {a b : PyData} {lv : LV} (e : (match a, b with | .int i, .int j => f i j | .bool i, .bool j => g i j | _, _ => none) = some lv) :
    (∃ i j, a = .int i ∧ b = .int j ∧ f i j = some lv) ∨ ∃ i j, a = .bool i ∧ b = .bool j ∧ g i j = some lv := by
  split at e
  · exact .inl ⟨_, _, rfl, rfl, e⟩
  · exact .inr ⟨_, _, rfl, rfl, e⟩
  · cases e
theorem if_neg_some {α : Type} {p : Prop} [Decidable p] {x : Option α} {y : α} (e : (if p then none else x) = some y) : ¬ p ∧ x = some y := by
  by_cases q : p
  · exact (no_some (if_pos q) e).elim
  · rw [if_neg q] at e; exact ⟨q, e⟩
theorem if_pos_some {α : Type} {p : Prop} [Decidable p] {x : Option α} {y : α} (e : (if p then x else none) = some y) : p ∧ x = some y := by
  by_cases q : p
  · rw [if_pos q] at e; exact ⟨q, e⟩
  · exact (no_some (if_neg q) e).elim
theorem cond_some {α : Type} {c : Bool} {x : Option α} {y : α} (e : cond c x none = some y) : c = true ∧ x = some y := by
  cases c
  · cases e
  · exact ⟨rfl, e⟩
theorem op_add : Op2 G (binaryOp .Add) oAdd := op2_int fun a b lv e => by
  obtain ⟨i, j, rfl, rfl, e⟩ := inv_ii e
  cases e
  exact ⟨_, _, _, rfl, rfl, rfl, fun m A s t₁ t₂ Q E hb hp h => PyProof.Rows.add_int (h _ _)⟩
theorem op_mul : Op2 G (binaryOp .Mult) oMul := op2_int fun a b lv e => by
  obtain ⟨i, j, rfl, rfl, e⟩ := inv_ii e
  obtain ⟨q, e⟩ := cond_some e
  cases e
  exact ⟨_, _, _, rfl, rfl, rfl, fun m A s t₁ t₂ Q E hb hp h => PyProof.Rows.mul_int (h _ _) (.of_left (Nat.le_of_ble_eq_true q))⟩
theorem op_mod : Op2 G (binaryOp .Mod) oMod := op2_int fun a b lv e => by
  obtain ⟨i, j, rfl, rfl, e⟩ := inv_ii e
  obtain ⟨q, e⟩ := if_neg_some e
  cases e
  exact ⟨_, _, _, rfl, rfl, rfl, fun m A s t₁ t₂ Q E hb hp h => PyProof.Rows.mod_int' q (h _ _)⟩
theorem op_pow : Op2 G (binaryOp .Pow) oPow := op2_int fun a b lv e => by
  obtain ⟨i, j, rfl, rfl, e⟩ := inv_ii e
  obtain ⟨q, e⟩ := if_pos_some e
  cases e
  exact ⟨_, _, _, rfl, rfl, rfl, fun m A s t₁ t₂ Q E hb hp h => PyProof.Rows.pow_int q.1 (Int.le_trans q.2 (by decide)) (h _ _)⟩
theorem op_sub : Op2 G (binaryOp .Sub) oSub := by
  intro m A H s va vb a b lv Q E hb hp hk ra rb e hQ
  rcases inv_ib e with ⟨i, j, rfl, rfl, e⟩ | ⟨i, j, rfl, rfl, e⟩
  · cases e
    obtain ⟨t₁, rfl⟩ := ra.int_inv
    obtain ⟨t₂, rfl⟩ := rb.int_inv
    exact PyProof.Rows.sub_int (hQ _ s.heap _ (Ext.refl _) (Rd.int _ _))
  · cases e
    obtain rfl := ra.bool_inv
    obtain rfl := rb.bool_inv
    exact PyProof.Rows.sub_bool (hQ _ s.heap _ (Ext.refl _) (Rd.int _ _))
noncomputable def strLt (x y : Str) : Bool := decide (x.cps.toList < y.cps.toList)
noncomputable def oLt : PyData → PyData → Option LV
  | .int a, .int b => retB (decide (a < b))
  | .str a, .str b => retB (strLt a b)
  | _, _ => none
noncomputable def oGt : PyData → PyData → Option LV
  | .int a, .int b => retB (decide (b < a))
  | .str a, .str b => retB (strLt b a)
  | _, _ => none
theorem op_lt : Op2 G (compareOp .Lt) oLt := by
  intro m A H s va vb a b lv Q E hb hp hk ra rb e hQ
  rcases inv_is e with ⟨i, j, rfl, rfl, e⟩ | ⟨i, j, rfl, rfl, e⟩
  · cases e
    obtain ⟨t₁, rfl⟩ := ra.int_inv
    obtain ⟨t₂, rfl⟩ := rb.int_inv
    exact PyProof.Rows.lt_int (hQ _ s.heap s.toks (Ext.refl _) (Rd.bool _))
  · cases e
    obtain ⟨t₁, rfl⟩ := ra.str_inv
    obtain ⟨t₂, rfl⟩ := rb.str_inv
    exact PyProof.Rows.lt_str (hQ _ s.heap s.toks (Ext.refl _) (Rd.bool _))
theorem op_gt : Op2 G (compareOp .Gt) oGt := by
  intro m A H s va vb a b lv Q E hb hp hk ra rb e hQ
  rcases inv_is e with ⟨i, j, rfl, rfl, e⟩ | ⟨i, j, rfl, rfl, e⟩
  · cases e
    obtain ⟨t₁, rfl⟩ := ra.int_inv
    obtain ⟨t₂, rfl⟩ := rb.int_inv
    exact PyProof.Rows.gt_int (hQ _ s.heap s.toks (Ext.refl _) (Rd.bool _))
  · cases e
    obtain ⟨t₁, rfl⟩ := ra.str_inv
    obtain ⟨t₂, rfl⟩ := rb.str_inv
    exact PySem.P.gt_str (hQ _ s.heap s.toks (Ext.refl _) (Rd.bool _))
noncomputable def eqOk (a b : PyData) : Bool := a.canLay0 && b.canLay0 && Nat.ble (min a.depth b.depth) 100
noncomputable def oEq (a b : PyData) : Option LV := cond (eqOk a b) (retB (PyData.eqv a b)) none
noncomputable def oNe (a b : PyData) : Option LV := cond (eqOk a b) (retB (!PyData.eqv a b)) none
theorem cLine_eq : cLine = 9900 := rfl
theorem eqOk_of {a b : PyData} (h : eqOk a b = true) : a.canLay0 = true ∧ b.canLay0 = true ∧ min a.depth b.depth ≤ 100 := by
  unfold eqOk at h
  obtain ⟨h1, h2⟩ := Bool.and_eq_true_iff.mp h
  obtain ⟨h3, h4⟩ := Bool.and_eq_true_iff.mp h1
  exact ⟨h3, h4, Nat.le_of_ble_eq_true h2⟩
theorem op_eq : Op2 G (compareOp .Eq) oEq := by
  intro m A H s va vb a b lv Q E hb hp hk ra rb e hQ
  unfold oEq at e
  refine cond_elim (c := eqOk a b) e fun q e => ?_
  cases e
  obtain ⟨h1, h2, h3⟩ := eqOk_of q
  obtain ⟨_, ra⟩ := ra.reads
  obtain ⟨_, rb⟩ := rb.reads
  exact SeqAt.compareEq_reads ra rb h1 h2 (by have := hb.un; rw [cLine_eq]; lia) (hQ _ s.heap s.toks (Ext.refl _) (Rd.bool _))
theorem op_ne : Op2 G (compareOp .NotEq) oNe := by
  intro m A H s va vb a b lv Q E hb hp hk ra rb e hQ
  unfold oNe at e
  refine cond_elim (c := eqOk a b) e fun q e => ?_
  cases e
  obtain ⟨h1, h2, h3⟩ := eqOk_of q
  obtain ⟨_, ra⟩ := ra.reads
  obtain ⟨_, rb⟩ := rb.reads
  exact SeqAt.compareNe_reads ra rb h1 h2 (by have := hb.un; rw [cLine_eq]; lia) (hQ _ s.heap s.toks (Ext.refl _) (Rd.bool _))
noncomputable def inOk (xs : List PyData) (d : PyData) : Bool := PyData.canLayAll0 xs && d.canLay0 && Nat.ble (min (PyData.depthAll xs) d.depth) 100
noncomputable def oIn : PyData → PyData → Option LV
  | d, .list xs => cond (inOk xs d) (retB (xs.any fun y => PyData.eqv y d)) none
  | _, _ => none
theorem op_in : Op2 G (compareOp .In) oIn := by
  intro m A H s va vb a b lv Q E hb hp hk ra rb e hQ
  obtain ⟨xs, rfl⟩ : ∃ ww, b = .list ww := by cases b <;> first | exact ⟨_, rfl⟩ | cases e
  unfold oIn at e
  dsimp only at e
  refine cond_elim (c := inOk xs a) e fun q e => ?_
  cases e
  unfold inOk at q
  obtain ⟨h1, h2⟩ := Bool.and_eq_true_iff.mp q
  obtain ⟨h3, h4⟩ := Bool.and_eq_true_iff.mp h1
  have h5 := Nat.le_of_ble_eq_true h2
  obtain ⟨_, ra⟩ := ra.reads
  obtain ⟨_, rb⟩ := rb.reads
  exact SeqAt.in_list_reads rb ra h3 h4 (by have := hb.un; rw [cLine_eq]; lia) (hQ _ s.heap s.toks (Ext.refl _) (Rd.bool _))
end
end Mine
end

section
open PySem PySem.W PyProof.Rows PySem.Calls
namespace Mine
section
variable {G : Gd} {sc : Scope} {n : Nat}

noncomputable def oFdiv' : PyData → PyData → Option LV
  | .int a, .int b => if b = 0 then none else cond (Nat.ble b.natAbs 1000000000) (retI (a.fdiv b)) none
  | _, _ => none
theorem fdiv_ok {i j : Int} {lv : LV} (e : oFdiv' (.int i) (.int j) = some lv) : j ≠ 0 ∧ j.natAbs ≤ 1000000000 ∧ lv = .d (.int (i.fdiv j)) := by
  refine byC fun CC hCC => ?_
  obtain ⟨q, e⟩ := if_neg_some e
  obtain ⟨r, e⟩ := cond_some e
  cases e
  refine hCC ?_
  clear hCC
  exact ⟨q, Nat.le_of_ble_eq_true r, rfl⟩
theorem op_fdiv : Op2 G (binaryOp .FloorDiv) oFdiv' := op2_int fun a b lv e => by
  refine byC fun CC hCC => ?_
  obtain ⟨i, j, rfl, rfl, e⟩ := inv_ii e
  obtain ⟨h1, h2, rfl⟩ := fdiv_ok e
  refine hCC ?_
  clear hCC
  exact ⟨_, _, _, rfl, rfl, rfl, fun m A s t₁ t₂ Q E hb hp h => PyProof.Rows.floordiv_int h1 (h _ _) (.inl (PyProof.noPylong_small (by lia)))⟩
theorem op_ifdiv : Op2 G (inplaceOp .FloorDiv) oFdiv' := op2_int fun a b lv e => by
  refine byC fun CC hCC => ?_
  obtain ⟨i, j, rfl, rfl, e⟩ := inv_ii e
  obtain ⟨h1, h2, rfl⟩ := fdiv_ok e
  refine hCC ?_
  clear hCC
  exact ⟨_, _, _, rfl, rfl, rfl, fun m A s t₁ t₂ Q E hb hp h => PyProof.Rows.ifloordiv_int h1 (h _ _) (.inl (PyProof.noPylong_small (by lia)))⟩
theorem op_isub : Op2 G (inplaceOp .Sub) oSub := by
  intro m A H s va vb a b lv Q E hb hp hk ra rb e hQ
  rcases inv_ib e with ⟨i, j, rfl, rfl, e⟩ | ⟨i, j, rfl, rfl, e⟩
  · refine byC fun CC hCC => ?_
    cases e
    obtain ⟨t₁, rfl⟩ := ra.int_inv
    obtain ⟨t₂, rfl⟩ := rb.int_inv
    refine hCC ?_
    clear hCC
    exact PyProof.Rows.isub_int (hQ _ s.heap _ (Ext.refl _) (Rd.int _ _))
  · refine byC fun CC hCC => ?_
    cases e
    obtain rfl := ra.bool_inv
    obtain rfl := rb.bool_inv
    refine hCC ?_
    clear hCC
    exact PyProof.Rows.isub_bool (hQ _ s.heap _ (Ext.refl _) (Rd.int _ _))

noncomputable def e1 (op : PyData → Option LV) (f : St → Option LV) : St → Option LV := fun st => (eDat f st).bind op
noncomputable def oNeg : PyData → Option LV
  | .int a => retI (-a)
  | _ => none
theorem EvV.neg {x : PySem.Expr} {pos : Pos} {f : St → Option LV} (hx : EvV G sc n x f) : EvV G sc n (.UnaryOp .USub x pos) (e1 oNeg f) := fun A env H st s lv Q E S e hQ => by
  unfold e1 at e
  refine byC fun CC hCC => ?_
  refine bind_some (e) fun a ha e => ?_
  refine ex2 (dat_some ha) fun la hla da => ?_
  refine hCC ?_
  clear hCC
  refine wpAny_UnaryOp (hx A env H st s la _ E S hla fun va h₁ t₁ x₁ ra => ?_)
  obtain ⟨ww, rfl⟩ : ∃ ww, a = .int ww := by cases a <;> first | exact ⟨_, rfl⟩ | cases e
  refine byC fun CC hCC => ?_
  cases e
  obtain ⟨t, rfl⟩ := (ra.rd da).int_inv
  refine hCC ?_
  clear hCC
  exact PyProof.Rows.neg_int (hQ _ h₁ _ x₁ (Rd.int _ _))
noncomputable def isN : LV → Bool
  | .d .none => true
  | _ => false
theorem RO.isN {H : List Addr} {h : Heap} {v : Value} {lv : LV} (r : RO G H h v lv) : (v == Value.none) = isN lv := by
  cases lv with
  | fn => cases r; rfl
  | own xs => obtain ⟨a, vs, rfl, _⟩ := r; rfl
  | arg xs => obtain ⟨a, vs, rfl, _⟩ := r; rfl
  | d p =>
    have r : Rd _ _ _ := r
    cases r <;> rfl

noncomputable def LV.lst : LV → Option (List PyData)
  | .d (.list xs) => some xs
  | .own xs => some xs
  | .arg xs => some xs
  | _ => none
theorem isList_hide {H : List Addr} {h : Heap} {a : Addr} {vs : Array Value} (l : (hideAll h H).IsList a vs) : h.IsList a vs := l.imp fun _ w => ⟨of_hideAll H w.1, w.2⟩
theorem RO.lst {H : List Addr} {h : Heap} {v : Value} {lv : LV} {xs : List PyData} (r : RO G H h v lv) (e : lv.lst = some xs) : ∃ a vs, v = .ref a ∧ h.IsList a vs ∧ RdA (hideAll h H) vs.toList xs := by
  cases lv with
  | fn => cases e
  | own ys => cases e; obtain ⟨a, vs, e, p, q⟩ := r; exact ⟨a, vs, e, p.isList, q⟩
  | arg ys => cases e; obtain ⟨a, vs, e, p, q⟩ := r; exact ⟨a, vs, e, isList_hide p, q⟩
  | d p =>
    obtain ⟨ww, rfl⟩ : ∃ ww, p = .list ww := by cases p <;> first | exact ⟨_, rfl⟩ | cases e
    cases e
    obtain ⟨a, vs, rfl, l, q⟩ := Rd.list_inv r
    exact ⟨a, vs, rfl, isList_hide l.isList, q⟩
noncomputable def eLst (f : St → Option LV) : St → Option (List PyData) := fun st => (f st).bind LV.lst
theorem lst_some {f : St → Option LV} {st : St} {xs : List PyData} (h : eLst f st = some xs) : ∃ lv, f st = some lv ∧ lv.lst = some xs := by
  unfold eLst at h
  cases q : f st with
  | none => rw [q] at h; cases h
  | some lv => rw [q] at h; exact ⟨lv, rfl, h⟩

noncomputable def pick (xs : List PyData) (i : Int) : Option PyData :=
  if 0 ≤ i then (if i < 1000000000 then xs[i.toNat]? else none) else if -1000000000 ≤ i ∧ -(xs.length : Int) ≤ i then xs[(i + xs.length).toNat]? else none
noncomputable def asInt : PyData → Option Int
  | .int i => some i
  | _ => none
theorem asInt_some {d : PyData} {i : Int} (h : asInt d = some i) : d = .int i := by cases d <;> cases h; rfl
noncomputable def eInt (f : St → Option LV) : St → Option Int := fun st => (eDat f st).bind asInt
theorem eInt_some {f : St → Option LV} {st : St} {i : Int} (h : eInt f st = some i) : ∃ lv, f st = some lv ∧ lv.dat = some (.int i) := by
  unfold eInt at h
  refine bind_some (h) fun d hd e => ?_
  rw [asInt_some e] at hd
  exact dat_some hd
noncomputable def eIdx (f g : St → Option LV) : St → Option LV := fun st => (eLst f st).bind fun xs => (eInt g st).bind fun i => (pick xs i).map .d
theorem getItem_pick {A : Around} {s : Shared} {a : Addr} {vs : Array Value} {h : Heap} {xs : List PyData} {i : Int} {t : Tok} {d : PyData} {Q E : Value → Shared → Prop} (hl : s.heap.IsList a vs) (r : RdA h vs.toList xs) (hp : pick xs i = some d)
    (hQ : ∀ v, Rd h v d → Q v s) : wpAny (model G.prog G.w) A (getItem (.ref a) (.int i t)) Q E s := by
  have hlen : vs.size = xs.length := by have := r.length; simpa using this
  unfold pick at hp
  by_cases h0 : 0 ≤ i
  · rw [if_pos h0] at hp
    by_cases h1 : i < 1000000000
    · rw [if_pos h1] at hp
      refine ex2 (r.get hp) fun v hv rv => ?_
      exact wpAny_getItem_list hl h0 (by lia) (by simpa using hv) (hQ v rv)
    · exact (no_some (if_neg h1) hp).elim
  · rw [if_neg h0] at hp
    by_cases h1 : -1000000000 ≤ i ∧ -(xs.length : Int) ≤ i
    · rw [if_pos h1] at hp
      refine ex2 (r.get hp) fun v hv rv => ?_
      exact wpAny_getItem_list_neg hl (by lia) (by rw [hlen]; exact h1.2) (by lia) (by rw [hlen]; simpa using hv) (hQ v rv)
    · exact (no_some (if_neg h1) hp).elim
theorem EvV.idx {v i : PySem.Expr} {pos : Pos} {f g : St → Option LV} (hv : EvV G sc n v f) (hi : EvV G sc n i g) (hs : ∀ o k, subscripted i false o k = operate [o, k] (getItem o k)) :
    EvV G sc n (.Subscript v i pos) (eIdx f g) := fun A env H st s lv Q E S e hQ => by
  unfold eIdx at e
  refine byC fun CC hCC => ?_
  refine bind_some (e) fun xs hx e => ?_
  refine bind_some (e) fun k hk e => ?_
  refine map_some (e) fun d hd ee => ?_
  subst ee
  refine ex2 (lst_some hx) fun la hla ea => ?_
  refine ex2 (eInt_some hk) fun lb hlb eb => ?_
  refine hCC ?_
  clear hCC
  refine Subscript_ (hv A env H st s la _ E S hla fun va h₁ t₁ x₁ ra => ?_)
  refine hi A env H st _ lb _ E (S.ext x₁) hlb fun vb h₂ t₂ x₂ rb => ?_
  refine byC fun CC hCC => ?_
  obtain ⟨a, vs, rfl, hl, q⟩ := (ra.ext x₂).lst ea
  obtain ⟨t, rfl⟩ := (rb.rd eb).int_inv
  refine hCC ?_
  clear hCC
  exact tail_any hl.typeIs list_getitem_lookup (getItem_pick hl q hd fun v r => hQ v h₂ t₂ (x₁.trans x₂) r) (hs _ _)

noncomputable def EvP (G : Gd) (sc : Scope) (n : Nat) (pe : Option PySem.Expr) (f : St → Option (Option Int)) : Prop :=
  ∀ (A : Around) (env : Env) (H : List Addr) (st : St) (s : Shared) (o : Option Int) (Q : Value → Shared → Prop) (E : Value → Shared → Prop), Sit G sc n A env H st s.heap → f st = some o →
    (∀ v h' tk, Ext s.heap h' → IsPart v o → Q v { s with heap := h', toks := tk }) → wpAny (model G.prog G.w) A (evalPart pe env) Q E s
noncomputable def pNone : St → Option (Option Int) := fun _ => some none
noncomputable def pSome (f : St → Option LV) : St → Option (Option Int) := fun st => (eInt f st).map some
theorem EvP.none : EvP G sc n .none pNone := fun A env H st s o Q E S e hQ => by
  cases e
  rw [evalPart_none]
  exact wpAny_pure (hQ _ s.heap s.toks (Ext.refl _) .none)
theorem EvP.some {e : PySem.Expr} {f : St → Option LV} (h : EvV G sc n e f) : EvP G sc n (.some e) (pSome f) := fun A env H st s o Q E S e hQ => by
  unfold pSome at e
  refine byC fun CC hCC => ?_
  refine map_some (e) fun i hi ee => ?_
  subst ee
  refine ex2 (eInt_some hi) fun lb hlb eb => ?_
  refine hCC ?_
  clear hCC
  rw [evalPart_some]
  refine h A env H st s lb _ E S hlb fun v h₁ t₁ x₁ r => ?_
  obtain ⟨t, rfl⟩ := (r.rd eb).int_inv
  exact hQ _ h₁ t₁ x₁ (.int i t)

noncomputable def pickD (xs : List PyData) (lo hi st : Option Int) : List PyData :=
  (sliceRange (sliceBounds lo hi st xs.length).1 (sliceBounds lo hi st xs.length).2.1 (sliceBounds lo hi st xs.length).2.2).filterMap (xs[·]?)
theorem RdA.pick {h : Heap} {vs : Array Value} {xs : List PyData} (r : RdA h vs.toList xs) (lo hi st : Option Int) : RdA h (slicePick vs lo hi st).toList (pickD xs lo hi st) := by
  have hlen : vs.size = xs.length := by have := r.length; simpa using this
  unfold slicePick pickD
  rw [hlen]
  generalize sliceRange _ _ _ = l
  simp only [List.toList_toArray]
  induction l with
  | nil => exact RdA.nil
  | cons j l ih =>
    simp only [List.filterMap_cons]
    cases q : xs[j]? with
    | none =>
      have : vs[j]? = none := by
        rw [List.getElem?_eq_none_iff] at q
        rw [Array.getElem?_eq_none_iff, hlen]; exact q
      rw [this]; exact ih
    | some d =>
      refine ex2 (r.get q) fun v hv rv => ?_
      have : vs[j]? = some v := by simpa using hv
      rw [this]; exact RdA.cons rv ih
noncomputable def eSlice (f : St → Option LV) (a b c : St → Option (Option Int)) : St → Option (List PyData) := fun st =>
  (eLst f st).bind fun xs => (a st).bind fun lo => (b st).bind fun hi => (c st).bind fun k => if k = some 0 then none else cond (Nat.ble xs.length 1000000) (some (pickD xs lo hi k)) none
theorem slice_sub {lo hi : Option PySem.Expr} {st : Option PySem.Expr} {p : Pos} (o i : Value) : ∃ ops, subscripted (.Slice lo hi st p) false o i = operate ops (getItem o i) := by
  cases st with
  | none => exact ⟨_, rfl⟩
  | some e => exact ⟨_, rfl⟩
theorem EvF.slice {v : PySem.Expr} {lo hi k : Option PySem.Expr} {p pos : Pos} {f : St → Option LV} {a b c : St → Option (Option Int)} (hv : EvV G sc n v f) (ha : EvP G sc n lo a) (hb : EvP G sc n hi b) (hc : EvP G sc n k c) :
    EvF G sc n (.Subscript v (.Slice lo hi k p) pos) (eSlice f a b c) := fun A env H st s ys Q E S e hQ => by
  unfold eSlice at e
  refine bind_some (e) fun xs hx e => ?_
  refine bind_some (e) fun i hi' e => ?_
  refine bind_some (e) fun j hj e => ?_
  refine bind_some (e) fun m hm e => ?_
  by_cases h0 : m = some 0
  · exact (no_some (if_pos h0) e).elim
  rw [if_neg h0] at e
  refine cond_elim (c := Nat.ble xs.length 1000000) e fun q e => ?_
  cases e
  refine ex2 (lst_some hx) fun la hla ea => ?_
  refine Subscript_ (hv A env H st s la _ E S hla fun va h₁ t₁ x₁ ra => ?_)
  refine wpAny_Slice (ha A env H st _ i _ E (S.ext x₁) hi' fun vi h₂ t₂ x₂ pi => ?_)
  refine hb A env H st _ j _ E ((S.ext x₁).ext x₂) hj fun vj h₃ t₃ x₃ pj => ?_
  refine hc A env H st _ m _ E (((S.ext x₁).ext x₂).ext x₃) hm fun vm h₄ t₄ x₄ pm => ?_
  refine byC fun CC hCC => ?_
  obtain ⟨a, vs, rfl, hl, qv⟩ := (ra.ext (x₂.trans (x₃.trans x₄))).lst ea
  obtain ⟨ops, hops⟩ := slice_sub (lo := lo) (hi := hi) (st := k) (p := p) (.ref a) (.ref h₄.objs.size)
  refine hCC ?_
  clear hCC
  have hlen : vs.size = xs.length := by have := qv.length; simpa using this
  have hsz : vs.size ≤ sizeLine := by have := Nat.le_of_ble_eq_true q; rw [hlen]; exact Nat.le_trans this (by decide)
  refine tail_any (Heap.IsList.typeIs (s := { s with heap := h₄.push { cls := .type "slice", data := .fields #[vi, vj, vm] }, toks := t₄ }) (hl.push _)) list_getitem_lookup
    (wpAny_getItem_list_slice (hl.push _) (Heap.IsSliceOf.new ..) pi pj pm h0 ?_ hsz) hops
  have xx : Ext s.heap h₄ := x₁.trans (x₂.trans (x₃.trans x₄))
  refine hQ _ _ _ (slicePick vs i j m) (xx.trans ((Ext.push _ _).trans (Ext.push _ _))) (fresh_of_ext (xx.trans (Ext.push _ _))) ⟨0, Heap.get?_push_size _ rfl⟩ ?_
  exact (qv.pick i j m).ext (hide_new ((Ext.push _ _).trans (Ext.push _ _)) (fresh_of_ext (Ext.push _ _)))
end
end Mine
end

section
open PySem PySem.W PyProof.Rows PySem.Calls
namespace Mine
section
variable {G : Gd} {sc : Scope} {n : Nat}

noncomputable def ROs (G : Gd) (H : List Addr) (h : Heap) : List Value → List LV → Prop
  | [], [] => True
  | v :: vs, l :: ls => RO G H h v l ∧ ROs G H h vs ls
  | _, _ => False
theorem ROs.ext {H : List Addr} {h h' : Heap} (x : Ext h h') {vs : List Value} : ∀ {ls : List LV}, ROs G H h vs ls → ROs G H h' vs ls := by
  induction vs with
  | nil =>
    intro ls r
    cases ls with
    | nil => trivial
    | cons => exact r
  | cons v vs ih =>
    intro ls r
    cases ls with
    | nil => exact r
    | cons => exact ⟨r.1.ext x, ih r.2⟩
theorem ROs.one {H : List Addr} {h : Heap} {vs : List Value} {l : LV} (r : ROs G H h vs [l]) : ∃ v, vs = [v] ∧ RO G H h v l := by
  cases vs with
  | nil => exact r.elim
  | cons v vs => cases vs with
    | nil => exact ⟨v, rfl, r.1⟩
    | cons => exact r.2.elim
theorem ROs.two {H : List Addr} {h : Heap} {vs : List Value} {l k : LV} (r : ROs G H h vs [l, k]) : ∃ v u, vs = [v, u] ∧ RO G H h v l ∧ RO G H h u k := by
  cases vs with
  | nil => exact r.elim
  | cons v vs => obtain ⟨u, rfl, q⟩ := ROs.one r.2; exact ⟨v, u, rfl, r.1, q⟩

noncomputable def NS (e : PySem.Expr) : Prop := ∀ rest env, starEach (e :: rest) env = (false, eval e env) :: starEach rest env
noncomputable def EvL (G : Gd) (sc : Scope) (n : Nat) (es : List PySem.Expr) (fs : St → Option (List LV)) : Prop :=
  ∀ (A : Around) (env : Env) (H : List Addr) (st : St) (s : Shared) (lvs : List LV) (pos : Pos) (Q : List Value → Shared → Prop) (E : Value → Shared → Prop), Sit G sc n A env H st s.heap → fs st = some lvs →
    (∀ vs h' tk, Ext s.heap h' → ROs G H h' vs lvs → Q vs { s with heap := h', toks := tk }) → wpAny (model G.prog G.w) A (spliced (backTo pos (starEach es env))) Q E s
noncomputable def lNil : St → Option (List LV) := fun _ => some []
noncomputable def lCons (f : St → Option LV) (g : St → Option (List LV)) : St → Option (List LV) := fun st => (f st).bind fun a => (g st).bind fun b => some (a :: b)
theorem EvL.nil : EvL G sc n [] lNil := fun A env H st s lvs pos Q E S e hQ => by
  cases e
  exact spliced_nil (hQ [] s.heap s.toks (Ext.refl _) trivial)
theorem EvL.cons {e : PySem.Expr} {es : List PySem.Expr} {f : St → Option LV} {g : St → Option (List LV)} (hn : NS e) (h : EvV G sc n e f) (hs : EvL G sc n es g) : EvL G sc n (e :: es) (lCons f g) := fun A env H st s lvs pos Q E S q hQ => by
  unfold lCons at q
  refine bind_some (q) fun a ha q => ?_
  refine bind_some (q) fun b hb q => ?_
  cases q
  rw [hn]
  show wpAny _ _ (spliced ((false, eval e env) :: backTo pos (starEach es env))) _ _ _
  refine spliced_cons (h A env H st s a _ E S ha fun v h₁ t₁ x₁ r => ?_)
  exact hs A env H st _ b pos _ E (S.ext x₁) hb fun vs h₂ t₂ x₂ rs => hQ _ h₂ t₂ (x₁.trans x₂) ⟨r.ext x₂, rs⟩
theorem backTo_plain (pos : Pos) : ∀ {es : List PySem.Expr} {env : Env}, (∀ e ∈ es, NS e) → (backTo pos (starEach es env)).any (·.1) = false
  | [], env, _ => rfl
  | e :: es, env, h => by
    rw [h e (.head _)]
    show (false || (backTo pos (starEach es env)).any (·.1)) = false
    rw [backTo_plain pos fun e' he => h e' (.tail _ he)]; rfl

noncomputable def allD : List LV → Option (List PyData)
  | [] => some []
  | .d p :: r => (allD r).map (p :: ·)
  | _ => none
theorem ROs.allD {H : List Addr} {h : Heap} {vs : List Value} : ∀ {ls : List LV} {ds : List PyData}, ROs G H h vs ls → allD ls = some ds → RdA (hideAll h H) vs ds := by
  induction vs with
  | nil =>
    intro ls ds r e
    cases ls with
    | nil => cases e; exact .nil
    | cons => exact r.elim
  | cons v vs ih =>
    intro ls ds r e
    cases ls with
    | nil => exact r.elim
    | cons l ls =>
      cases l with
      | d p =>
        refine map_some (e) fun es hes ee => ?_
        subst ee
        exact .cons r.1 (ih r.2 hes)
      | own => cases e
      | arg => cases e
      | fn => cases e
theorem ROs.length {H : List Addr} {h : Heap} {vs : List Value} : ∀ {ls : List LV}, ROs G H h vs ls → vs.length = ls.length := by
  induction vs with
  | nil =>
    intro ls r
    cases ls with
    | nil => rfl
    | cons => exact r.elim
  | cons v vs ih =>
    intro ls r
    cases ls with
    | nil => exact r.elim
    | cons => exact congrArg (· + 1) (ih r.2)
noncomputable def eList (fs : St → Option (List LV)) : St → Option (List PyData) := fun st => (fs st).bind fun ls => cond (Nat.ble ls.length 1000) (allD ls) none
theorem EvF.list {es : List PySem.Expr} {pos : Pos} {fs : St → Option (List LV)} (h : EvL G sc n es fs) : EvF G sc n (.List es pos) (eList fs) := fun A env H st s xs Q E S e hQ => by
  unfold eList at e
  refine bind_some (e) fun ls hls e => ?_
  refine cond_elim (c := Nat.ble ls.length 1000) e fun q e => ?_
  refine List_ (h A env H st s ls pos _ E S hls fun vs h₁ t₁ x₁ rs => ?_)
  have hl := rs.length
  refine wpAny_newObj_type ?_ (by show vs.toArray.size ≤ sizeLine; rw [List.size_toArray, hl]; exact Nat.le_trans (Nat.le_of_ble_eq_true q) (by decide))
  exact hQ _ _ t₁ vs.toArray (x₁.trans (Ext.push _ _)) (fresh_of_ext x₁) ⟨0, Heap.get?_push_size _ rfl⟩ ((ROs.allD rs e).ext (hide_new (Ext.push _ _) (get_fresh _)))
noncomputable def eTuple (fs : St → Option (List LV)) : St → Option LV := fun st => (fs st).bind fun ls => cond (Nat.ble ls.length 1000) ((allD ls).map fun ds => .d (.tuple ds)) none
theorem EvV.tuple {es : List PySem.Expr} {k : Nat} {pos : Pos} {fs : St → Option (List LV)} (h : EvL G sc n es fs) : EvV G sc n (.Tuple es k pos) (eTuple fs) := fun A env H st s lv Q E S e hQ => by
  unfold eTuple at e
  refine bind_some (e) fun ls hls e => ?_
  refine cond_elim (c := Nat.ble ls.length 1000) e fun q e => ?_
  refine map_some (e) fun ds hds ee => ?_
  subst ee
  refine Tuple_ (h A env H st s ls pos _ E S hls fun vs h₁ t₁ x₁ rs => ?_)
  have hl := rs.length
  refine wpAny_newObj_type ?_ (by show vs.toArray.size ≤ sizeLine; rw [List.size_toArray, hl]; exact Nat.le_trans (Nat.le_of_ble_eq_true q) (by decide))
  refine hQ _ _ t₁ (x₁.trans (Ext.push _ _)) ?_
  have ha : h₁.objs.size ∉ H := (S.hok.ext x₁).not_mem (get_fresh h₁)
  exact Rd.tuple (hideAll_get H (Heap.get?_push_size _ rfl) ha) rfl rfl ((ROs.allD rs hds).ext (hide_ext (Ext.push _ _)))

noncomputable def OpN (G : Gd) (t : List Value → Sem Value) (op : List LV → Option LV) : Prop :=
  ∀ (m : Nat) (A : Around) (H : List Addr) (s : Shared) (vs : List Value) (lvs : List LV) (lv : LV) (Q : Value → Shared → Prop) (E : Value → Shared → Prop), Bud m A → G.P s.heap → HOk H s.heap → ROs G H s.heap vs lvs → op lvs = some lv →
    (∀ v h' tk, Ext s.heap h' → RO G H h' v lv → Q v { s with heap := h', toks := tk }) → wpAny (model G.prog G.w) A (t vs) Q E s
noncomputable def eN (op : List LV → Option LV) (fs : St → Option (List LV)) : St → Option LV := fun st => (fs st).bind op
structure BName (G : Gd) (sc : Scope) (x : Str) (v : Value) : Prop where
  sc : sc.names.lookup x = some .globalImplicit
  mg : G.mg x = none
  mb : G.mb x = some v
  db : (x == ("__debug__" : Str)) = false
theorem BName.load {x : Str} {v : Value} {pos : Pos} (b : BName G sc x v) {A : Around} {env : Env} {H : List Addr} {st : St} {s : Shared} {Q : Value → Shared → Prop} {E : Value → Shared → Prop} (S : Sit G sc n A env H st s.heap) (h : Q v s) :
    wpAny (model G.prog G.w) A (eval (.Name x pos) env) Q E s :=
  Name_function_global S.eo.kind (S.eo.glob x b.sc) (loadGlobal_builtin (by rw [S.eo.gl]; exact G.g S.p) b.mg (by rw [S.eo.bl]; exact G.b S.p) b.mb h) b.db
theorem EvV.bcall {x : Str} {id : String} {e : PySem.Expr} {es : List PySem.Expr} {p pos : Pos} {fs : St → Option (List LV)} {op : List LV → Option LV} (b : BName G sc x (.builtin id)) (hns : ∀ e' ∈ e :: es, NS e') (h : EvL G sc n (e :: es) fs)
    (ho : OpN G (fun vs => call (.builtin id) vs) op) : EvV G sc n (.Call (.Name x p) (e :: es) [] pos) (eN op fs) := fun A env H st s lv Q E S q hQ => by
  unfold eN at q
  refine bind_some (q) fun ls hls q => ?_
  refine wpAny_Call_Name_kw (b.load S ?_)
  have e0 := hns e (.head _) es env
  have hp := backTo_plain pos (env := env) hns
  have hE := h A env H st s ls pos (fun vs s₁ => wpAny (model G.prog G.w) A (call (.builtin id) vs) Q E s₁) E S hls fun vs h₁ t₁ x₁ rs =>
    ho n A H _ vs ls lv Q E S.bud (G.mono x₁ S.p) (S.hok.ext x₁) rs q fun v h' tk x₂ r => hQ v h' tk (x₁.trans x₂) r
  rw [e0] at hE hp ⊢
  exact callWith_builtin hp (evalArgs_plain hE)

noncomputable def dInt : LV → Option Int
  | .d (.int i) => some i
  | _ => none
noncomputable def dStr : LV → Option Str
  | .d (.str x) => some x
  | _ => none
theorem dInt_inv {H : List Addr} {h : Heap} {v : Value} {l : LV} {i : Int} (r : RO G H h v l) (e : dInt l = some i) : ∃ t, v = .int i t := by
  cases l with
  | d p =>
    cases p <;> first | (cases e; done) | skip
    cases e; exact Rd.int_inv r
  | own => cases e
  | arg => cases e
  | fn => cases e
theorem dStr_inv {H : List Addr} {h : Heap} {v : Value} {l : LV} {x : Str} (r : RO G H h v l) (e : dStr l = some x) : ∃ t, v = .str x t := by
  cases l with
  | d p =>
    cases p <;> first | (cases e; done) | skip
    cases e; exact Rd.str_inv r
  | own => cases e
  | arg => cases e
  | fn => cases e
noncomputable def intsOf : List LV → Option (List Int)
  | [] => some []
  | l :: ls => (dInt l).bind fun i => (intsOf ls).map (i :: ·)
theorem intsOf_are {H : List Addr} {h : Heap} {ls : List LV} : ∀ {vs : List Value} {is : List Int}, ROs G H h vs ls → intsOf ls = some is → IntsAre vs is := by
  induction ls with
  | nil =>
    intro vs is r e
    cases vs with
    | nil => cases e; exact .nil
    | cons => exact r.elim
  | cons l ls ih =>
    intro vs is r e
    cases vs with
    | nil => exact r.elim
    | cons v vs =>
      refine bind_some (e) fun i hi e => ?_
      refine map_some (e) fun q hq ee => ?_
      subst ee
      obtain ⟨t, rfl⟩ := dInt_inv r.1 hi
      exact .cons i t (ih r.2 hq)
theorem ints_cons {vs : List Value} {a : Int} {r : List Int} (h : IntsAre vs (a :: r)) : ∃ t vs', vs = .int a t :: vs' ∧ IntsAre vs' r := by
  cases h with
  | cons _ t q => exact ⟨t, _, rfl, q⟩
theorem ints_nil {vs : List Value} (h : IntsAre vs []) : vs = [] := by cases h; rfl
noncomputable def lenL (l : LV) : Option LV := match dStr l with
  | some x => cond (Nat.ble x.length 1000000) (retI x.length) none
  | none => l.lst.bind fun xs => cond (Nat.ble xs.length 1000000) (retI xs.length) none
noncomputable def oLen : List LV → Option LV
  | [l] => lenL l
  | _ => none
theorem op_len : OpN G (fun vs => call (.builtin "len") vs) oLen := by
  intro m A H s vs lvs lv Q E hb hp hk rs e hQ
  cases lvs with
  | nil => cases e
  | cons l ls => cases ls with
    | cons => cases e
    | nil =>
      obtain ⟨v, rfl, r⟩ := rs.one
      cases hs : dStr l with
      | some x =>
        obtain ⟨t, rfl⟩ := dStr_inv r hs
        obtain ⟨q, e⟩ := cond_some (show cond _ _ _ = _ by have e : lenL l = _ := e; unfold lenL at e; rw [hs] at e; exact e)
        cases e
        have := Nat.le_of_ble_eq_true q
        exact PyProof.Rows.len_str (by (first | assumption | exact Nat.le_refl _ | exact Nat.zero_le _ | exact Nat.lt_succ_self _ | exact Nat.le_of_lt (by assumption) | exact Nat.succ_le_of_lt (by assumption) | lia)) (hQ _ s.heap _ (Ext.refl _) (Rd.int _ _))
      | none =>
        refine bind_some ((show l.lst.bind _ = _ by have e : lenL l = _ := e; unfold lenL at e; rw [hs] at e; exact e)) fun xs hxs e => ?_
        obtain ⟨q, e⟩ := cond_some e
        cases e
        have := Nat.le_of_ble_eq_true q
        obtain ⟨a, ws, rfl, hl, ra⟩ := r.lst hxs
        have hlen : ws.size = xs.length := ra.length
        refine PyProof.Rows.len_list hl (by lia) ?_
        rw [hlen]
        exact hQ _ s.heap _ (Ext.refl _) (Rd.int _ _)

noncomputable def zsOf : List PyData → Option (List Int)
  | [] => some []
  | .int i :: r => (zsOf r).map (i :: ·)
  | _ => none
theorem zs_are {h : Heap} {vs : List Value} : ∀ {xs : List PyData} {ns : List Int}, RdA h vs xs → zsOf xs = some ns → IntsAre vs ns := by
  induction vs with
  | nil => intro xs ns r e; rw [r.nilL] at e; cases e; exact .nil
  | cons v vs ih =>
    intro xs ns r e
    obtain ⟨d, ds, rfl, a, b⟩ := r.consL
    obtain ⟨ww, rfl⟩ : ∃ ww, d = .int ww := by cases d <;> first | exact ⟨_, rfl⟩ | cases e
    refine map_some (e) fun ms hms ee => ?_
    subst ee
    obtain ⟨t, rfl⟩ := a.int_inv
    exact .cons _ t (ih b hms)
theorem rdA_of_ints {h : Heap} {vs : List Value} {ns : List Int} (r : IntsAre vs ns) : RdA h vs (ns.map .int) := IntsAre.rec (motive := fun vs ns _ => RdA h vs (ns.map .int)) .nil (fun n t _ _ _ ih => .cons (.int n t) ih) r
theorem zs_map : ∀ ns : List Int, zsOf (ns.map .int) = some ns
  | [] => rfl
  | i :: r => by show (zsOf (r.map .int)).map (i :: ·) = _; rw [zs_map r]; rfl
noncomputable def oSum : List LV → Option LV
  | [l] => l.lst.bind fun xs => (zsOf xs).bind fun ns => retI ns.sum
  | _ => none
theorem op_sum : OpN G (fun vs => call (.builtin "sum") vs) oSum := by
  intro m A H s vs lvs lv Q E hb hp hk rs e hQ
  cases lvs with
  | nil => cases e
  | cons l ls => cases ls with
    | cons => cases e
    | nil =>
      obtain ⟨v, rfl, r⟩ := rs.one
      unfold oSum at e
      refine bind_some (e) fun xs hxs e => ?_
      refine bind_some (e) fun ns hns e => ?_
      cases e
      obtain ⟨a, ws, rfl, hl, ra⟩ := r.lst hxs
      have hi := zs_are ra hns
      obtain ⟨ys, hy⟩ := hi.allInts.items
      have hn : numsOf ws.toList = ns := hi.numsOf
      have hw : ws = intItems ys := by exact hy
      subst hw
      rw [nums_intItems] at hn
      refine sum_intListG hb.hh hl fun h' tk t' hk' => ?_
      have := hQ (.int ns.sum t') h' tk hk' (Rd.int _ _)
      rw [preSum_eq, List.take_of_length_le (by simp), hn]
      exact this
noncomputable def oMin : List LV → Option LV := fun ls => (intsOf ls).bind fun is => match is with
  | [a, b] => retI (if b < a then b else a)
  | _ => none
theorem op_min : OpN G (fun vs => call (.builtin "min") vs) oMin := by
  intro m A H s vs lvs lv Q E hb hp hk rs e hQ
  refine bind_some (e) fun is hi e => ?_
  have r := intsOf_are rs hi
  cases is with
  | nil => cases e
  | cons a is => cases is with
    | nil => cases e
    | cons b is => cases is with
      | cons => cases e
      | nil =>
        cases e
        obtain ⟨t₁, _, rfl, r1⟩ := ints_cons r
        obtain ⟨t₂, _, rfl, r2⟩ := ints_cons r1
        cases ints_nil r2
        refine min_two_ints hb.hh fun h' tk hk' => ?_
        by_cases c : b < a
        · have := hQ (.int b t₂) h' tk hk' (by rw [if_pos c]; exact Rd.int _ _)
          rwa [if_pos c]
        · have := hQ (.int a t₁) h' tk hk' (by rw [if_neg c]; exact Rd.int _ _)
          rwa [if_neg c]
end
end Mine
end

section
open PySem PySem.W PyProof.Rows PySem.Calls
namespace Mine
section
variable {G : Gd} {sc : Scope} {n : Nat}

noncomputable def eIdxS (f g : St → Option LV) : St → Option LV := fun st => (eDat f st).bind fun d => (eInt g st).bind fun i => match d with
  | .str x => if 0 ≤ i ∧ i < 1000000000 then (x.cps[i.toNat]?).map fun c => .d (.str ⟨#[c]⟩) else none
  | _ => none
theorem EvV.idxS {v i : PySem.Expr} {pos : Pos} {f g : St → Option LV} (hv : EvV G sc n v f) (hi : EvV G sc n i g) (hs : ∀ o k, subscripted i false o k = operate [o, k] (getItem o k)) :
    EvV G sc n (.Subscript v i pos) (eIdxS f g) := fun A env H st s lv Q E S e hQ => by
  unfold eIdxS at e
  refine byC fun CC hCC => ?_
  refine bind_some (e) fun d hd e => ?_
  refine bind_some (e) fun k hk e => ?_
  obtain ⟨x, rfl⟩ : ∃ x, d = .str x := by cases d <;> first | exact ⟨_, rfl⟩ | cases e
  refine hCC ?_
  clear hCC
  dsimp only at e
  by_cases h0 : 0 ≤ k ∧ k < 1000000000
  · rw [if_pos h0] at e
    refine byC fun CC hCC => ?_
    refine map_some (e) fun c hc ee => ?_
    subst ee
    refine ex2 (dat_some hd) fun la hla ea => ?_
    refine ex2 (eInt_some hk) fun lb hlb eb => ?_
    refine hCC ?_
    clear hCC
    refine Subscript_ (hv A env H st s la _ E S hla fun va h₁ t₁ x₁ ra => ?_)
    refine hi A env H st _ lb _ E (S.ext x₁) hlb fun vb h₂ t₂ x₂ rb => ?_
    obtain ⟨t, rfl⟩ := (ra.rd ea).str_inv
    obtain ⟨u, rfl⟩ := (rb.rd eb).int_inv
    refine tail_any (typeIs_str _ x t) F.slot_str_getitem.lookup (PySem.P.getItem_str (c := c) ?_ ?_ (hQ _ h₂ _ (x₁.trans x₂) (Rd.str _ _))) (hs _ _)
    · have a1 : ¬ (k < -(2 ^ 63 : Int)) := by lia
      have a2 : ¬ (k ≥ 2 ^ 63) := by lia
      simp [a1, a2]
      lia
    · have hlt : k.toNat < x.cps.size := by
        have := (Array.getElem?_eq_some_iff.mp hc).1; exact this
      have e1 : seqIndex? k x.length = some k.toNat := by
        unfold seqIndex?
        have : ¬ (k < 0) := by lia
        have h3 : k < x.length := by show k < (x.cps.size : Int); lia
        simp [this]
        lia
      rw [e1]; exact hc
  · exact (no_some (if_neg h0) e).elim
noncomputable def eSliceS (f a b : St → Option LV) : St → Option LV := fun st => (eDat f st).bind fun d => (eInt a st).bind fun i => (eInt b st).bind fun j => match d with
  | .str x => cond (Nat.ble x.length 1000000) (some (.d (.str (Txt.slice x (some i) (some j))))) none
  | _ => none
theorem EvV.sliceS {v lo hi : PySem.Expr} {p pos : Pos} {f a b : St → Option LV} (hv : EvV G sc n v f) (ha : EvV G sc n lo a) (hb : EvV G sc n hi b) : EvV G sc n (.Subscript v (.Slice (.some lo) (.some hi) .none p) pos) (eSliceS f a b) := fun A env H st s lv Q E S e hQ => by
  unfold eSliceS at e
  refine byC fun CC hCC => ?_
  refine bind_some (e) fun d hd e => ?_
  refine bind_some (e) fun i hi' e => ?_
  refine bind_some (e) fun j hj e => ?_
  obtain ⟨x, rfl⟩ : ∃ x, d = .str x := by cases d <;> first | exact ⟨_, rfl⟩ | cases e
  refine hCC ?_
  clear hCC
  dsimp only at e
  refine cond_elim (c := Nat.ble x.length 1000000) e fun q e => ?_
  cases e
  refine byC fun CC hCC => ?_
  refine ex2 (dat_some hd) fun la hla ea => ?_
  refine ex2 (eInt_some hi') fun lb hlb eb => ?_
  refine ex2 (eInt_some hj) fun lc hlc ec => ?_
  refine hCC ?_
  clear hCC
  refine Subscript_ (hv A env H st s la _ E S hla fun va h₁ t₁ x₁ ra => ?_)
  refine wpAny_Slice ?_
  rw [evalPart_some, evalPart_some, evalPart_none]
  refine ha A env H st _ lb _ E (S.ext x₁) hlb fun vi h₂ t₂ x₂ ri => ?_
  refine hb A env H st _ lc _ E ((S.ext x₁).ext x₂) hlc fun vj h₃ t₃ x₃ rj => ?_
  refine wpAny_pure ?_
  obtain ⟨t, rfl⟩ := (ra.rd ea).str_inv
  obtain ⟨u, rfl⟩ := (ri.rd eb).int_inv
  obtain ⟨w, rfl⟩ := (rj.rd ec).int_inv
  have hsz : x.length ≤ sizeLine := Nat.le_trans (Nat.le_of_ble_eq_true q) (by decide)
  obtain ⟨T, id, hT, ty, hg⟩ := SBH.sliceItem_ss (prog := G.prog) (w := G.w) (A := A) (E := E) (P := fun h => Ext s.heap h) (s := { s with heap := h₃, toks := t₃ }) (x := x) (t := t) (i := i) (j := j) (ui := u) (uj := w) (Q := Q)
    (fun h ob e => e.trans (Ext.push _ _)) (x₁.trans (x₂.trans x₃)) (fun h' t' k hk => hQ _ h' k hk (Rd.str _ _)) hsz
  exact tail_any ty hT hg (by rfl)

noncomputable def LV.plst : LV → Option (List PyData)
  | .d (.list xs) => some xs
  | .own xs => some xs
  | _ => none
theorem RO.plst {H : List Addr} {h : Heap} {v : Value} {lv : LV} {xs : List PyData} (r : RO G H h v lv) (e : lv.plst = some xs) : ∃ a vs k, v = .ref a ∧ h.get? a = some { cls := .type "list", data := .seq vs k } ∧ RdA (hideAll h H) vs.toList xs := by
  cases lv with
  | fn => cases e
  | arg => cases e
  | own ys => cases e; obtain ⟨a, vs, e, ⟨k, p⟩, q⟩ := r; exact ⟨a, vs, k, e, p, q⟩
  | d p =>
    obtain ⟨ww, rfl⟩ : ∃ ww, p = .list ww := by cases p <;> first | exact ⟨_, rfl⟩ | cases e
    cases e
    obtain ⟨a, vs, rfl, ⟨k, l⟩, q⟩ := Rd.list_inv r
    exact ⟨a, vs, k, rfl, of_hideAll H l, q⟩
noncomputable def ePlst (f : St → Option LV) : St → Option (List PyData) := fun st => (f st).bind LV.plst
theorem plst_some {f : St → Option LV} {st : St} {xs : List PyData} (h : ePlst f st = some xs) : ∃ lv, f st = some lv ∧ lv.plst = some xs := by
  unfold ePlst at h
  cases q : f st with
  | none => rw [q] at h; cases h
  | some lv => rw [q] at h; exact ⟨lv, rfl, h⟩
noncomputable def eCat (f g : St → Option LV) : St → Option (List PyData) := fun st => (ePlst f st).bind fun xs => (ePlst g st).bind fun ys => cond (Nat.ble (xs.length + ys.length) 1000000) (some (xs ++ ys)) none
theorem EvF.cat {l r : PySem.Expr} {pos : Pos} {f g : St → Option LV} (hl : EvV G sc n l f) (hr : EvV G sc n r g) : EvF G sc n (.BinOp l .Add r pos) (eCat f g) := fun A env H st s zs Q E S e hQ => by
  unfold eCat at e
  refine bind_some (e) fun xs hx e => ?_
  refine bind_some (e) fun ys hy e => ?_
  refine cond_elim (c := Nat.ble (xs.length + ys.length) 1000000) e fun q e => ?_
  cases e
  refine byC fun CC hCC => ?_
  refine ex2 (plst_some hx) fun la hla ea => ?_
  refine ex2 (plst_some hy) fun lb hlb eb => ?_
  refine hCC ?_
  clear hCC
  refine wpAny_BinOp (hl A env H st s la _ E S hla fun va h₁ t₁ x₁ ra => ?_)
  refine hr A env H st _ lb _ E (S.ext x₁) hlb fun vb h₂ t₂ x₂ rb => ?_
  refine byC fun CC hCC => ?_
  obtain ⟨a, vs, k, rfl, pa, qa⟩ := (ra.ext x₂).plst ea
  obtain ⟨b, us, j, rfl, pb, qb⟩ := rb.plst eb
  refine hCC ?_
  clear hCC
  have la := qa.length
  have lb := qb.length
  simp only [Array.length_toList] at la lb
  have hsz : vs.size + us.size ≤ sizeLine := by rw [la, lb]; exact Nat.le_trans (Nat.le_of_ble_eq_true q) (by decide)
  refine PySem.P.add_list pa pb ?_ hsz
  refine hQ _ _ _ (vs ++ us) (x₁.trans (x₂.trans (Ext.push _ _))) (fresh_of_ext (x₁.trans x₂)) ⟨0, Heap.get?_push_size _ rfl⟩ ?_
  rw [Array.toList_append]
  exact (qa.append qb).ext (hide_new (Ext.push _ _) (get_fresh _))
noncomputable def rep (xs : List PyData) : Nat → List PyData
  | 0 => []
  | k + 1 => xs ++ rep xs k
theorem RdA.rep {h : Heap} {vs : Array Value} {xs : List PyData} (r : RdA h vs.toList xs) : ∀ (k : Nat), RdA h (List.foldl (fun x1 x2 => x1 ++ x2) #[] (List.replicate k vs)).toList (rep xs k) := by
  have key : ∀ (k : Nat) (acc : Array Value) (ys : List PyData), RdA h acc.toList ys → RdA h (List.foldl (fun x1 x2 => x1 ++ x2) acc (List.replicate k vs)).toList (ys ++ Mine.rep xs k) := by
    intro k
    induction k with
    | zero => intro acc ys q; simpa [Mine.rep] using q
    | succ k ih =>
      intro acc ys q
      rw [List.replicate_succ, List.foldl_cons]
      have := ih (acc ++ vs) (ys ++ xs) (by rw [Array.toList_append]; exact q.append r)
      rwa [List.append_assoc] at this
  intro k
  simpa using key k #[] [] .nil
noncomputable def eRep (f g : St → Option LV) : St → Option (List PyData) := fun st => (ePlst f st).bind fun xs => (eInt g st).bind fun i => if 0 ≤ i ∧ i ≤ 1000 ∧ xs.length = 1 then some (rep xs i.toNat) else none
theorem EvF.rep {l r : PySem.Expr} {pos : Pos} {f g : St → Option LV} (hl : EvV G sc n l f) (hr : EvV G sc n r g) : EvF G sc n (.BinOp l .Mult r pos) (eRep f g) := fun A env H st s zs Q E S e hQ => by
  unfold eRep at e
  refine bind_some (e) fun xs hx e => ?_
  refine bind_some (e) fun i hy e => ?_
  by_cases q : 0 ≤ i ∧ i ≤ 1000 ∧ xs.length = 1
  · rw [if_pos q] at e; cases e
    refine byC fun CC hCC => ?_
    refine ex2 (plst_some hx) fun la hla ea => ?_
    refine ex2 (eInt_some hy) fun lb hlb eb => ?_
    refine hCC ?_
    clear hCC
    refine wpAny_BinOp (hl A env H st s la _ E S hla fun va h₁ t₁ x₁ ra => ?_)
    refine hr A env H st _ lb _ E (S.ext x₁) hlb fun vb h₂ t₂ x₂ rb => ?_
    refine byC fun CC hCC => ?_
    obtain ⟨a, vs, k, rfl, pa, qa⟩ := (ra.ext x₂).plst ea
    obtain ⟨u, rfl⟩ := (rb.rd eb).int_inv
    refine hCC ?_
    clear hCC
    have la := qa.length
    simp only [Array.length_toList] at la
    have h1 : vs.size = 1 := by rw [la, q.2.2]
    have he : vs.isEmpty = false := by rw [Array.isEmpty_eq_false_iff]; intro hv; rw [hv] at la; simp at la; lia
    refine wpAny_binaryOp_repeat_ref (T := "list") (U := "int") (by decide) ⟨_, pa, rfl⟩ (fun s' => typeIs_int s' i u) noFill_list_mul F.fills_int_mul F.slot_int_rmul repeat_list F.slot_int_index.lookup
      (call_meets F.slot_int_rmul (typeIs_int _ i u) F.entry_int_rmul (F.args_int_rmul_2 _ _) (int___rmul___int_list i u a vs k)
        ⟨pa, rfl, ⟨_, pa, rfl⟩, call_meets F.slot_list_mul ⟨_, pa, rfl⟩ F.entry_list_mul (F.args_list_mul_2 _ _)
          (AutoListH.list___mul___list_int_3 a vs k i u (by simp [Builtin.List.listFitsIndex]; lia) (by rw [h1]; lia) (by rw [h1]; simp [Builtin.List.listTooLong, sizeLine]; lia))
          ⟨pa, ?_⟩⟩)
    refine hQ _ _ _ (List.foldl (fun x1 x2 => x1 ++ x2) #[] (List.replicate (if vs.isEmpty = true then 0 else i.toNat) vs)) (x₁.trans (x₂.trans (Ext.push _ _))) (fresh_of_ext (x₁.trans x₂)) ⟨0, Heap.get?_push_size _ rfl⟩ ?_
    rw [he]
    exact (qa.rep i.toNat).ext (hide_new (Ext.push _ _) (get_fresh _))
  · exact (no_some (if_neg q) e).elim

noncomputable def tOf (op : LV → Option Bool) (f : St → Option LV) : St → Option Bool := fun st => (f st).bind op
noncomputable def truth : LV → Option Bool
  | .d .none => some false
  | .d (.bool b) => some b
  | .d (.int i) => some (i != 0)
  | l => l.lst.bind fun xs => cond (Nat.ble xs.length 1000000) (some (!xs.isEmpty)) none
theorem truth_ok {A : Around} {H : List Addr} {s : Shared} {v : Value} {lv : LV} {b : Bool} {Q : Bool → Shared → Prop} {E : Value → Shared → Prop} (r : RO G H s.heap v lv) (e : truth lv = some b) (hQ : ∀ tk, Q b { s with toks := tk }) :
    wpAny (model G.prog G.w) A (truthy v) Q E s := by
  have byL : (lv.lst.bind fun xs => cond (Nat.ble xs.length 1000000) (some (!xs.isEmpty)) none) = some b → wpAny (model G.prog G.w) A (truthy v) Q E s := fun e => by
    refine bind_some (e) fun xs hx e => ?_
    refine cond_elim (c := Nat.ble xs.length 1000000) e fun q e => ?_
    cases e
    obtain ⟨a, vs, rfl, hl, ra⟩ := r.lst hx
    have hlen : vs.size = xs.length := by have := ra.length; simpa using this
    have := Nat.le_of_ble_eq_true q
    refine wpAny_truthy_list hl (by lia) ?_
    have e2 : (!vs.isEmpty) = !xs.isEmpty := by
      congr 1
      rw [Bool.eq_iff_iff, Array.isEmpty_iff_size_eq_zero, List.isEmpty_iff_length_eq_zero, hlen]
    have := hQ
    first
      | (rw [e2]; exact hQ _)
      | (rw [← e2] at hQ; exact hQ _)
      | (have e3 : decide (0 < vs.size) = !xs.isEmpty := by rw [← e2]; simp [Array.isEmpty, Nat.pos_iff_ne_zero]
         rw [e3]; exact hQ _)
  cases lv with
  | fn => cases e
  | own xs => exact byL e
  | arg xs => exact byL e
  | d p =>
    cases p with
    | none => cases e; obtain rfl := Rd.none_inv r; exact PyProof.Rows.truthy_none (hQ _)
    | bool c => cases e; obtain rfl := Rd.bool_inv r; exact wpAny_truthy_bool (hQ _)
    | int i => cases e; obtain ⟨t, rfl⟩ := Rd.int_inv r; exact PyProof.Rows.truthy_int (hQ _)
    | str x => cases e
    | list xs => exact byL e
    | tuple xs => cases e
    | dict xs => cases e
theorem EvT.of {e : PySem.Expr} {f : St → Option LV} (h : EvV G sc n e f) (hp : ∀ env whole, isTrue e env whole = (do let v ← whole; standAt e.pos; holding [v] (truthy v))) : EvT G sc n e (tOf truth f) := fun A env H st s b Q E S q hQ => by
  unfold tOf at q
  refine bind_some (q) fun lv hlv q => ?_
  refine isTrue_plain ?_ (hp _ _)
  exact h A env H st s lv _ E S hlv fun v h₁ t₁ x₁ r => truth_ok r q fun tk => hQ h₁ tk x₁
theorem EvT.cmp {l r : PySem.Expr} {o : CmpOp} {pos : Pos} {f g : St → Option LV} {op : PyData → PyData → Option LV} (hl : EvV G sc n l f) (hr : EvV G sc n r g) (ho : Op2 G (compareOp o) op) (hm : behindInMarks o r = false) :
    EvT G sc n (.Compare l [o] [r] pos) (tOf truth (e2 op f g)) := fun A env H st s b Q E S q hQ => by
  unfold tOf at q
  refine bind_some (q) fun lv hlv q => ?_
  exact wpAny_isTrue_Compare1 (two hl hr ho S hlv fun v h' tk x r => truth_ok r q fun tk' => hQ h' tk' x) hm
noncomputable def tNot (f : St → Option Bool) : St → Option Bool := fun st => (f st).map (!·)
theorem EvT.not {x : PySem.Expr} {pos : Pos} {f : St → Option Bool} (h : EvT G sc n x f) : EvT G sc n (.UnaryOp .Not x pos) (tNot f) := fun A env H st s b Q E S q hQ => by
  unfold tNot at q
  refine byC fun CC hCC => ?_
  refine map_some (q) fun c hc ee => ?_
  subst ee
  refine hCC ?_
  clear hCC
  exact PyProof.Rows.isTrue_not (h A env H st s c _ E S hc fun h' tk x => hQ h' tk x)
noncomputable def tAnd (f g : St → Option Bool) : St → Option Bool := fun st => (f st).bind fun a => cond a (g st) (some false)
noncomputable def tOr (f g : St → Option Bool) : St → Option Bool := fun st => (f st).bind fun a => cond a (some true) (g st)
theorem EvT.and {x y : PySem.Expr} {pos : Pos} {f g : St → Option Bool} (hx : EvT G sc n x f) (hy : EvT G sc n y g) : EvT G sc n (.BoolOp .And [x, y] pos) (tAnd f g) := fun A env H st s b Q E S q hQ => by
  unfold tAnd at q
  refine bind_some (q) fun a ha q => ?_
  refine isTrue_and (hx A env H st s a _ E S ha fun h₁ t₁ x₁ => ?_)
  cases a with
  | false => cases q; exact hQ h₁ t₁ x₁
  | true =>
    refine isTrue_and (hy A env H st _ b _ E (S.ext x₁) q fun h₂ t₂ x₂ => ?_)
    cases b with
    | false => exact hQ h₂ t₂ (x₁.trans x₂)
    | true => exact isTrue_and_nil (hQ h₂ t₂ (x₁.trans x₂))
theorem EvT.or {x y : PySem.Expr} {pos : Pos} {f g : St → Option Bool} (hx : EvT G sc n x f) (hy : EvT G sc n y g) : EvT G sc n (.BoolOp .Or [x, y] pos) (tOr f g) := fun A env H st s b Q E S q hQ => by
  unfold tOr at q
  refine bind_some (q) fun a ha q => ?_
  refine isTrue_or (hx A env H st s a _ E S ha fun h₁ t₁ x₁ => ?_)
  cases a with
  | true => cases q; exact hQ h₁ t₁ x₁
  | false =>
    refine isTrue_or (hy A env H st _ b _ E (S.ext x₁) q fun h₂ t₂ x₂ => ?_)
    cases b with
    | true => exact hQ h₂ t₂ (x₁.trans x₂)
    | false => exact isTrue_or_nil (hQ h₂ t₂ (x₁.trans x₂))
noncomputable def eIf (c : St → Option Bool) (f g : St → Option LV) : St → Option LV := fun st => (c st).bind fun b => cond b (f st) (g st)
theorem EvV.ite {c x y : PySem.Expr} {pos : Pos} {t : St → Option Bool} {f g : St → Option LV} (hc : EvT G sc n c t) (hx : EvV G sc n x f) (hy : EvV G sc n y g) : EvV G sc n (.IfExp c x y pos) (eIf t f g) := fun A env H st s lv Q E S q hQ => by
  unfold eIf at q
  refine bind_some (q) fun b hb q => ?_
  refine wpAny_IfExp (hc A env H st s b _ E S hb fun h₁ t₁ x₁ => ?_)
  cases b with
  | true => exact hx A env H st _ lv Q E (S.ext x₁) q fun v h₂ t₂ x₂ r => hQ v h₂ t₂ (x₁.trans x₂) r
  | false => exact hy A env H st _ lv Q E (S.ext x₁) q fun v h₂ t₂ x₂ r => hQ v h₂ t₂ (x₁.trans x₂) r
end
end Mine
end

section
open PySem PySem.W PyProof.Rows PySem.Calls
namespace Mine

inductive Fl where
  | next
  | brk
  | cont
  | ret (p : PyData)

structure Rep (G : Gd) (sc : Scope) (n : Nat) (A : Around) (X : List Addr) (B : Heap) (env : Env) (α : Nat → Addr) (H : List Addr) (st : St) (h : Heap) : Prop where
  eo : EO sc env
  se : env.scope = sc
  bud : Bud n A
  pB : G.P B
  keep : Ext B h
  hX : ∀ a ∈ X, a ∈ H
  hL : env.locals ∈ H
  hC : ∀ c ∈ env.cells.map (·.2), c ∈ H
  hB : ∀ a ∈ H, a ∈ X ∨ B.get? a = none
  hok : HOk H h
  lB : B.get? env.locals = none
  lX : env.locals ∉ X
  ns : ∃ m, h.Ns env.locals m
  cB : ∀ c ∈ env.cells.map (·.2), B.get? c = none ∧ c ∉ X ∧ c ≠ env.locals ∧ ∃ v, h.IsCell c v
  cA : ∀ x y c, env.cells.lookup x = some c → env.cells.lookup y = some c → x = y
  oB : ∀ x xs, st.get x = some (.own xs) → α x ∈ H ∧ B.get? (α x) = none ∧ α x ∉ X ∧ α x ≠ env.locals ∧ α x ∉ env.cells.map (·.2)
  oA : ∀ x y xs ys, st.get x = some (.own xs) → st.get y = some (.own ys) → α x = α y → x = y
  vars : ∀ x lv, st.get x = some lv → ∃ v, Sto env h (G.nm x) v ∧ RO G H h v lv ∧ ∀ xs, lv = .own xs → v = .ref (α x)

section
variable {G : Gd} {sc : Scope} {n : Nat} {A : Around} {X : List Addr} {B : Heap} {env : Env} {α : Nat → Addr} {H : List Addr} {st : St} {h h' : Heap}

theorem Rep.sit (R : Rep G sc n A X B env α H st h) : Sit G sc n A env H st h :=
  ⟨R.eo, R.bud, G.mono R.keep R.pB, R.hok, fun x lv e => (R.vars x lv e).imp fun _ w => ⟨w.1, w.2.1⟩⟩

theorem Rep.ext (R : Rep G sc n A X B env α H st h) (x : Ext h h') : Rep G sc n A X B env α H st h' :=
  { R with
    keep := R.keep.trans x
    hok := R.hok.ext x
    ns := R.ns.imp fun _ e => e.keeps x
    cB := fun c hc => ⟨(R.cB c hc).1, (R.cB c hc).2.1, (R.cB c hc).2.2.1, (R.cB c hc).2.2.2.imp fun _ e => e.keeps x⟩
    vars := fun y lv e => (R.vars y lv e).imp fun _ w => ⟨w.1.ext x, w.2.1.ext x, w.2.2⟩ }

theorem Rep.grow (R : Rep G sc n A X B env α H st h) (x : Ext h h') {a : Addr} (ha : h.get? a = none) (hs : ∃ o, h'.get? a = some o) : Rep G sc n A X B env α (a :: H) st h' :=
  have R' := R.ext x
  { R' with
    hX := fun b hb => .tail _ (R.hX b hb)
    hL := .tail _ R.hL
    hC := fun c hc => .tail _ (R.hC c hc)
    hB := fun b hb => by
      rcases List.mem_cons.mp hb with rfl | hb
      · refine .inr ?_
        cases q : B.get? b with
        | none => rfl
        | some o => rw [R.keep _ _ q] at ha; cases ha
      · exact R.hB b hb
    hok := fun b hb => by
      rcases List.mem_cons.mp hb with rfl | hb
      · exact hs
      · exact R'.hok b hb
    oB := fun y xs e => ⟨.tail _ (R.oB y xs e).1, (R.oB y xs e).2⟩
    vars := fun y lv e => by
      obtain ⟨v, s, r, o⟩ := R.vars y lv e
      refine ⟨v, s.ext x, ?_, o⟩
      cases lv with
      | fn => exact r
      | d p => exact Rd.ext (hide_new x ha) r
      | own xs => obtain ⟨b, vs, e1, p, q⟩ := r; exact ⟨b, vs, e1, p.at fun o q => x b o q, q.ext (hide_new x ha)⟩
      | arg xs => obtain ⟨b, vs, e1, ⟨o, q1, q2⟩, q⟩ := r; exact ⟨b, vs, e1, ⟨o, hide_new x ha _ _ q1, q2⟩, q.ext (hide_new x ha)⟩ }

theorem hide_touch {c : Addr} (sb : Heap.SameBut c h h') (hc : c ∈ H) : Ext (hideAll h H) (hideAll h' H) := hide_gen (fun b o hb e => (sb.2 b (fun q => hb (q ▸ hc))).trans e) fun _ m => .inl m
theorem RO.touchE {c : Addr} (k : ∀ b o, b ≠ c → h.get? b = some o → h'.get? b = some o) (hc : c ∈ H) {v : Value} {lv : LV} (ho : ∀ xs, lv = .own xs → v ≠ .ref c) (r : RO G H h v lv) : RO G H h' v lv := by
  have m : Ext (hideAll h H) (hideAll h' H) := hide_gen (fun b o hb e => k b o (fun q => hb (q ▸ hc)) e) fun _ m => .inl m
  cases lv with
  | d p => exact Rd.ext m r
  | own xs => obtain ⟨a, vs, e, p, r⟩ := r; exact ⟨a, vs, e, p.at fun o q => k a o (fun q => ho _ rfl (by rw [e, q])) q, r.ext m⟩
  | arg xs => obtain ⟨a, vs, e, ⟨o, q, p⟩, r⟩ := r; exact ⟨a, vs, e, ⟨o, m a o q, p⟩, r.ext m⟩
  | fn => exact r

theorem ns_unique {a : Addr} {m m' : Str → Option Value} (x : h.Ns a m) (y : h.Ns a m') : m = m' := by
  refine byC fun CC hCC => ?_
  obtain ⟨o, es, ep, ho, hd, _, hf⟩ := x
  obtain ⟨o', es', ep', ho', hd', _, hf'⟩ := y
  refine hCC ?_
  clear hCC
  rw [ho] at ho'; cases ho'
  rw [hd] at hd'; cases hd'
  funext z; rw [← hf z, ← hf' z]

theorem lookup_mem {l : List (Str × Addr)} {x : Str} {c : Addr} (e : l.lookup x = some c) : c ∈ l.map (·.2) := by
  induction l with
  | nil => cases e
  | cons p r ih =>
    rw [List.lookup_cons] at e
    by_cases q : (x == p.1) = true
    · rw [q] at e; cases e; exact .head _
    · have q' : (x == p.1) = false := by simpa using q
      rw [q'] at e; exact .tail _ (ih e)

theorem Rep.change (R : Rep G sc n A X B env α H st h) {x : Nat} {v : Value} {lv : LV} {α' : Nat → Addr} (kB : Ext B h') (hok : HOk H h') (ns : ∃ m, h'.Ns env.locals m) (cs : ∀ d ∈ env.cells.map (·.2), ∃ w, h'.IsCell d w) (hα : ∀ y, y ≠ x → α' y = α y)
    (ho : ∀ xs, lv = .own xs → v = .ref (α' x) ∧ α' x ∈ H ∧ B.get? (α' x) = none ∧ α' x ∉ X ∧ α' x ≠ env.locals ∧ α' x ∉ env.cells.map (·.2) ∧ ∀ y ys, y ≠ x → st.get y = some (.own ys) → α y ≠ α' x)
    (new : Sto env h' (G.nm x) v ∧ RO G H h' v lv)
    (old : ∀ y u k, y ≠ x → st.get y = some k → Sto env h (G.nm y) u → RO G H h u k → (∀ xs, k = .own xs → u = .ref (α y)) → Sto env h' (G.nm y) u ∧ RO G H h' u k) : Rep G sc n A X B env α' H (st.set x lv) h' := by
  have ow : ∀ y ys, (st.set x lv).get y = some (.own ys) → (y = x ∧ lv = .own ys) ∨ (y ≠ x ∧ st.get y = some (.own ys)) := fun y ys e => by
    rw [St.get_set] at e
    by_cases q : y = x
    · rw [if_pos q] at e; exact .inl ⟨q, Option.some.inj e⟩
    · rw [if_neg q] at e; exact .inr ⟨q, e⟩
  refine { R with keep := kB, hok := hok, ns := ns, cB := fun d hd => ⟨(R.cB d hd).1, (R.cB d hd).2.1, (R.cB d hd).2.2.1, cs d hd⟩, oB := fun y ys e => ?_, oA := fun y z ys zs ey ez q => ?_, vars := fun y k e => ?_ }
  · rcases ow y ys e with ⟨q, e⟩ | ⟨q, e⟩
    · have t := (ho ys e).2
      rw [q]
      exact ⟨t.1, t.2.1, t.2.2.1, t.2.2.2.1, t.2.2.2.2.1⟩
    · rw [hα y q]; exact R.oB y ys e
  · rcases ow y ys ey with ⟨qy, ey⟩ | ⟨qy, ey⟩
    · rcases ow z zs ez with ⟨qz, _⟩ | ⟨qz, ez⟩
      · exact qy.trans qz.symm
      · rw [hα z qz, qy] at q; exact absurd q.symm ((ho ys ey).2.2.2.2.2.2 z zs qz ez)
    · rcases ow z zs ez with ⟨qz, ez⟩ | ⟨qz, ez⟩
      · rw [hα y qy, qz] at q; exact absurd q ((ho zs ez).2.2.2.2.2.2 y ys qy ey)
      · rw [hα y qy, hα z qz] at q; exact R.oA y z ys zs ey ez q
  · rw [St.get_set] at e
    by_cases q : y = x
    · rw [if_pos q] at e
      cases Option.some.inj e
      rw [q]
      exact ⟨v, new.1, new.2, fun xs w => (ho xs w).1⟩
    · rw [if_neg q] at e
      obtain ⟨u, s, r, o⟩ := R.vars y k e
      obtain ⟨s', r'⟩ := old y u k q e s r o
      exact ⟨u, s', r', fun xs w => by rw [hα y q]; exact o xs w⟩
theorem Rep.stored_sto (R : Rep G sc n A X B env α H st h) {x : Nat} {c : Addr} {v : Value} (sb : Heap.SameBut c h h')
    (hc : (c = env.locals ∧ env.kindOf (G.nm x) = some .local ∧ ∃ m, h.Ns env.locals m ∧ h'.Ns env.locals (fun y => if y = G.nm x then some v else m y)) ∨
      (env.kindOf (G.nm x) = some .cell ∧ env.cells.lookup (G.nm x) = some c ∧ h'.IsCell c (some v))) :
    (c = env.locals ∨ c ∈ env.cells.map (·.2)) ∧ (∃ o, h'.get? c = some o) ∧ (∃ m, h'.Ns env.locals m) ∧ (∀ d ∈ env.cells.map (·.2), ∃ w, h'.IsCell d w) ∧ Sto env h' (G.nm x) v ∧ ∀ y u, y ≠ x → Sto env h (G.nm y) u → Sto env h' (G.nm y) u := by
  rcases hc with ⟨rfl, hk, m, hm, e'⟩ | ⟨hk, hl, e'⟩
  · refine ⟨.inl rfl, (by obtain ⟨o, _, _, w, _⟩ := e'; exact ⟨o, w⟩), ⟨_, e'⟩, fun d hd => ?_, .inl ⟨hk, _, e', if_pos rfl⟩, fun y u q s => ?_⟩
    · obtain ⟨_, _, h3, w, h4⟩ := R.cB d hd
      exact ⟨w, h4.sameBut sb h3⟩
    · rcases s with ⟨hk, m', hm', em⟩ | ⟨hk, d, hd, hi⟩
      · cases ns_unique hm hm'
        exact .inl ⟨hk, _, e', (if_neg fun w => q (G.inj _ _ w)).trans em⟩
      · exact .inr ⟨hk, d, hd, hi.sameBut sb (R.cB d (lookup_mem hd)).2.2.1⟩
  · have hne := Ne.symm (R.cB c (lookup_mem hl)).2.2.1
    refine ⟨.inr (lookup_mem hl), e'.imp fun _ w => w.1, R.ns.imp fun _ e => e.sameBut sb hne, fun d hd => ?_, .inr ⟨.inl hk, c, hl, e'⟩, fun y u q s => ?_⟩
    · by_cases q : d = c
      · exact ⟨_, q ▸ e'⟩
      · exact (R.cB d hd).2.2.2.imp fun _ h4 => h4.sameBut sb q
    · rcases s with ⟨hk, m', hm', em⟩ | ⟨hk, d, hd, hi⟩
      · exact .inl ⟨hk, m', hm'.sameBut sb hne, em⟩
      · exact .inr ⟨hk, d, hd, hi.sameBut sb fun w => q (G.inj _ _ (R.cA _ _ _ (w ▸ hd) hl))⟩
theorem Rep.stored (R : Rep G sc n A X B env α H st h) {x : Nat} {c : Addr} {v : Value} {lv : LV} {α' : Nat → Addr} (sb : Heap.SameBut c h h')
    (hc : (c = env.locals ∧ env.kindOf (G.nm x) = some .local ∧ ∃ m, h.Ns env.locals m ∧ h'.Ns env.locals (fun y => if y = G.nm x then some v else m y)) ∨
      (env.kindOf (G.nm x) = some .cell ∧ env.cells.lookup (G.nm x) = some c ∧ h'.IsCell c (some v)))
    (r : RO G H h v lv) (hα : ∀ y, y ≠ x → α' y = α y)
    (ho : ∀ xs, lv = .own xs → v = .ref (α' x) ∧ α' x ∈ H ∧ B.get? (α' x) = none ∧ α' x ∉ X ∧ α' x ≠ env.locals ∧ α' x ∉ env.cells.map (·.2) ∧ ∀ y ys, y ≠ x → st.get y = some (.own ys) → α y ≠ α' x) :
    Rep G sc n A X B env α' H (st.set x lv) h' := by
  obtain ⟨cc, c1, ns, cs, new, old⟩ := R.stored_sto sb hc
  have k : ∀ b o, b ≠ c → h.get? b = some o → h'.get? b = some o := fun b o hb e => (sb.2 b hb).trans e
  have cH : c ∈ H := cc.elim (fun q => q ▸ R.hL) (R.hC c)
  have cB : B.get? c = none := cc.elim (fun q => q ▸ R.lB) fun m => (R.cB c m).1
  have ne : ∀ a, a ≠ env.locals → a ∉ env.cells.map (·.2) → a ≠ c := fun a h1 h2 q => cc.elim (fun w => h1 (q.trans w)) fun m => h2 (q ▸ m)
  refine R.change (fun b o e => k b o (fun q => by rw [q, cB] at e; cases e) (R.keep b o e)) (fun a ha => ?_) ns cs hα ho ⟨new, r.touchE k cH fun xs q => ?_⟩ fun y u lk q e s r' o => ⟨old y u q s, r'.touchE k cH fun xs w => ?_⟩
  · by_cases q : a = c
    · exact q ▸ c1
    · exact (R.hok a ha).imp fun o e => k a o q e
  · have t := (ho xs q).2
    rw [(ho xs q).1]
    exact fun w => ne _ t.2.2.2.1 t.2.2.2.2.1 (by injection w)
  · subst w
    rw [o xs rfl]
    have t := R.oB y xs e
    exact fun w => ne _ t.2.2.2.1 t.2.2.2.2 (by injection w)

theorem Rep.mutE (R : Rep G sc n A X B env α H st h) {x : Nat} {xs ys : List PyData} {vs : Array Value} (e : st.get x = some (.own xs)) (k : ∀ b o, b ≠ α x → h.get? b = some o → h'.get? b = some o) (hp : h'.PlainList (α x) vs) (r : RdA (hideAll h' H) vs.toList ys) :
    Rep G sc n A X B env α H (st.set x (.own ys)) h' := by
  obtain ⟨v, s, _, ov⟩ := R.vars x _ e
  cases ov xs rfl
  have t := R.oB x xs e
  have sto : ∀ z u, Sto env h z u → Sto env h' z u := fun z u s => by
    rcases s with ⟨hk, m', hm', em⟩ | ⟨hk, d, hd, ob, ho, hdat⟩
    · exact .inl ⟨hk, m', hm'.at' fun o q => k _ o (Ne.symm t.2.2.2.1) q, em⟩
    · exact .inr ⟨hk, d, hd, ob, k d ob (fun w => t.2.2.2.2 (w ▸ lookup_mem hd)) ho, hdat⟩
  refine R.change (α' := α) (fun b o q => k b o (fun w => by rw [w, t.2.1] at q; cases q) (R.keep b o q)) (fun a ha => ?_) (R.ns.imp fun _ q => q.at' fun o q => k _ o (Ne.symm t.2.2.2.1) q) (fun d hd => ?_) (fun _ _ => rfl)
    (fun _ _ => ⟨rfl, t.1, t.2.1, t.2.2.1, t.2.2.2.1, t.2.2.2.2, fun y ys hy ey q => hy (R.oA y x ys xs ey e q)⟩) ⟨sto _ _ s, ⟨α x, vs, rfl, hp, r⟩⟩ fun y u lk q ey s r' o => ⟨sto _ _ s, r'.touchE k t.1 fun zs w => ?_⟩
  · by_cases w : a = α x
    · subst w; obtain ⟨j, q⟩ := hp; exact ⟨_, q⟩
    · exact (R.hok a ha).imp fun o e => k a o w e
  · refine ex3 ((R.cB d hd).2.2.2) fun w o ho hdat => ?_
    exact ⟨w, o, k d o (fun q => t.2.2.2.2 (q ▸ hd)) ho, hdat⟩
  · subst w
    rw [o zs rfl]
    exact fun w => q (R.oA y x zs xs ey e (by injection w))
theorem Rep.mut (R : Rep G sc n A X B env α H st h) {x : Nat} {xs ys : List PyData} {vs : Array Value} (e : st.get x = some (.own xs)) (sb : Heap.SameBut (α x) h h') (hp : h'.PlainList (α x) vs) (r : RdA (hideAll h H) vs.toList ys) :
    Rep G sc n A X B env α H (st.set x (.own ys)) h' :=
  R.mutE e (fun b o hb q => (sb.2 b hb).trans q) hp (r.ext (hide_touch sb (R.oB x xs e).1))
noncomputable def FlR (X : List Addr) (h : Heap) : Fl → Flow → Prop
  | .next, f => f = .next
  | .brk, f => f = .brk
  | .cont, f => f = .cont
  | .ret p, f => ∃ v, f = .ret v ∧ Rd (hideAll h X) v p

noncomputable def ExS (G : Gd) (sc : Scope) (n : Nat) (ps : Stmt) (f : St → Option (Fl × St)) : Prop :=
  ∀ (A : Around) (X : List Addr) (B : Heap) (env : Env) (α : Nat → Addr) (H : List Addr) (st : St) (s : Shared) (fl : Fl) (st' : St) (Q : Flow → Shared → Prop) (E : Value → Shared → Prop), Rep G sc n A X B env α H st s.heap → f st = some (fl, st') →
    (∀ α' H' h' tk fw, Rep G sc n A X B env α' H' st' h' → FlR X h' fl fw → Q fw { s with heap := h', toks := tk }) → wpAny (model G.prog G.w) A (exec ps env) Q E s
noncomputable def ExL (G : Gd) (sc : Scope) (n : Nat) (ps : List Stmt) (f : St → Option (Fl × St)) : Prop :=
  ∀ (A : Around) (X : List Addr) (B : Heap) (env : Env) (α : Nat → Addr) (H : List Addr) (st : St) (s : Shared) (fl : Fl) (st' : St) (Q : Flow → Shared → Prop) (E : Value → Shared → Prop), Rep G sc n A X B env α H st s.heap → f st = some (fl, st') →
    (∀ α' H' h' tk fw, Rep G sc n A X B env α' H' st' h' → FlR X h' fl fw → Q fw { s with heap := h', toks := tk }) → wpAny (model G.prog G.w) A (execs ps env) Q E s

noncomputable def sNil : St → Option (Fl × St) := fun st => some (.next, st)
noncomputable def sSeq (f g : St → Option (Fl × St)) : St → Option (Fl × St) := fun st => (f st).bind fun r => match r with
  | (.next, st') => g st'
  | r => some r
end

section
variable {G : Gd} {sc : Scope} {n : Nat}
theorem ExL.nil : ExL G sc n [] sNil := fun A X B env α H st s fl st' Q E R e hQ => by
  cases e
  exact wpAny_execs_nil (hQ α H s.heap s.toks _ R rfl)
theorem ExL.cons {p : Stmt} {ps : List Stmt} {f g : St → Option (Fl × St)} (h : ExS G sc n p f) (hs : ExL G sc n ps g) : ExL G sc n (p :: ps) (sSeq f g) := fun A X B env α H st s fl st' Q E R e hQ => by
  unfold sSeq at e
  refine bind_some2 (e) fun fl₁ st₁ h1 e => ?_
  refine wpAny_execs_cons (h A X B env α H st s fl₁ st₁ _ E R h1 fun α' H' h' tk fw R' hf => ?_)
  cases fl₁ with
  | next => cases hf; exact hs A X B env α' H' st₁ _ fl st' Q E R' e fun α'' H'' h'' tk' fw R'' hf => hQ α'' H'' h'' tk' fw R'' hf
  | brk => cases hf; cases e; exact hQ _ _ _ _ _ R' rfl
  | cont => cases hf; cases e; exact hQ _ _ _ _ _ R' rfl
  | ret p => obtain ⟨v, rfl, r⟩ := hf; cases e; exact hQ _ _ _ _ _ R' ⟨v, rfl, r⟩

noncomputable def isVar (sc : Scope) (x : Str) : Prop := sc.names.lookup x = some .local ∨ sc.names.lookup x = some .cell

theorem Rep.store {A : Around} {X : List Addr} {B : Heap} {env : Env} {α α' : Nat → Addr} {H : List Addr} {st : St} {s : Shared} {x : Nat} {v : Value} {lv : LV} {Q : Unit → Shared → Prop} {E : Value → Shared → Prop} (R : Rep G sc n A X B env α H st s.heap)
    (hx : isVar sc (G.nm x)) (r : RO G H s.heap v lv) (hα : ∀ y, y ≠ x → α' y = α y)
    (ho : ∀ xs, lv = .own xs → v = .ref (α' x) ∧ α' x ∈ H ∧ B.get? (α' x) = none ∧ α' x ∉ X ∧ α' x ≠ env.locals ∧ α' x ∉ env.cells.map (·.2) ∧ ∀ y ys, y ≠ x → st.get y = some (.own ys) → α y ≠ α' x)
    (hQ : ∀ h' tk, Rep G sc n A X B env α' H (st.set x lv) h' → Q () { s with heap := h', toks := tk }) : wpAny (model G.prog G.w) A (storeName env (G.nm x) v) Q E s := by
  have hk := R.eo.kind
  rcases hx with hx | hx
  · have hx' : env.kindOf (G.nm x) = some .local := by rw [← hx, ← R.se]; rfl
    obtain ⟨m, hm⟩ := R.ns
    refine wpAny_storeName_local hx' hm (fun h' hn sb => hQ h' _ (R.stored sb (.inl ⟨rfl, hx', m, hm, hn⟩) r hα ho)) ?_
    rw [hk]; rfl
  · have hx' : env.kindOf (G.nm x) = some .cell := by rw [← hx, ← R.se]; rfl
    obtain ⟨_, c, hc⟩ := R.eo.cell _ hx
    obtain ⟨_, _, _, w, hi⟩ := R.cB c (lookup_mem hc)
    exact wpAny_storeName_cell hk hx' hc hi fun h' hv sb => hQ h' _ (R.stored sb (.inr ⟨hx', hc, hv⟩) r hα ho)
theorem Rep.storeD {A : Around} {X : List Addr} {B : Heap} {env : Env} {α : Nat → Addr} {H : List Addr} {st : St} {s : Shared} {x : Nat} {v : Value} {p : PyData} {Q : Unit → Shared → Prop} {E : Value → Shared → Prop} (R : Rep G sc n A X B env α H st s.heap)
    (hx : isVar sc (G.nm x)) (r : Rd (hideAll s.heap H) v p) (hQ : ∀ h' tk, Rep G sc n A X B env α H (st.set x (.d p)) h' → Q () { s with heap := h', toks := tk }) : wpAny (model G.prog G.w) A (storeName env (G.nm x) v) Q E s :=
  R.store hx (lv := .d p) r (fun _ _ => rfl) (fun _ e => by cases e) hQ
theorem Rep.storeF {A : Around} {X : List Addr} {B : Heap} {env : Env} {α : Nat → Addr} {H : List Addr} {st : St} {s : Shared} {h₀ : Heap} {x : Nat} {a : Addr} {vs : Array Value} {xs : List PyData} {Q : Unit → Shared → Prop} {E : Value → Shared → Prop} (R : Rep G sc n A X B env α H st h₀)
    (hx : isVar sc (G.nm x)) (e : Ext h₀ s.heap) (ha : h₀.get? a = none) (pl : s.heap.PlainList a vs) (r : RdA (hideAll s.heap (a :: H)) vs.toList xs)
    (hQ : ∀ h' tk, Rep G sc n A X B env (fun y => if y = x then a else α y) (a :: H) (st.set x (.own xs)) h' → Q () { s with heap := h', toks := tk }) : wpAny (model G.prog G.w) A (storeName env (G.nm x) (.ref a)) Q E s := by
  have R' := R.grow e ha (pl.elim fun _ q => ⟨_, q⟩)
  have nB : B.get? a = none := by
    cases q : B.get? a with
    | none => rfl
    | some o => rw [R.keep _ _ q] at ha; cases ha
  have nX : a ∉ X := fun m => by obtain ⟨o, q⟩ := R.hok a (R.hX a m); exact (no_some (ha) q).elim
  have nL : a ≠ env.locals := fun q => by obtain ⟨m, o, es, ep, e', _⟩ := R.ns; rw [q, e'] at ha; cases ha
  have nC : a ∉ env.cells.map (·.2) := fun m => by obtain ⟨o, q⟩ := R.hok a (R.hC a m); exact (no_some (ha) q).elim
  refine R'.store hx (lv := .own xs) (α' := fun y => if y = x then a else α y) ⟨a, vs, rfl, pl, r⟩ (fun y hy => by simp [hy]) (fun ys q => ?_) hQ
  refine ⟨by simp, by simp, by simpa using nB, by simpa using nX, by simpa using nL, by simpa using nC, fun y zs hy ey => ?_⟩
  simp only [if_true]
  intro q
  obtain ⟨h1, _⟩ := R.oB y zs ey
  obtain ⟨o, w⟩ := R.hok _ h1
  rw [q, ha] at w; cases w

noncomputable def sAssign (x : Nat) (f : St → Option LV) : St → Option (Fl × St) := fun st => (f st).bind fun lv => match lv with
  | .d p => some (.next, st.set x (.d p))
  | .fn => some (.next, st.set x .fn)
  | _ => none
theorem ExS.assign {x : Nat} {y : Str} {p pos : Pos} {e : PySem.Expr} {f : St → Option LV} (hn : G.nm x = y) (hx : isVar sc y) (h : EvV G sc n e f) (hs : ∀ env : Env, env.scope = sc → swapsWith e (some (.Name y p)) pos.line env = pure false) :
    ExS G sc n (.Assign [.Name y p] e pos) (sAssign x f) := fun A X B env α H st s fl st' Q E R q hQ => by
  subst hn
  unfold sAssign at q
  refine bind_some (q) fun lv hlv q => ?_
  refine wpAny_Assign_Name (h A env H st s lv _ E R.sit hlv fun v h₁ t₁ x₁ r => ?_) (hs env R.se)
  have R' := R.ext x₁
  cases lv with
  | own => cases q
  | arg => cases q
  | d d => cases q; exact R'.storeD hx r fun h' tk R'' => hQ α H h' tk .next R'' rfl
  | fn => cases q; exact R'.store hx (lv := .fn) r (fun _ _ => rfl) (fun _ e => by cases e) fun h' tk R'' => hQ α H h' tk .next R'' rfl
noncomputable def sAssignF (x : Nat) (f : St → Option (List PyData)) : St → Option (Fl × St) := fun st => (f st).bind fun xs => some (.next, st.set x (.own xs))
theorem ExS.assignF {x : Nat} {y : Str} {p pos : Pos} {e : PySem.Expr} {f : St → Option (List PyData)} (hn : G.nm x = y) (hx : isVar sc y) (h : EvF G sc n e f) (hs : ∀ env : Env, env.scope = sc → swapsWith e (some (.Name y p)) pos.line env = pure false) :
    ExS G sc n (.Assign [.Name y p] e pos) (sAssignF x f) := fun A X B env α H st s fl st' Q E R q hQ => by
  subst hn
  unfold sAssignF at q
  refine byC fun CC hCC => ?_
  refine bind_some (q) fun xs hxs q => ?_
  cases q
  refine hCC ?_
  clear hCC
  refine wpAny_Assign_Name (h A env H st s xs _ E R.sit hxs fun a h₁ t₁ vs x₁ ha pl r => ?_) (hs env R.se)
  exact R.storeF (s := { s with heap := h₁, toks := t₁ }) hx x₁ ha pl r fun h' tk R'' => hQ _ _ h' tk .next R'' rfl

noncomputable def sAug (x : Nat) (op : PyData → PyData → Option LV) (f : St → Option LV) : St → Option (Fl × St) := fun st => (e2 op (eVar x) f st).bind fun lv => match lv with
  | .d p => some (.next, st.set x (.d p))
  | _ => none
theorem ExS.aug {x : Nat} {y : Str} {p pos : Pos} {o : Operator} {e : PySem.Expr} {f : St → Option LV} {op : PyData → PyData → Option LV} (hn : G.nm x = y) (hx : isVar sc y) (h : EvV G sc n e f) (ho : Op2 G (inplaceOp o) op) :
    ExS G sc n (.AugAssign (.Name y p) o e pos) (sAug x op f) := fun A X B env α H st s fl st' Q E R q hQ => by
  subst hn
  unfold sAug at q
  refine bind_some (q) fun lv hlv q => ?_
  refine wpAny_AugAssign_Name ?_
  unfold e2 at hlv
  refine byC fun CC hCC => ?_
  refine bind_some (hlv) fun a ha hlv => ?_
  refine bind_some (hlv) fun b hb hlv => ?_
  refine ex2 (dat_some ha) fun la hla da => ?_
  refine ex2 (dat_some hb) fun lb hlb db => ?_
  obtain ⟨va, sto, ra, _⟩ := R.vars x la hla
  refine hCC ?_
  clear hCC
  have go : wpAny (model G.prog G.w) A (eval e env) (fun v s₂ => wpAny (model G.prog G.w) A (inplaceOp o va v) (fun r s₃ => wpAny (model G.prog G.w) A (storeName env (G.nm x) r) (fun _ => Q .next) E s₃) E s₂) E s := by
    refine h A env H st s lb _ E R.sit hlb fun vb h₁ t₁ x₁ rb => ?_
    have R₁ := R.ext x₁
    refine ho n A H _ va vb a b lv _ E R.bud R₁.sit.p R₁.hok ((ra.ext x₁).rd da) (rb.rd db) hlv fun v h₂ t₂ x₂ r => ?_
    have R₂ := R₁.ext x₂
    cases lv with
    | d d => cases q; exact R₂.storeD hx r fun h' tk R'' => hQ α H h' tk .next R'' rfl
    | own => cases q
    | arg => cases q
    | fn => cases q
  have hk := R.eo.kind
  rcases sto with ⟨k, m, hm, em⟩ | ⟨k, c, hc, hi⟩
  · exact wpAny_loadName_local hk k hm em go
  · rcases k with k | k
    · exact wpAny_loadName_cell hk k hc hi go
    · exact wpAny_loadName_free hk k hc hi go (G.cdc x)

noncomputable def sRet (f : St → Option LV) : St → Option (Fl × St) := fun st => (eDat f st).bind fun p => some (.ret p, st)
theorem Rep.outV {A : Around} {X : List Addr} {B : Heap} {env : Env} {α : Nat → Addr} {H : List Addr} {st : St} {h : Heap} (R : Rep G sc n A X B env α H st h) {v : Value} {lv : LV} {p : PyData} (r : RO G H h v lv) (e : lv.dat = some p)
    (ho : ∀ xs, lv = .own xs → ∃ x ys, st.get x = some (.own ys) ∧ v = .ref (α x)) : Rd (hideAll h X) v p := by
  have le : Ext (hideAll h H) (hideAll h X) := hide_gen (fun _ _ _ e => e) fun a m => .inl (R.hX a m)
  cases lv with
  | fn => cases e
  | arg => cases e
  | d q => cases e; exact Rd.ext le r
  | own xs =>
    refine byC fun CC hCC => ?_
    cases e
    refine ex3 (ho xs rfl) fun x ys ex hv => ?_
    obtain ⟨a, vs, e1, ⟨k, pl⟩, ra⟩ := r
    refine hCC ?_
    clear hCC
    rw [hv] at e1
    have e1 : α x = a := by injection e1
    subst e1
    rw [hv]
    exact .list0 (hideAll_get X pl (R.oB x ys ex).2.2.1) (ra.ext le)
noncomputable def notOwn : Option LV → Bool
  | some (.own _) => false
  | _ => true
theorem ExS.retName {x : Nat} {y : Str} {p pos : Pos} (hn : G.nm x = y) : ExS G sc n (.Return (some (.Name y p)) pos) (sRet (eVar x)) := fun A X B env α H st s fl st' Q E R q hQ => by
  subst hn
  unfold sRet at q
  refine byC fun CC hCC => ?_
  refine bind_some (q) fun d hd q => ?_
  cases q
  refine ex2 (dat_some hd) fun lv hlv da => ?_
  obtain ⟨v, sto, r, o⟩ := R.vars x lv hlv
  refine hCC ?_
  clear hCC
  refine wpAny_Return_some (wpAny_Name ?_ (G.dbg x))
  have fin : Q (.ret v) s := hQ α H s.heap s.toks (.ret v) R ⟨v, rfl, R.outV r da fun xs q => ⟨x, xs, by rw [← q]; exact hlv, o xs q⟩⟩
  have hk := R.eo.kind
  rcases sto with ⟨k, m, hm, em⟩ | ⟨k, c, hc, hi⟩
  · exact wpAny_loadName_local hk k hm em fin
  · rcases k with k | k
    · exact wpAny_loadName_cell hk k hc hi fin
    · exact wpAny_loadName_free hk k hc hi fin (G.cdc x)
noncomputable def sRetV (f : St → Option LV) : St → Option (Fl × St) := fun st => (f st).bind fun lv => match lv with
  | .d p => some (.ret p, st)
  | _ => none
theorem ExS.ret {e : PySem.Expr} {pos : Pos} {f : St → Option LV} (h : EvV G sc n e f) : ExS G sc n (.Return (some e) pos) (sRetV f) := fun A X B env α H st s fl st' Q E R q hQ => by
  unfold sRetV at q
  refine bind_some (q) fun lv hlv q => ?_
  obtain ⟨ww, rfl⟩ : ∃ ww, lv = .d ww := by cases lv <;> first | exact ⟨_, rfl⟩ | cases q
  cases q
  refine wpAny_Return_some (h A env H st s _ _ E R.sit hlv fun v h₁ t₁ x₁ r => ?_)
  have R' := R.ext x₁
  exact hQ α H h₁ t₁ (.ret v) R' ⟨v, rfl, R'.outV (lv := .d _) r rfl fun _ q => by cases q⟩
noncomputable def sIf (t : St → Option Bool) (f g : St → Option (Fl × St)) : St → Option (Fl × St) := fun st => (t st).bind fun b => cond b (f st) (g st)
theorem ExS.if {c : PySem.Expr} {b o : List Stmt} {pos : Pos} {t : St → Option Bool} {f g : St → Option (Fl × St)} (hc : EvT G sc n c t) (hb : ExL G sc n b f) (ho : ExL G sc n o g) : ExS G sc n (.If c b o pos) (sIf t f g) := fun A X B env α H st s fl st' Q E R q hQ => by
  unfold sIf at q
  refine bind_some (q) fun k hk q => ?_
  refine wpAny_If (hc A env H st s k _ E R.sit hk fun h₁ t₁ x₁ => ?_)
  have R' := R.ext x₁
  cases k with
  | true => exact hb A X B env α H st _ fl st' Q E R' q fun α' H' h' tk fw R'' hf => hQ α' H' h' tk fw R'' hf
  | false => exact ho A X B env α H st _ fl st' Q E R' q fun α' H' h' tk fw R'' hf => hQ α' H' h' tk fw R'' hf
end
end Mine
end

section
open PySem PySem.W PyProof.Rows PySem.Calls
namespace Mine

structure ItOk (G : Gd) (A : Around) (h₀ h : Heap) (H : List Addr) (I : Addr) (fp wr : List Addr) (P : Nat → Value → Prop) (St : Nat → Heap → Prop) (xs : List PyData) : Prop where
  w : Walks G.prog G.w A I fp wr xs.length P St
  st : St 0 h
  ex : ∀ i h, St i h → ∀ b ∈ wr, ∃ o, h.get? b = some o
  new : ∀ b ∈ wr, h₀.get? b = none
  old : ∀ b ∈ fp, b ∈ wr ∨ (b ∉ H ∧ ∃ o, h.get? b = some o)
  item : ∀ i v d, P i v → xs[i]? = some d → Rd (hideAll h (wr ++ H)) v d
noncomputable def EvI (G : Gd) (sc : Scope) (n : Nat) (pe : PySem.Expr) (f : St → Option (List PyData)) : Prop :=
  ∀ (A : Around) (env : Env) (H : List Addr) (st : St) (s : Shared) (xs : List PyData) (Q : Value → Shared → Prop) (E : Value → Shared → Prop), Sit G sc n A env H st s.heap → f st = some xs →
    (∀ I fp wr P St h' tk, Ext s.heap h' → ItOk G A s.heap h' H I fp wr P St xs → xs.length ≤ 1000000 → Q (.ref I) { s with heap := h', toks := tk }) →
    wpAny (model G.prog G.w) A (eval pe env) (fun x s₁ => wpAny (model G.prog G.w) A (pyIter x) Q E s₁) E s

section
variable {G : Gd} {sc : Scope} {n : Nat}

noncomputable def iLst (f : St → Option LV) : St → Option (List PyData) := fun st => (f st).bind fun lv => match lv with
  | .d (.list xs) => cond (Nat.ble xs.length 1000000) (some xs) none
  | _ => none
theorem EvI.list {e : PySem.Expr} {f : St → Option LV} (h : EvV G sc n e f) : EvI G sc n e (iLst f) := fun A env H st s xs Q E S q hQ => by
  unfold iLst at q
  refine bind_some (q) fun lv hlv q => ?_
  obtain ⟨ys, hy, q2⟩ : ∃ ys, lv = .d (.list ys) ∧ (cond (Nat.ble ys.length 1000000) (some ys) none) = some xs := by
    obtain ⟨p, rfl⟩ : ∃ ww, lv = .d ww := by cases lv <;> first | exact ⟨_, rfl⟩ | cases q
    cases p <;> first | exact ⟨_, rfl, q⟩ | (cases q; done)
  subst hy
  refine cond_elim (c := Nat.ble ys.length 1000000) q2 fun k q2 => ?_
  cases q2
  refine h A env H st s _ _ E S hlv fun v h₁ t₁ x₁ r => ?_
  obtain ⟨a, vs, rfl, ⟨j, pl⟩, ra⟩ := Rd.list_inv r
  have plh := of_hideAll H pl
  have hlen : vs.size = xs.length := by have := ra.length; simpa using this
  have hI : a ≠ h₁.objs.size := Nat.ne_of_lt (Heap.lt_size plh)
  refine wpAny_pyIter_list (items := vs) ⟨_, plh, rfl, j, rfl⟩ ?_
  refine hQ h₁.objs.size [h₁.objs.size, a] [h₁.objs.size] _ _ _ _ (x₁.trans (Ext.push _ _)) ⟨hlen ▸ Walks.list S.bud.hh h₁.objs.size a hI vs, ?_, ?_, ?_, ?_, ?_⟩ (Nat.le_of_ble_eq_true k)
  · exact ⟨⟨_, Heap.get?_push_size _ rfl, rfl, rfl⟩, ⟨_, Ext.push _ _ _ _ plh, rfl, j, rfl⟩⟩
  · rintro i h ⟨⟨o, ho, _⟩, _⟩ b hb
    rw [List.mem_singleton.mp hb]; exact ⟨o, ho⟩
  · intro b hb
    rw [List.mem_singleton.mp hb]; exact fresh_of_ext x₁
  · intro b hb
    rcases List.mem_cons.mp hb with rfl | hb
    · exact .inl (.head _)
    · rw [List.mem_singleton.mp hb]
      exact .inr ⟨fun m => (by rw [hideAll_none H m] at pl; exact nomatch pl), _, Ext.push _ _ _ _ plh⟩
  · intro i v d hv hd
    refine ex2 (ra.get hd) fun u hu ru => ?_
    have : vs.toList[i]? = some v := by simpa using hv
    rw [this] at hu; cases hu
    exact ru.ext (hide_new (Ext.push _ _) (get_fresh _))
noncomputable def iTup (f : St → Option LV) : St → Option (List PyData) := fun st => (f st).bind fun lv => match lv with
  | .d (.tuple xs) => cond (Nat.ble xs.length 1000000) (some xs) none
  | _ => none
theorem EvI.tuple {e : PySem.Expr} {f : St → Option LV} (h : EvV G sc n e f) : EvI G sc n e (iTup f) := fun A env H st s xs Q E S q hQ => by
  unfold iTup at q
  refine bind_some (q) fun lv hlv q => ?_
  obtain ⟨ys, hy, q2⟩ : ∃ ys, lv = .d (.tuple ys) ∧ (cond (Nat.ble ys.length 1000000) (some ys) none) = some xs := by
    obtain ⟨p, rfl⟩ : ∃ ww, lv = .d ww := by cases lv <;> first | exact ⟨_, rfl⟩ | cases q
    cases p <;> first | exact ⟨_, rfl, q⟩ | (cases q; done)
  subst hy
  refine cond_elim (c := Nat.ble ys.length 1000000) q2 fun k q2 => ?_
  cases q2
  refine h A env H st s _ _ E S hlv fun v h₁ t₁ x₁ r => ?_
  obtain ⟨a, o, vs, j, rfl, pl, hc, hd, ra⟩ := Rd.tuple_inv r
  have plh := of_hideAll H pl
  have hlen : vs.size = xs.length := by have := ra.length; simpa using this
  have hI : a ≠ h₁.objs.size := Nat.ne_of_lt (Heap.lt_size plh)
  refine wpAny_pyIter_tuple (items := vs) ⟨_, plh, hc, j, hd⟩ ?_
  refine hQ h₁.objs.size [h₁.objs.size, a] [h₁.objs.size] _ _ _ _ (x₁.trans (Ext.push _ _)) ⟨hlen ▸ Walks.tuple S.bud.hh h₁.objs.size a hI vs, ?_, ?_, ?_, ?_, ?_⟩ (Nat.le_of_ble_eq_true k)
  · exact ⟨⟨_, Heap.get?_push_size _ rfl, rfl, rfl⟩, ⟨_, Ext.push _ _ _ _ plh, hc, j, hd⟩⟩
  · rintro i h ⟨⟨o, ho, _⟩, _⟩ b hb
    rw [List.mem_singleton.mp hb]; exact ⟨o, ho⟩
  · intro b hb
    rw [List.mem_singleton.mp hb]; exact fresh_of_ext x₁
  · intro b hb
    rcases List.mem_cons.mp hb with rfl | hb
    · exact .inl (.head _)
    · rw [List.mem_singleton.mp hb]
      exact .inr ⟨fun m => (by rw [hideAll_none H m] at pl; exact nomatch pl), _, Ext.push _ _ _ _ plh⟩
  · intro i v d hv hd
    refine ex2 (ra.get hd) fun u hu ru => ?_
    have : vs.toList[i]? = some v := by simpa using hv
    rw [this] at hu; cases hu
    exact ru.ext (hide_new (Ext.push _ _) (get_fresh _))
noncomputable def rangeD (a c : Int) (k : Nat) : List PyData := (List.range k).map fun i => .int (a + (i : Nat) * c)
noncomputable def rangeOf (a b c : Int) : Option (List PyData) := cond (Builtin.Range.small a b c) (cond (Nat.ble (Builtin.Range.rangeSize a b c).toNat 1000000) (some (rangeD a c (Builtin.Range.rangeSize a b c).toNat)) none) none
theorem rangeSize_nn (a b c : Int) (hc : c ≠ 0) : 0 ≤ Builtin.Range.rangeSize a b c := by
  unfold Builtin.Range.rangeSize
  split
  · split
    · have := Int.ediv_nonneg (a := b - a - 1) (b := c) (by lia) (by lia); lia
    · lia
  · split
    · have := Int.ediv_nonneg (a := a - b - 1) (b := -c) (by lia) (by lia); lia
    · lia
theorem range_it {A : Around} {H : List Addr} {s : Shared} {r : Addr} {a b c : Int} {t u v : Tok} {h₀ : Heap} {xs : List PyData} {Q : Value → Shared → Prop} {E : Value → Shared → Prop} (hh : A.handled = none) (hc : c ≠ 0) (hr : IsRange s.heap r a b c t u v) (x : Ext h₀ s.heap) (e : rangeOf a b c = some xs)
    (hQ : ∀ I fp wr P St h' tk, Ext h₀ h' → ItOk G A h₀ h' H I fp wr P St xs → xs.length ≤ 1000000 → Q (.ref I) { s with heap := h', toks := tk }) : wpAny (model G.prog G.w) A (pyIter (.ref r)) Q E s := by
  unfold rangeOf at e
  refine cond_elim (c := Builtin.Range.small a b c) e fun k e => ?_
  refine cond_elim (c := Nat.ble (Builtin.Range.rangeSize a b c).toNat 1000000) e fun j e => ?_
  cases e
  have hlen : (rangeD a c (Builtin.Range.rangeSize a b c).toNat).length = (Builtin.Range.rangeSize a b c).toNat := by simp [rangeD]
  have hnn := rangeSize_nn a b c hc
  refine wpAny_pyIter_range hr k ?_
  refine hQ s.heap.objs.size [s.heap.objs.size] [s.heap.objs.size] _ _ _ _ (x.trans (Ext.push _ _)) ⟨by rw [hlen]; exact Walks.range hh s.heap.objs.size a c _, ?_, ?_, ?_, ?_, ?_⟩ (by rw [hlen]; exact Nat.le_of_ble_eq_true j)
  · show IsRangeIter _ _ _ _ _
    unfold IsRangeIter
    have e1 : a + ((0 : Nat) : Int) * c = a := by simp
    have e2 : (((Builtin.Range.rangeSize a b c).toNat : Nat) : Int) - ((0 : Nat) : Int) = Builtin.Range.rangeSize a b c := by lia
    rw [e1, e2]
    exact Heap.get?_push_size _ rfl
  · intro i h hi b hb
    rw [List.mem_singleton.mp hb]; exact ⟨_, hi⟩
  · intro b hb
    rw [List.mem_singleton.mp hb]; exact fresh_of_ext x
  · intro b hb; exact .inl hb
  · rintro i v d ⟨t, rfl⟩ hd
    unfold rangeD at hd
    rw [List.getElem?_map] at hd
    refine map_some (hd) fun q hq ee => ?_
    subst ee
    have := (List.getElem?_eq_some_iff.mp hq)
    obtain ⟨_, h2⟩ := this
    simp at h2; subst h2
    exact Rd.int _ t
structure TName (G : Gd) (sc : Scope) (x : Str) (T : String) : Prop where
  b : BName G sc x (.type T)
noncomputable def iRange (fs : St → Option (List LV)) : St → Option (List PyData) := fun st => (fs st).bind fun ls => (intsOf ls).bind fun is => match is with
  | [b] => rangeOf 0 b 1
  | [a, b] => rangeOf a b 1
  | [a, b, c] => if c = -1 then rangeOf a b (-1) else none
  | _ => none
theorem EvI.range {x : Str} {e : PySem.Expr} {es : List PySem.Expr} {p pos : Pos} {fs : St → Option (List LV)} (b : BName G sc x (.type "range")) (hns : ∀ e' ∈ e :: es, NS e') (h : EvL G sc n (e :: es) fs) :
    EvI G sc n (.Call (.Name x p) (e :: es) [] pos) (iRange fs) := fun A env H st s xs Q E S q hQ => by
  unfold iRange at q
  refine bind_some (q) fun ls hls q => ?_
  refine wpAny_Call_Name_kw (b.load S ?_)
  have e0 := hns e (.head _) es env
  have hp := backTo_plain pos (env := env) (es := es) fun e' he => hns e' (.tail _ he)
  have hE := h A env H st s ls pos (fun vs s₁ => wpAny (model G.prog G.w) A (call (.type "range") vs) (fun x s₁ => wpAny (model G.prog G.w) A (pyIter x) Q E s₁) E s₁) E S hls fun vs h₁ t₁ x₁ rs => by
    refine bind_some (q) fun is hi q => ?_
    have r := intsOf_are rs hi
    cases is with
    | nil => cases q
    | cons a is =>
      obtain ⟨t₁, _, rfl, r1⟩ := ints_cons r
      cases is with
      | nil =>
        cases ints_nil r1
        exact call_range_1 (range_it S.bud.hh (by decide) (IsRange.new ..) (x₁.trans (Ext.push _ _)) q hQ)
      | cons b is =>
        obtain ⟨t₂, _, rfl, r2⟩ := ints_cons r1
        cases is with
        | nil =>
          cases ints_nil r2
          exact call_range_2 (range_it S.bud.hh (by decide) (IsRange.new ..) (x₁.trans (Ext.push _ _)) q hQ)
        | cons c is =>
          obtain ⟨t₃, _, rfl, r3⟩ := ints_cons r2
          cases is with
          | cons => cases q
          | nil =>
            cases ints_nil r3
            obtain ⟨hc, q⟩ := if_pos_some q
            subst hc
            exact call_range_3 (by decide) (range_it S.bud.hh (by decide) (IsRange.new ..) (x₁.trans (Ext.push _ _)) q hQ) (.inl (PyProof.noPylong_small (by decide)))
  exact callWith_type1 hE e0 hp
end
end Mine
end

section
open PySem PySem.W PyProof.Rows PySem.Calls
namespace Mine

section
variable {G : Gd} {sc : Scope} {n : Nat} {A : Around} {X : List Addr} {B : Heap} {env : Env} {α : Nat → Addr} {H : List Addr} {st : St} {h h' : Heap}

noncomputable def Prv (env : Env) (α : Nat → Addr) (st : St) (a : Addr) : Prop := a = env.locals ∨ a ∈ env.cells.map (·.2) ∨ ∃ x xs, st.get x = some (.own xs) ∧ a = α x
theorem Rep.prv (R : Rep G sc n A X B env α H st h) {a : Addr} (p : Prv env α st a) : a ∈ H ∧ a ∉ X ∧ B.get? a = none := by
  rcases p with rfl | p | ⟨x, xs, e, rfl⟩
  · exact ⟨R.hL, R.lX, R.lB⟩
  · exact ⟨R.hC a p, (R.cB a p).2.1, (R.cB a p).1⟩
  · exact ⟨(R.oB x xs e).1, (R.oB x xs e).2.2.1, (R.oB x xs e).2.1⟩

theorem Rep.rebase (R : Rep G sc n A X B env α H st h) {X' : List Addr} {B' : Heap} (pB : G.P B') (kp : Ext B' h) (hX : ∀ a ∈ X', a ∈ H) (hB : ∀ a ∈ H, a ∈ X' ∨ B'.get? a = none)
    (hP : ∀ a, Prv env α st a → a ∉ X' ∧ B'.get? a = none) : Rep G sc n A X' B' env α H st h :=
  { R with
    pB := pB
    keep := kp
    hX := hX
    hB := hB
    lB := (hP _ (.inl rfl)).2
    lX := (hP _ (.inl rfl)).1
    cB := fun c hc => ⟨(hP c (.inr (.inl hc))).2, (hP c (.inr (.inl hc))).1, (R.cB c hc).2.2⟩
    oB := fun x xs e => ⟨(R.oB x xs e).1, (hP _ (.inr (.inr ⟨x, xs, e, rfl⟩))).2, (hP _ (.inr (.inr ⟨x, xs, e, rfl⟩))).1, (R.oB x xs e).2.2.2⟩ }

theorem Rep.growL (R : Rep G sc n A X B env α H st h) (x : Ext h h') {wr : List Addr} (ha : ∀ a ∈ wr, h.get? a = none ∧ ∃ o, h'.get? a = some o) : Rep G sc n A X B env α (wr ++ H) st h' := by
  induction wr with
  | nil => exact R.ext x
  | cons a wr ih =>
    have R' := ih fun b hb => ha b (.tail _ hb)
    have e : Ext (hideAll h (wr ++ H)) (hideAll h' (a :: (wr ++ H))) := hide_new x (ha a (.head _)).1
    refine { R' with hX := fun b hb => .tail _ (R'.hX b hb), hL := .tail _ R'.hL, hC := fun c hc => .tail _ (R'.hC c hc), hB := ?_, hok := ?_, oB := fun y xs e => ⟨.tail _ (R'.oB y xs e).1, (R'.oB y xs e).2⟩, vars := ?_ }
    · intro b hb
      rcases List.mem_cons.mp hb with rfl | hb
      · refine .inr ?_
        cases q : B.get? b with
        | none => rfl
        | some o => have := (ha b (.head _)).1; rw [R.keep _ _ q] at this; cases this
      · exact R'.hB b hb
    · intro b hb
      rcases List.mem_cons.mp hb with rfl | hb
      · exact (ha b (.head _)).2
      · exact R'.hok b hb
    · intro y lv q
      obtain ⟨v, s, r, o⟩ := R.vars y lv q
      have m : Ext (hideAll h H) (hideAll h' ((a :: wr) ++ H)) := hide_gen (fun b o _ e => x b o e) fun b hb => by
        rcases List.mem_append.mp hb with hb | hb
        · exact .inr (ha b hb).1
        · exact .inl hb
      refine ⟨v, s.ext x, ?_, o⟩
      cases lv with
      | fn => exact r
      | d p => exact Rd.ext m r
      | own xs => obtain ⟨b, vs, e1, p, q⟩ := r; exact ⟨b, vs, e1, p.at fun o q => x b o q, q.ext m⟩
      | arg xs => obtain ⟨b, vs, e1, ⟨o, q1, q2⟩, q⟩ := r; exact ⟨b, vs, e1, ⟨o, m _ _ q1, q2⟩, q.ext m⟩

theorem RO.kept {wr H' : List Addr} (k : ∀ b o, b ∉ wr → h.get? b = some o → h'.get? b = some o) (hw : ∀ b ∈ wr, b ∈ H) (hs : ∀ a ∈ H', a ∈ H) {v : Value} : ∀ {lv : LV}, (∀ xs, lv = .own xs → ∃ a, v = .ref a ∧ a ∉ wr) → RO G H h v lv → RO G H' h' v lv := by
  have m : Ext (hideAll h H) (hideAll h' H') := hide_gen (fun b o hb e => k b o (fun q => hb (hw b q)) e) fun a ha => .inl (hs a ha)
  intro lv ho r
  cases lv with
  | fn => exact r
  | d p => exact Rd.ext m r
  | own xs =>
    obtain ⟨b, vs, e1, p, q⟩ := r
    obtain ⟨a, e2, ha⟩ := ho xs rfl
    have : b = a := by rw [e1] at e2; injection e2
    subst this
    exact ⟨b, vs, e1, p.at fun o q => k b o ha q, q.ext m⟩
  | arg xs => obtain ⟨b, vs, e1, ⟨o, q1, q2⟩, q⟩ := r; exact ⟨b, vs, e1, ⟨o, m _ _ q1, q2⟩, q.ext m⟩

theorem Rep.other (R : Rep G sc n A X B env α H st h) {wr H' : List Addr} (k : ∀ b o, b ∉ wr → h.get? b = some o → h'.get? b = some o) (hw : ∀ b ∈ wr, b ∈ H ∧ B.get? b = none) (hP : ∀ a, Prv env α st a → a ∉ wr)
    (hs : ∀ a ∈ H', a ∈ H) (hs' : ∀ a ∈ H, a ∉ wr → a ∈ H') (hX : ∀ a ∈ X, a ∉ wr) (hE : ∀ a ∈ H', a ∈ wr → ∃ o, h'.get? a = some o) : Rep G sc n A X B env α H' st h' := by
  refine { R with keep := ?_, hX := fun a ha => hs' a (R.hX a ha) (hX a ha), hL := hs' _ R.hL (hP _ (.inl rfl)), hC := fun c hc => hs' _ (R.hC c hc) (hP _ (.inr (.inl hc))), hB := fun a ha => R.hB a (hs a ha), hok := ?_, ns := ?_, cB := ?_, oB := ?_, vars := ?_ }
  · intro b o e
    exact k b o (fun q => by exact (no_some ((hw b q).2) e).elim) (R.keep b o e)
  · intro a ha
    by_cases q : a ∈ wr
    · exact hE a ha q
    · obtain ⟨o, e⟩ := R.hok a (hs a ha)
      exact ⟨o, k a o q e⟩
  · obtain ⟨m, e⟩ := R.ns
    exact ⟨m, e.at' fun o q => k _ o (hP _ (.inl rfl)) q⟩
  · intro c hc
    refine byC fun CC hCC => ?_
    obtain ⟨h1, h2, h3, v, o, ho, hd⟩ := R.cB c hc
    refine hCC ?_
    clear hCC
    exact ⟨h1, h2, h3, v, o, k c o (hP _ (.inr (.inl hc))) ho, hd⟩
  · intro x xs e
    obtain ⟨h1, h2⟩ := R.oB x xs e
    exact ⟨hs' _ h1 (hP _ (.inr (.inr ⟨x, xs, e, rfl⟩))), h2⟩
  · intro x lv e
    obtain ⟨v, s, r, o⟩ := R.vars x lv e
    refine ⟨v, ?_, r.kept k (fun b hb => (hw b hb).1) hs (fun xs q => ?_), o⟩
    · rcases s with ⟨hk, m', hm', em⟩ | ⟨hk, d, hd, ob, ho, hdat⟩
      · exact .inl ⟨hk, m', hm'.at' fun o q => k _ o (hP _ (.inl rfl)) q, em⟩
      · exact .inr ⟨hk, d, hd, ob, k d ob (hP _ (.inr (.inl (lookup_mem hd)))) ho, hdat⟩
    · subst q
      exact ⟨α x, o xs rfl, hP _ (.inr (.inr ⟨x, xs, e, rfl⟩))⟩

theorem FlR.less {X X' : List Addr} (hs : ∀ a ∈ X', a ∈ X) {fl : Fl} {fw : Flow} (r : FlR X h fl fw) : FlR X' h fl fw := by
  cases fl with
  | next => exact r
  | brk => exact r
  | cont => exact r
  | ret p => obtain ⟨v, e, q⟩ := r; exact ⟨v, e, Rd.ext (hide_gen (fun _ _ _ e => e) fun a m => .inl (hs a m)) q⟩
end

noncomputable def forGo (x : Nat) (g : St → Option (Fl × St)) : List PyData → St → Option (Fl × St)
  | [], st => some (.next, st)
  | d :: ds, st => (g (st.set x (.d d))).bind fun r => match r with
    | (.next, st') => forGo x g ds st'
    | (.cont, st') => forGo x g ds st'
    | (.brk, st') => some (.next, st')
    | (.ret p, st') => some (.ret p, st')
theorem forGo_c (x : Nat) (g : St → Option (Fl × St)) (d : PyData) (ds : List PyData) (st : St) : forGo x g (d :: ds) st = (g (st.set x (.d d))).bind fun r => match r with
    | (.next, st') => forGo x g ds st'
    | (.cont, st') => forGo x g ds st'
    | (.brk, st') => some (.next, st')
    | (.ret p, st') => some (.ret p, st') := rfl
noncomputable def sFor (x : Nat) (f : St → Option (List PyData)) (g : St → Option (Fl × St)) : St → Option (Fl × St) := fun st => (f st).bind fun xs => forGo x g xs st

section
variable {G : Gd} {sc : Scope} {n : Nat} {A : Around} {X : List Addr} {B : Heap} {env : Env} {α : Nat → Addr} {H : List Addr} {st : St} {h h' : Heap}
theorem Rep.inner (R : Rep G sc n A X B env α H st h) {W : List Addr} (hW : ∀ a ∈ W, a ∈ H ∧ ¬ Prv env α st a) :
    ∃ B₁, Rep G sc n A (W ++ X) B₁ env α H st h ∧ Ext B B₁ ∧ ∀ b o, (b ∉ H ∨ b ∈ W ++ X) → h.get? b = some o → B₁.get? b = some o := by
  have pv : ∀ a, Prv env α st a → a ∉ W ++ X := fun a pa m => by
    rcases List.mem_append.mp m with m | m
    · exact (hW a m).2 pa
    · exact (R.prv pa).2.1 m
  have no : ∀ b, b ∈ H → b ∉ W ++ X → (hideAll h (H.filter fun a => decide (a ∉ W ++ X))).get? b = none := fun b ha m => hideAll_none _ (List.mem_filter.mpr ⟨ha, decide_eq_true m⟩)
  have le : Ext (hideAll h (H.filter fun a => decide (a ∉ W ++ X))) h := hide_le _ _
  have some : ∀ b o, b ∉ H ∨ b ∈ W ++ X → h.get? b = some o → (hideAll h (H.filter fun a => decide (a ∉ W ++ X))).get? b = some o := fun b o hb e => hideAll_get _ e fun m => by
    have := List.mem_filter.mp m
    rcases hb with hb | hb
    · exact hb this.1
    · exact (of_decide_eq_true this.2) hb
  generalize hideAll h (H.filter fun a => decide (a ∉ W ++ X)) = B₁ at no some le
  have ext : Ext B B₁ := fun b o e => some b o (by
    by_cases m : b ∈ H
    · rcases R.hB b m with w | w
      · exact .inr (List.mem_append_right _ w)
      · rw [e] at w; cases w
    · exact .inl m) (R.keep b o e)
  refine ⟨B₁, R.rebase (G.mono ext R.pB) le (fun a ha => ?_) (fun a ha => ?_) fun a pa => ⟨pv a pa, no a (R.prv pa).1 (pv a pa)⟩, ext, some⟩
  · rcases List.mem_append.mp ha with m | m
    · exact (hW a m).1
    · exact R.hX a m
  · by_cases m : a ∈ W ++ X
    · exact .inl m
    · exact .inr (no a ha m)
theorem Rep.outer {B₁ : Heap} {W : List Addr} (R : Rep G sc n A (W ++ X) B₁ env α H st h) (pB : G.P B) (e : Ext B B₁) (hW : ∀ a ∈ W, B.get? a = none) : Rep G sc n A X B env α H st h := by
  have no : ∀ a, B₁.get? a = none → B.get? a = none := fun a w => by
    cases v : B.get? a with
    | none => rfl
    | some o => rw [e _ _ v] at w; cases w
  refine R.rebase pB (e.trans R.keep) (fun a ha => R.hX a (List.mem_append_right _ ha)) (fun a ha => ?_) fun a pa => ⟨fun m => (R.prv pa).2.1 (List.mem_append_right _ m), no a (R.prv pa).2.2⟩
  rcases R.hB a ha with w | w
  · rcases List.mem_append.mp w with w | w
    · exact .inr (hW a w)
    · exact .inl w
  · exact .inr (no a w)
end

section
variable {G : Gd} {sc : Scope} {n : Nat}
inductive ForInv (G : Gd) (sc : Scope) (n : Nat) (A : Around) (X : List Addr) (B : Heap) (env : Env) (s : Shared) (wr : List Addr) (Z : Nat → Heap → Prop) (x : Nat) (g : St → Option (Fl × St)) (xs : List PyData) (r : Fl × St) (k : Nat) (s' : Shared) : Prop where
  | mk (hh : Heap) (tk : Nat) (α' : Nat → Addr) (H' : List Addr) (st' : St) (i : Nat) (e : s' = { s with heap := hh, toks := tk }) (hk : k = xs.length - i) (hi : i ≤ xs.length) (hZ : Z i hh) (R : Rep G sc n A X B env α' H' st' hh)
      (hw : ∀ b ∈ wr, b ∈ H') (hP : ∀ a, Prv env α' st' a → a ∉ wr) (hgo : forGo x g (xs.drop i) st' = some r) : ForInv G sc n A X B env s wr Z x g xs r k s'
theorem forGo_succ {x : Nat} {g : St → Option (Fl × St)} {d : PyData} {ds : List PyData} {st : St} {r : Fl × St} (h : forGo x g (d :: ds) st = some r) :
    ∃ fl₁ st₁, g (st.set x (.d d)) = some (fl₁, st₁) ∧ (match fl₁ with | .next => forGo x g ds st₁ = some r | .cont => forGo x g ds st₁ = some r | .brk => r = (.next, st₁) | .ret p => r = (.ret p, st₁)) := by
  refine bind_some2 (((forGo_c x g d ds st).symm.trans h)) fun fl₁ st₁ hg h => ?_
  refine ⟨fl₁, st₁, hg, ?_⟩
  cases fl₁ with
  | next => exact h
  | cont => exact h
  | brk => exact (Option.some.inj h).symm
  | ret p => exact (Option.some.inj h).symm
theorem forGo_at {x : Nat} {g : St → Option (Fl × St)} {xs : List PyData} {i : Nat} {st : St} {r : Fl × St} (hlt : i < xs.length) (h : forGo x g (xs.drop i) st = some r) :
    ∃ d fl₁ st₁, xs[i]? = some d ∧ g (st.set x (.d d)) = some (fl₁, st₁) ∧ (match fl₁ with | .next => forGo x g (xs.drop (i + 1)) st₁ = some r | .cont => forGo x g (xs.drop (i + 1)) st₁ = some r | .brk => r = (.next, st₁) | .ret p => r = (.ret p, st₁)) := by
  rw [List.drop_eq_getElem_cons hlt] at h
  obtain ⟨fl₁, st₁, hg, h⟩ := forGo_succ h
  exact ⟨_, fl₁, st₁, List.getElem?_eq_getElem hlt, hg, h⟩
theorem turn_lt {n i : Nat} (h : i < n) : n - (i + 1) < n - i := by lia
theorem ExS.for {x : Nat} {y : Str} {p pos : Pos} {iter : PySem.Expr} {body : List Stmt} {f : St → Option (List PyData)} {g : St → Option (Fl × St)} (hn : G.nm x = y) (hx : isVar sc y) (hi : EvI G sc n iter f) (hb : ExL G sc n body g)
    (hs : ∀ env v, foldedSetIterable iter env v = pure v) : ExS G sc n (.For (.Name y p) iter body [] pos) (sFor x f g) := fun A X B env α H st s fl stF Q E R q hQ => by
  subst hn
  unfold sFor at q
  refine bind_some (q) fun xs hxs q => ?_
  refine wpAny_For ?_ (hs env)
  refine hi A env H st s xs _ E R.sit hxs fun I fp wr P Z h₁ t₁ x₁ it hlen => ?_
  have wrX : ∀ b ∈ wr, b ∉ X := fun b hb m => by
    obtain ⟨o, w⟩ := R.hok b (R.hX b m); exact (no_some (it.new b hb) w).elim
  have wrP : ∀ a, Prv env α st a → a ∉ wr := fun a pa m => by
    obtain ⟨o, w⟩ := R.hok a (R.prv pa).1; exact (no_some (it.new a m) w).elim
  have R₁ : Rep G sc n A X B env α (wr ++ H) st h₁ := R.growL x₁ fun b hb => ⟨it.new b hb, it.ex 0 h₁ it.st b hb⟩
  obtain ⟨B₀, R₂, BB₀, B₀some⟩ := R₁.inner (W := []) (fun _ m => nomatch m)
  have B₀none : ∀ b, b ∈ wr ++ H → b ∉ X → B₀.get? b = none := fun b hb hx => (R₂.hB b hb).resolve_left hx
  -- back to the outer base
  have back : ∀ {α' H' st' h'}, Rep G sc n A X B₀ env α' H' st' h' → Rep G sc n A X B env α' H' st' h' := fun {α' H' st' h'} R' => Rep.outer (W := []) R' R.pB BB₀ (fun _ m => nomatch m)
  refine codeAny_forLoop (ForInv G sc n A X B₀ env s wr Z x g xs (fl, stF)) ?_ xs.length ⟨h₁, t₁, α, wr ++ H, st, 0, rfl, rfl, Nat.zero_le _, it.st, R₂, fun b hb => List.mem_append_left _ hb, wrP, q⟩
  intro k s' hZZ
  refine byC fun CC hCC => ?_
  obtain ⟨hh, tk, α', H', st', i, rfl, rfl, hi', hst, R', hw, hP, hgo⟩ := hZZ
  refine hCC ?_
  clear hCC
  by_cases hlt : i < xs.length
  · obtain ⟨d, fl₁, st₁, hd, hg, hgo⟩ := forGo_at hlt hgo
    refine it.w.item i _ _ _ hlt hst fun v h₂ t₂ hPv hst₂ hk₂ => ?_
    have R₃ : Rep G sc n A X B₀ env α' H' st' h₂ := R'.other (wr := wr) (H' := H') hk₂ (fun b hb => ⟨hw b hb, B₀none b (List.mem_append_left _ hb) (wrX b hb)⟩) hP (fun _ m => m) (fun _ m _ => m) (fun a ha m => wrX a m ha) fun a _ m => it.ex _ _ hst₂ a m
    -- the item's datum
    have hRd : Rd (hideAll h₂ H') v d := Rd.ext (fun b o e => by
      have hb : b ∉ wr ++ H := fun m => by exact (no_some (hideAll_none _ m) e).elim
      have e₁ := of_hideAll _ e
      have e₂ := B₀some b o (.inl hb) e₁
      refine hideAll_get H' (R₃.keep b o e₂) fun m => ?_
      rcases R₃.hB b m with w | w
      · exact hb (List.mem_append_right _ (R.hX b w))
      · rw [e₂] at w; cases w) (it.item i v d hPv hd)
    obtain ⟨B₁, R₄, B₀₁, B₁some⟩ := R₃.inner (W := wr) fun a ha => ⟨hw a ha, fun p => hP a p ha⟩
    refine wpAny_assign_Name ?_
    refine Rep.storeD (s := { s with heap := h₂, toks := t₂ }) R₄ hx hRd fun h₃ t₃ R₅ => ?_
    refine hb A (wr ++ X) B₁ env α' H' _ { s with heap := h₃, toks := t₃ } fl₁ st₁ _ _ R₅ hg fun α₆ H₆ h₆ t₆ fw R₆ hfl => ?_
    have fpk : ∀ b ∈ fp, ∀ o, h₂.get? b = some o → h₆.get? b = some o := fun b hb o e => by
      refine R₆.keep b o (B₁some b o ?_ e)
      rcases it.old b hb with w | ⟨w, ob, ho⟩
      · exact .inr (List.mem_append_left _ w)
      · by_cases m : b ∈ H'
        · rcases R₃.hB b m with u | u
          · exact .inr (List.mem_append_right _ u)
          · by_cases m2 : b ∈ wr
            · exact .inr (List.mem_append_left _ m2)
            · rw [B₀some b ob (.inl fun m3 => by rcases List.mem_append.mp m3 with m3 | m3; exact m2 m3; exact w m3) ho] at u; cases u
        · exact .inl m
    have hst₆ : Z (i + 1) h₆ := it.w.frame _ _ _ hst₂ fpk
    have R₇ : Rep G sc n A X B₀ env α₆ H₆ st₁ h₆ := R₆.outer R₃.pB B₀₁ fun a ha => B₀none a (List.mem_append_left _ ha) (wrX a ha)
    have hP₇ : ∀ a, Prv env α₆ st₁ a → a ∉ wr := fun a pa m => (R₆.prv pa).2.1 (List.mem_append_left _ m)
    have hw₇ : ∀ b ∈ wr, b ∈ H₆ := fun b hb => R₆.hX b (List.mem_append_left _ hb)
    cases fl₁ with
    | next => cases hfl; exact ⟨xs.length - (i + 1), turn_lt hlt, h₆, t₆, α₆, H₆, st₁, i + 1, rfl, rfl, hlt, hst₆, R₇, hw₇, hP₇, hgo⟩
    | cont => cases hfl; exact ⟨xs.length - (i + 1), turn_lt hlt, h₆, t₆, α₆, H₆, st₁, i + 1, rfl, rfl, hlt, hst₆, R₇, hw₇, hP₇, hgo⟩
    | brk => cases hfl; cases hgo; exact hQ α₆ H₆ h₆ t₆ .next (back R₇) rfl
    | ret p => obtain ⟨v', rfl, r⟩ := hfl; cases hgo; exact hQ α₆ H₆ h₆ t₆ (.ret v') (back R₇) (FlR.less (fl := .ret p) (fun a m => List.mem_append_right _ m) ⟨v', rfl, r⟩)
  · rw [List.drop_of_length_le (Nat.le_of_not_lt hlt)] at hgo
    obtain ⟨rfl, rfl⟩ : fl = .next ∧ st' = stF := by cases hgo; exact ⟨rfl, rfl⟩
    cases Nat.le_antisymm hi' (Nat.le_of_not_lt hlt)
    refine it.w.done _ _ _ hst fun h₂ t₂ hk₂ => wpAny_execs_nil ?_
    have R₃ : Rep G sc n A X B₀ env α' (H'.filter fun a => decide (a ∉ wr)) st' h₂ := R'.other (wr := wr) hk₂ (fun b hb => ⟨hw b hb, B₀none b (List.mem_append_left _ hb) (wrX b hb)⟩) hP (fun _ m => (List.mem_filter.mp m).1)
      (fun _ m w => List.mem_filter.mpr ⟨m, decide_eq_true w⟩) (fun a ha m => wrX a m ha) fun a m w => absurd w (of_decide_eq_true (List.mem_filter.mp m).2)
    exact hQ α' _ h₂ t₂ .next (back R₃) rfl

noncomputable def whGo (t : St → Option Bool) (g : St → Option (Fl × St)) : Nat → St → Option (Fl × St)
  | 0, _ => none
  | k + 1, st => (t st).bind fun b => cond b ((g st).bind fun r => match r with
    | (.next, st') => whGo t g k st'
    | (.cont, st') => whGo t g k st'
    | (.brk, st') => some (.next, st')
    | (.ret p, st') => some (.ret p, st')) (some (.next, st))
inductive WhInv (G : Gd) (sc : Scope) (n : Nat) (A : Around) (X : List Addr) (B : Heap) (env : Env) (s : Shared) (t : St → Option Bool) (g : St → Option (Fl × St)) (r : Fl × St) (j : Nat) : Shared → Prop where
  | mk (hh : Heap) (tk : Nat) (α' : Nat → Addr) (H' : List Addr) (st' : St) (R : Rep G sc n A X B env α' H' st' hh) (q : whGo t g j st' = some r) : WhInv G sc n A X B env s t g r j { s with heap := hh, toks := tk }
theorem whGo_succ {t : St → Option Bool} {g : St → Option (Fl × St)} {k : Nat} {st : St} {r : Fl × St} (h : whGo t g (k + 1) st = some r) :
    ∃ b, t st = some b ∧ ((b = false ∧ r = (.next, st)) ∨ (b = true ∧ ∃ fl₁ st₁, g st = some (fl₁, st₁) ∧ (match fl₁ with | .next => whGo t g k st₁ = some r | .cont => whGo t g k st₁ = some r | .brk => r = (.next, st₁) | .ret p => r = (.ret p, st₁)))) := by
  refine bind_some ((show (t st).bind _ = _ from h)) fun b hb h => ?_
  refine ⟨b, hb, ?_⟩
  cases b with
  | false => exact .inl ⟨rfl, (Option.some.inj h).symm⟩
  | true =>
    refine bind_some2 ((show (g st).bind _ = _ from h)) fun fl₁ st₁ hg h => ?_
    refine .inr ⟨rfl, fl₁, st₁, hg, ?_⟩
    cases fl₁ with
    | next => exact h
    | cont => exact h
    | brk => exact (Option.some.inj h).symm
    | ret p => exact (Option.some.inj h).symm
theorem ExS.while {c : PySem.Expr} {body : List Stmt} {pos : Pos} {t : St → Option Bool} {g : St → Option (Fl × St)} (k : Nat) (hc : EvT G sc n c t) (hb : ExL G sc n body g) : ExS G sc n (.While c body [] pos) (whGo t g k) := fun A X B env α H st s fl stF Q E R q hQ => by
  refine wpAny_While (codeAny_whileLoop (WhInv G sc n A X B env s t g (fl, stF)) ?_ k ⟨s.heap, s.toks, α, H, st, R, q⟩)
  rintro j _ ⟨hh, tk, α', H', st', R', hgo⟩
  cases j with
  | zero => cases hgo
  | succ j =>
    obtain ⟨b, hb', hgo⟩ := whGo_succ hgo
    refine hc A env H' st' _ b _ _ R'.sit hb' fun h₁ t₁ x₁ => ?_
    have R₁ := R'.ext x₁
    rcases hgo with ⟨rfl, e⟩ | ⟨rfl, fl₁, st₁, hg, hgo⟩
    · cases e; exact wpAny_execs_nil (hQ α' H' h₁ t₁ .next R₁ rfl)
    · refine hb A X B env α' H' st' { s with heap := h₁, toks := t₁ } fl₁ st₁ _ _ R₁ hg fun α₂ H₂ h₂ t₂ fw R₂ hfl => ?_
      cases fl₁ with
      | next => cases hfl; exact ⟨j, Nat.lt_succ_self _, h₂, t₂, α₂, H₂, st₁, R₂, hgo⟩
      | cont => cases hfl; exact ⟨j, Nat.lt_succ_self _, h₂, t₂, α₂, H₂, st₁, R₂, hgo⟩
      | brk => cases hfl; cases hgo; exact hQ α₂ H₂ h₂ t₂ .next R₂ rfl
      | ret p => obtain ⟨v', rfl, r⟩ := hfl; cases hgo; exact hQ α₂ H₂ h₂ t₂ (.ret v') R₂ ⟨v', rfl, r⟩
end
end Mine
end

section
open PySem PySem.W PyProof.Rows PySem.Calls
namespace Mine

section
variable {G : Gd} {sc : Scope} {n : Nat} {A : Around} {X : List Addr} {B : Heap} {env : Env} {α : Nat → Addr} {H : List Addr} {st : St} {h h' : Heap}
end

theorem Rd.unique {h : Heap} {v : Value} {d d' : PyData} (r : Rd h v d) (r' : Rd h v d') : d = d' := by
  obtain ⟨as, a⟩ := r.reads
  obtain ⟨bs, b⟩ := r'.reads
  exact (Reads.unique a _ _ b).1

noncomputable def compGo (t : St → Option Bool) (f : St → Option LV) (mk : PyData → St) : List PyData → Option (List PyData)
  | [] => some []
  | d :: ds => (t (mk d)).bind fun b => cond b ((f (mk d)).bind fun lv => match lv with
    | .d r => cond (scalar r) ((compGo t f mk ds).map (r :: ·)) none
    | _ => none) (compGo t f mk ds)
theorem compGo_cons {t : St → Option Bool} {f : St → Option LV} {mk : PyData → St} {d : PyData} {ds rs : List PyData} (e : compGo t f mk (d :: ds) = some rs) :
    (t (mk d) = some false ∧ compGo t f mk ds = some rs) ∨ (∃ r rs', t (mk d) = some true ∧ f (mk d) = some (.d r) ∧ scalar r = true ∧ compGo t f mk ds = some rs' ∧ rs = r :: rs') := by
  refine bind_some ((show (t (mk d)).bind _ = _ from e)) fun b hb e => ?_
  cases b with
  | false => exact .inl ⟨hb, e⟩
  | true =>
    refine bind_some ((show ((f (mk d)).bind _) = _ from e)) fun lv hlv e => ?_
    obtain ⟨r, rfl⟩ : ∃ ww, lv = .d ww := by cases lv <;> first | exact ⟨_, rfl⟩ | cases e
    cases q : scalar r with
    | false => simp only [q, cond_false] at e; cases e
    | true =>
      simp only [q, cond_true] at e
      refine map_some (e) fun rs' h1 ee => ?_
      subst ee
      exact .inr ⟨r, rs', hb, hlv, q, h1, rfl⟩
theorem compGo_mem {t : St → Option Bool} {f : St → Option LV} {mk : PyData → St} : ∀ {xs rs : List PyData}, compGo t f mk xs = some rs → ∀ d ∈ xs, ∃ b, t (mk d) = some b ∧ (b = true → ∃ r, f (mk d) = some (.d r) ∧ scalar r = true)
  | d :: ds, rs, e, d', hm => by
    rcases compGo_cons e with ⟨h1, h2⟩ | ⟨r, rs', h1, h2, h3, h4, rfl⟩
    · rcases List.mem_cons.mp hm with rfl | hm
      · exact ⟨false, h1, fun q => by cases q⟩
      · exact compGo_mem h2 d' hm
    · rcases List.mem_cons.mp hm with rfl | hm
      · exact ⟨true, h1, fun _ => ⟨r, h2, h3⟩⟩
      · exact compGo_mem h4 d' hm
theorem comp_pair {t : St → Option Bool} {f : St → Option LV} {mk : PyData → St} {g h : Heap} {p : Value → Bool} {F : Value → Value → Prop} (hp : ∀ v d b, Rd g v d → t (mk d) = some b → p v = b)
    (hF : ∀ v y d r, F v y → Rd g v d → f (mk d) = some (.d r) → Rd h y r) : ∀ {xs rs : List PyData} {vs ys : List Value}, RdA g vs xs → compGo t f mk xs = some rs → Paired F (vs.filter p) ys → RdA h ys rs
  | [], rs, vs, ys, r, e, pr => by
    rw [r.nilR] at pr
    cases e
    cases pr
    exact .nil
  | d :: ds, rs, vs, ys, r, e, pr => by
    obtain ⟨v, vs', rfl, a, b⟩ := r.consR
    rcases compGo_cons e with ⟨h1, h2⟩ | ⟨q, rs', h1, h2, h3, h4, rfl⟩
    · rw [List.filter_cons_of_neg (by rw [hp v d false a h1]; decide)] at pr
      exact comp_pair hp hF b h2 pr
    · rw [List.filter_cons_of_pos (hp v d true a h1)] at pr
      cases pr with
      | cons x y => exact .cons (hF _ _ _ _ x a h2) (comp_pair hp hF b h4 y)

theorem closureFor_ok {scope : Scope} {env : Env} (hf : ∀ x k, (x, k) ∈ scope.names → k = .free → ∃ c, env.cells.lookup x = some c) :
    ∃ cl, closureFor scope env = pure cl ∧ (∀ x c, (x, c) ∈ cl → env.cells.lookup x = some c) ∧ ∀ x, (x, NameKind.free) ∈ scope.names → ∃ c, (x, c) ∈ cl := by
  have key : ∀ (names : List (Str × NameKind)) (acc : List (Str × Addr)), (∀ x k, (x, k) ∈ names → k = .free → ∃ c, env.cells.lookup x = some c) → (∀ x c, (x, c) ∈ acc → env.cells.lookup x = some c) →
      ∃ cl, (forIn names acc fun x (cs : List (Str × Addr)) => (if (x.2 == NameKind.free) = true then (do let a ← cellOf env x.1; pure (ForInStep.yield ((x.1, a) :: cs))) else pure (ForInStep.yield cs) : Sem (ForInStep (List (Str × Addr))))) = pure cl ∧
        (∀ x c, (x, c) ∈ cl → env.cells.lookup x = some c) ∧ (∀ p ∈ acc, p ∈ cl) ∧ ∀ x, (x, NameKind.free) ∈ names → ∃ c, (x, c) ∈ cl := by
    intro names
    induction names with
    | nil => intro acc _ ha; exact ⟨acc, rfl, ha, fun _ m => m, fun x m => nomatch m⟩
    | cons p r ih =>
      intro acc hn ha
      obtain ⟨x, k⟩ := p
      by_cases hk : (k == NameKind.free) = true
      · have hk' : k = .free := by simpa using hk
        subst hk'
        refine byC fun CC hCC => ?_
        obtain ⟨c, hc⟩ := hn x .free (.head _) rfl
        obtain ⟨cl, h1, h2, h3, h4⟩ := ih ((x, c) :: acc) (fun y k m => hn y k (.tail _ m)) fun y d m => by
          rcases List.mem_cons.mp m with e | m
          · cases e; exact hc
          · exact ha y d m
        refine hCC ?_
        clear hCC
        refine ⟨cl, ?_, h2, fun q m => h3 q (.tail _ m), fun y m => ?_⟩
        · rw [List.forIn_cons]
          have hce : cellOf env x = pure c := by unfold cellOf; rw [hc]
          simp only [hk, if_true, hce, pure_bind]
          exact h1
        · rcases List.mem_cons.mp m with e | m
          · cases e; exact ⟨c, h3 _ (.head _)⟩
          · exact h4 y m
      · refine byC fun CC hCC => ?_
        obtain ⟨cl, h1, h2, h3, h4⟩ := ih acc (fun y k m => hn y k (.tail _ m)) ha
        refine hCC ?_
        clear hCC
        refine ⟨cl, ?_, h2, h3, fun y m => ?_⟩
        · rw [List.forIn_cons]
          simp only [hk, Bool.false_eq_true, if_false, pure_bind]
          exact h1
        · rcases List.mem_cons.mp m with e | m
          · cases e; exact absurd rfl hk
          · exact h4 y m
  refine byC fun CC hCC => ?_
  obtain ⟨cl, h1, h2, _, h4⟩ := key scope.names [] hf (fun _ _ m => nomatch m)
  refine hCC ?_
  clear hCC
  exact ⟨cl, by unfold closureFor; first | exact h1 | (simp only [bind_pure]; exact h1), h2, h4⟩
end Mine
end

section
open PySem PySem.W PyProof.Rows PySem.Calls
namespace Mine

theorem relabel_lookup {env : Env} {x : Str} : ∀ (names : List (Str × NameKind)),
    (names.map fun (n, k) => if (k == NameKind.free && env.scope.kind == .function && env.kindOf n == some .cell) then (n, NameKind.cell) else (n, k)).lookup x =
      (names.lookup x).map fun k => if (k == NameKind.free && env.scope.kind == .function && env.kindOf x == some .cell) then NameKind.cell else k
  | [] => rfl
  | (n, k) :: r => by
    have ih := @relabel_lookup env x r
    rw [List.map_cons]
    cases hx : x == n with
    | true =>
      have : x = n := by simpa using hx
      subst this
      by_cases hc : (k == NameKind.free && env.scope.kind == .function && env.kindOf x == some .cell) = true
      · simp only [if_pos hc, List.lookup_cons, hx, Option.map_some]
      · simp only [if_neg hc, List.lookup_cons, hx, Option.map_some]
    | false =>
      by_cases hc : (k == NameKind.free && env.scope.kind == .function && env.kindOf n == some .cell) = true
      · simp only [if_pos hc, List.lookup_cons, hx]; exact ih
      · simp only [if_neg hc, List.lookup_cons, hx]; exact ih
theorem mem_of_lookupK {l : List (Str × NameKind)} {x : Str} {k : NameKind} (e : l.lookup x = some k) : (x, k) ∈ l := by
  induction l with
  | nil => cases e
  | cons p r ih =>
    rw [List.lookup_cons] at e
    by_cases q : (x == p.1) = true
    · rw [q] at e; cases e
      have : x = p.1 := by simpa using q
      subst this; exact .head _
    · have q' : (x == p.1) = false := by simpa using q
      rw [q'] at e; exact .tail _ (ih e)
theorem mem_of_lookupA {l : List (Str × Addr)} {x : Str} {k : Addr} (e : l.lookup x = some k) : (x, k) ∈ l := by
  induction l with
  | nil => cases e
  | cons p r ih =>
    rw [List.lookup_cons] at e
    by_cases q : (x == p.1) = true
    · rw [q] at e; cases e
      have : x = p.1 := by simpa using q
      subst this; exact .head _
    · have q' : (x == p.1) = false := by simpa using q
      rw [q'] at e; exact .tail _ (ih e)
theorem lookupA_of_mem {l : List (Str × Addr)} {x : Str} {c : Addr} (m : (x, c) ∈ l) : ∃ d, l.lookup x = some d := by
  induction l with
  | nil => exact nomatch m
  | cons p r ih =>
    rw [List.lookup_cons]
    by_cases q : (x == p.1) = true
    · rw [q]; exact ⟨_, rfl⟩
    · have q' : (x == p.1) = false := by simpa using q
      rw [q']
      rcases List.mem_cons.mp m with e | m
      · rw [← e] at q'; simp at q'
      · exact ih m

noncomputable def compSt (fr : List Nat) (st : St) : St := fr.filterMap fun i => (st.get i).map fun v => (i, v)
theorem compSt_get {fr : List Nat} {st : St} {y : Nat} {lv : LV} (e : (compSt fr st).get y = some lv) : y ∈ fr ∧ st.get y = some lv := by
  induction fr with
  | nil => cases e
  | cons i r ih =>
    unfold compSt at e ih
    rw [List.filterMap_cons] at e
    cases q : st.get i with
    | none => rw [q] at e; obtain ⟨a, b⟩ := ih e; exact ⟨.tail _ a, b⟩
    | some v =>
      rw [q] at e
      simp only [Option.map_some, St.get, beq_dec] at e
      by_cases w : y = i
      · subst w; simp at e; subst e; exact ⟨.head _, q⟩
      · simp only [w, decide_false, cond_false] at e
        obtain ⟨a, b⟩ := ih e; exact ⟨.tail _ a, b⟩

structure CompOk (G : Gd) (sc scope : Scope) (x : Str) (xi : Nat) (fr : List Nat) : Prop where
  nx : G.nm xi = x
  kind : scope.kind = .function
  nocell : ∀ y ∈ scope.names, y.2 ≠ .cell
  names : ∀ y ∈ scope.names, y.2 = .local → scope.names.lookup y.1 = some .local
  loc : scope.names.lookup x = some .local
  free : ∀ y ∈ scope.names, y.2 = .free → sc.names.lookup y.1 = some .cell
  fr : ∀ i ∈ fr, scope.names.lookup (G.nm i) = some .free

noncomputable def mkC (xi : Nat) (fr : List Nat) (st : St) (d : PyData) : St := (xi, .d d) :: compSt fr st

section
variable {G : Gd} {sc scope : Scope} {n : Nat}

theorem comp_sit {A : Around} {env : Env} {H : List Addr} {st : St} {h₀ h : Heap} {x : Str} {xi : Nat} {fr : List Nat} {cl : List (Str × Addr)} {C : Addr} {m : Str → Option Value} {v : Value} {d : PyData} (K : CompOk G sc scope x xi fr) (S : Sit G sc n A env H st h₀) (e : Ext h₀ h)
    (hcl : ∀ x c, (x, c) ∈ cl → env.cells.lookup x = some c) (hcl' : ∀ x, (x, NameKind.free) ∈ scope.names → ∃ c, (x, c) ∈ cl) (hn : h.Ns C m) (hm : m x = some v) (r : Rd (hideAll h H) v d) :
    Sit G scope n A (compEnvC scope cl C env) H (mkC xi fr st d) h := by
  have S' := S.ext e
  have hfk : (env.scope.kind == ScopeKind.function) = true := by rw [S.eo.kind]; rfl
  refine ⟨⟨K.kind, S.eo.gl, S.eo.bl, fun y hy => ?_, fun y hy => absurd rfl (K.nocell _ (mem_of_lookupK hy))⟩, S.bud, S'.p, S'.hok, fun y lv q => ?_⟩
  · show (relabel scope env).names.lookup y = some .globalImplicit
    unfold relabel
    rw [relabel_lookup, hy]; rfl
  · unfold mkC at q
    simp only [St.get, beq_dec] at q
    by_cases w : y = xi
    · subst w
      simp only [decide_true, cond_true] at q
      cases q
      refine ⟨v, .inl ⟨?_, m, hn, by rw [K.nx]; exact hm⟩, r⟩
      show (relabel scope env).names.lookup (G.nm y) = some .local
      unfold relabel
      rw [relabel_lookup, K.nx, K.loc]; rfl
    · simp only [w, decide_false, cond_false] at q
      obtain ⟨hf, hg⟩ := compSt_get q
      obtain ⟨u, s, r'⟩ := S'.vars y lv hg
      refine ⟨u, .inr ⟨.inl ?_, ?_⟩, r'⟩
      · have h1 := K.fr y hf
        have h2 := (S.eo.cell _ (K.free _ (mem_of_lookupK h1) rfl)).1
        show (relabel scope env).names.lookup (G.nm y) = some .cell
        unfold relabel
        rw [relabel_lookup, h1]
        simp [hfk, h2]
      · have h1 := K.fr y hf
        obtain ⟨h2, c, hc⟩ := S.eo.cell _ (K.free _ (mem_of_lookupK h1) rfl)
        rcases s with ⟨hk, _⟩ | ⟨_, c', hc', hi⟩
        · rw [h2] at hk; cases hk
        · obtain ⟨c₁, m₁⟩ := hcl' _ (mem_of_lookupK h1)
          obtain ⟨c₂, l₂⟩ := lookupA_of_mem m₁
          have := hcl _ _ (mem_of_lookupA l₂)
          rw [hc'] at this; cases this
          exact ⟨_, l₂, hi⟩

noncomputable def EvIfs (G : Gd) (sc : Scope) (n : Nat) (ifs : List PySem.Expr) (t : St → Option Bool) : Prop :=
  ∀ (A : Around) (env : Env) (H : List Addr) (st : St) (s : Shared) (b : Bool) (Q : Bool → Shared → Prop) (E : Value → Shared → Prop), Sit G sc n A env H st s.heap → t st = some b → (∀ h' tk, Ext s.heap h' → Q b { s with heap := h', toks := tk }) →
    wpAny (model G.prog G.w) A (forIn ifs true fun c r => if r = true then do let ok ← isTrue c env (eval c env); pure (ForInStep.yield ok) else pure (ForInStep.yield r)) Q E s
noncomputable def tTrue : St → Option Bool := fun _ => some true
theorem EvIfs.nil : EvIfs G sc n [] tTrue := fun A env H st s b Q E S e hQ => by
  cases e
  rw [List.forIn_nil]
  exact wpAny_pure (hQ s.heap s.toks (Ext.refl _))
theorem EvIfs.one {c : PySem.Expr} {t : St → Option Bool} (h : EvT G sc n c t) : EvIfs G sc n [c] t := fun A env H st s b Q E S e hQ => by
  rw [List.forIn_cons]
  refine wpAny_bind ?_
  simp only [if_true]
  refine wpAny_bind (h A env H st s b _ E S e fun h₁ t₁ x₁ => wpAny_pure ?_)
  dsimp only
  rw [List.forIn_nil]
  exact wpAny_pure (hQ h₁ t₁ x₁)

noncomputable def eComp (xi : Nat) (fr : List Nat) (fi : St → Option (List PyData)) (t : St → Option Bool) (fe : St → Option LV) : St → Option (List PyData) := fun st => (fi st).bind fun xs => compGo t fe (mkC xi fr st) xs

open Classical in
theorem comp_core {A : Around} {env : Env} {H : List Addr} {st : St} {h₀ : Heap} {s₂ : Shared} {E : Value → Shared → Prop} {elt iter : PySem.Expr} {x : Str} {px pos : Pos} {xi : Nat} {fr : List Nat} {ifs : List PySem.Expr} {t : St → Option Bool} {fe : St → Option LV} {xs rs : List PyData} {cl : List (Str × Addr)}
    {I : Addr} {fp wr : List Addr} {P : Nat → Value → Prop} {Z : Nat → Heap → Prop} {RR : Value → Addr → Result → Shared → Prop}
    (K : CompOk G sc scope x xi fr) (ht : EvIfs G scope n ifs t) (he : EvV G scope n elt fe) (S : Sit G sc n A env H st h₀) (e₂ : Ext h₀ s₂.heap) (it : ItOk G A h₀ s₂.heap H I fp wr P Z xs) (hlen : xs.length ≤ 1000000) (hrs : compGo t fe (mkC xi fr st) xs = some rs)
    (hcl : ∀ x c, (x, c) ∈ cl → env.cells.lookup x = some c) (hcl' : ∀ x, (x, NameKind.free) ∈ scope.names → ∃ c, (x, c) ∈ cl)
    (hRR : ∀ D C h' tk m' ys, h₀.get? D = none → h₀.get? C = none → D ≠ C → h'.Ns C m' → h'.PlainList D ys → (∀ h, RdA h ys.toList rs) → Ext h₀ h' → RR (.ref D) C (.ok .next) { s₂ with heap := h', toks := tk }) :
    wpAny (model G.prog G.w) A (newList []) (fun acc s₃ => wpAny (model G.prog G.w) A (newFunctionEnv scope env.globals cl [] env.qual none .none (some env)) (fun cenv s₄ =>
      codeAny (model G.prog G.w) A (.compStart (.ListComp elt [⟨.Name x px, iter, ifs, 0⟩] scope pos) 0 (.ref I) acc { cenv with scope := relabel scope env }) (RR acc cenv.locals) s₄) E s₃) E s₂ := by
  have wrH : ∀ b o, h₀.get? b = some o → b ∉ wr := fun b o e m => by exact (no_some (it.new b m) e).elim
  have W' : Walks G.prog G.w A I fp wr xs.length (fun i v => P i v ∧ i < xs.length) Z :=
    { sub := it.w.sub, frame := it.w.frame, done := it.w.done, self := it.w.self,
      item := fun i s Q E hi st hQ => it.w.item i s Q E hi st fun v h' tk hv => hQ v h' tk ⟨hv, hi⟩ }
  -- what a kept heap knows of an item
  have keepG : ∀ h, (∀ b o, b ∉ wr → s₂.heap.get? b = some o → h.get? b = some o) → Ext (hideAll s₂.heap (wr ++ H)) (hideAll h H) := fun h hk b o e => by
    have hb : b ∉ wr ++ H := fun m => by exact (no_some (hideAll_none _ m) e).elim
    exact hideAll_get H (hk b o (fun m => hb (List.mem_append_left _ m)) (of_hideAll _ e)) fun m => hb (List.mem_append_right _ m)
  have keepE : ∀ h, (∀ b o, b ∉ wr → s₂.heap.get? b = some o → h.get? b = some o) → Ext h₀ h := fun h hk b o e => hk b o (wrH b o e) (e₂ b o e)
  let g := hideAll s₂.heap (wr ++ H)
  let p : Value → Bool := fun v => decide (∃ d, Rd g v d ∧ t (mkC xi fr st d) = some true)
  let F : Value → Value → Prop := fun v y => ∃ d r, Rd g v d ∧ fe (mkC xi fr st d) = some (.d r) ∧ ∀ h, Rd h y r
  have hp : ∀ v d b, Rd g v d → t (mkC xi fr st d) = some b → p v = b := fun v d b r e => by
    cases b with
    | true => exact decide_eq_true ⟨d, r, e⟩
    | false =>
      refine decide_eq_false ?_
      rintro ⟨d', r', e'⟩
      rw [Rd.unique r' r, e] at e'; cases e'
  have datum : ∀ i v, P i v ∧ i < xs.length → ∃ d, d ∈ xs ∧ Rd g v d := fun i v hv => by
    have hd : xs[i]? = some xs[i] := List.getElem?_eq_getElem hv.2
    exact ⟨xs[i], List.getElem_mem hv.2, it.item i v _ hv.1 hd⟩
  have hq : QuietOnC G.prog G.w A env scope cl x ifs elt wr (fun i v => P i v ∧ i < xs.length) p F s₂ := by
    refine ⟨fun C i v s₃ m₃ E' hC hv hn hm hk _ => ?_, fun C i v s₃ m₃ E' hC hv hpv hn hm hk _ => ?_⟩
    · refine byC fun CC hCC => ?_
      obtain ⟨d, hd, rd⟩ := datum i v hv
      obtain ⟨b, hb, _⟩ := compGo_mem hrs d hd
      refine hCC ?_
      clear hCC
      refine ht A _ H (mkC xi fr st d) s₃ b _ _ (comp_sit K S (keepE _ hk) hcl hcl' hn hm (rd.ext (keepG _ hk))) hb fun h' tk x' => ⟨(hp v d b rd hb).symm, h', tk, rfl, x'⟩
    · refine byC fun CC hCC => ?_
      obtain ⟨d, hd, rd⟩ := datum i v hv
      obtain ⟨b, hb, hf⟩ := compGo_mem hrs d hd
      have hbt : b = true := by rw [← hp v d b rd hb]; exact hpv
      obtain ⟨r, hr, hsr⟩ := hf hbt
      refine hCC ?_
      clear hCC
      refine he A _ H (mkC xi fr st d) s₃ _ _ _ (comp_sit K S (keepE _ hk) hcl hcl' hn hm (rd.ext (keepG _ hk))) hr fun y h' tk x' ry => ⟨⟨d, r, rd, hr, fun h => Rd.scalar hsr ry⟩, h', tk, rfl, x'⟩
  refine comp_block_walkC (RR := RR) W' (Nat.le_trans hlen (by decide)) p F K.nocell K.kind K.loc it.st (fun b hb => ?_) hq ?_
  · rcases it.old b hb with w | ⟨_, o, w⟩
    · obtain ⟨o, w⟩ := it.ex 0 _ it.st b w; exact Heap.lt_size w
    · exact Heap.lt_size w
  · intro D C h' tk m' ys vs hD hC hDC hn _ hpl hvs hP hPair hk
    have none₀ : ∀ a, s₂.heap.get? a = none → h₀.get? a = none := fun a ha => by
      cases q : h₀.get? a with
      | none => rfl
      | some o => rw [e₂ _ _ q] at ha; cases ha
    refine hRR D C h' tk m' ys (none₀ D hD) (none₀ C hC) hDC hn hpl (fun h => ?_) (keepE _ hk)
    have rvs : RdA g vs xs := by
      have key : ∀ (k : Nat) (us : List Value) (ds : List PyData), us.length = ds.length → (∀ (j : Nat) (v : Value), us[j]? = some v → ∀ d, ds[j]? = some d → Rd g v d) → RdA g us ds := by
        intro _ us
        induction us with
        | nil => intro ds hl _; cases ds with | nil => exact .nil | cons => cases hl
        | cons u us ih =>
          intro ds hl hj
          cases ds with
          | nil => cases hl
          | cons d ds => exact .cons (hj 0 u rfl d rfl) (ih ds (by simpa using hl) fun j v hv d' hd' => hj (j + 1) v (by exact hv) d' (by exact hd'))
      exact key 0 vs xs hvs fun j v hv d hd => it.item j v d (hP j v hv).1 hd
    exact comp_pair hp (fun v y d r hF rd hfd => by
      obtain ⟨d', r', rd', hfd', ry⟩ := hF
      have := Rd.unique rd' rd; subst this
      rw [hfd] at hfd'; cases hfd'
      exact ry h) rvs hrs hPair

theorem EvF.comp {elt iter : PySem.Expr} {x : Str} {px pos : Pos} {xi : Nat} {fr : List Nat} {ifs : List PySem.Expr} {fi : St → Option (List PyData)} {t : St → Option Bool} {fe : St → Option LV}
    (K : CompOk G sc scope x xi fr) (hi : EvI G sc n iter fi) (ht : EvIfs G scope n ifs t) (he : EvV G scope n elt fe) (hs : ∀ env v, foldedSetIterable iter env v = pure v) :
    EvF G sc n (.ListComp elt [⟨.Name x px, iter, ifs, 0⟩] scope pos) (eComp xi fr fi t fe) := fun A env H st s rs Q E S q hQ => by
  unfold eComp at q
  refine byC fun CC hCC => ?_
  refine bind_some (q) fun xs hxs hrs => ?_
  obtain ⟨cl, hclos, hcl, hcl'⟩ := closureFor_ok (scope := scope) (env := env) fun y k m hk => by subst hk; exact (S.eo.cell _ (K.free _ m rfl)).2
  refine hCC ?_
  clear hCC
  rw [eval_ListComp]
  refine wpAny_comprehension_free (use := none) rfl (hs env) hclos K.kind K.names ?_
  refine hi A env H st s xs _ E S hxs fun I fp wr P Z h₁ t₁ x₁ it hlen => ?_
  refine comp_core (RR := fun acc C => compPost (model G.prog G.w) A E none Q acc C) K ht he S x₁ it hlen hrs hcl hcl' ?_
  intro D C h' tk m' ys hD hC hDC hn hpl hr hx
  refine ⟨m', hn, fun h'' sb => ?_⟩
  refine hQ D h'' tk ys (fun b o e => (sb.2 b (fun q => by rw [q, hC] at e; cases e)).trans (hx b o e)) hD (hpl.extBut sb.extBut hDC) (hr _)

noncomputable def sAssignC (y : Nat) (f : St → Option (List PyData)) : St → Option (Fl × St) := fun st => (f st).bind fun rs => some (.next, st.set y (.d (.list rs)))
theorem ExS.assignC {elt iter : PySem.Expr} {x z : Str} {px py pos spos : Pos} {xi y : Nat} {fr : List Nat} {ifs : List PySem.Expr} {fi : St → Option (List PyData)} {t : St → Option Bool} {fe : St → Option LV}
    (hz : G.nm y = z) (hv : isVar sc z) (K : CompOk G sc scope x xi fr) (hi : EvI G sc n iter fi) (ht : EvIfs G scope n ifs t) (he : EvV G scope n elt fe) (hs : ∀ env v, foldedSetIterable iter env v = pure v)
    (hsw : ∀ env : Env, env.scope = sc → swapsWith (.ListComp elt [⟨.Name x px, iter, ifs, 0⟩] scope pos) (some (.Name z py)) spos.line env = pure true) :
    ExS G sc n (.Assign [.Name z py] (.ListComp elt [⟨.Name x px, iter, ifs, 0⟩] scope pos) spos) (sAssignC y (eComp xi fr fi t fe)) := fun A X B env α H st s fl st' Q E R q hQ => by
  subst hz
  unfold sAssignC eComp at q
  refine byC fun CC hCC => ?_
  refine bind_some (q) fun rs hq q => ?_
  refine bind_some (hq) fun xs hxs hrs => ?_
  cases q
  have S := R.sit
  obtain ⟨cl, hclos, hcl, hcl'⟩ := closureFor_ok (scope := scope) (env := env) fun y k m hk => by subst hk; exact (S.eo.cell _ (K.free _ m rfl)).2
  refine hCC ?_
  clear hCC
  rw [exec_Assign_Name_used _ _ _ _ (hsw env R.se)]
  refine wpAny_bind (wpAny_standAt (wpAny_bind ?_))
  show wpAny _ A (do let _ ← comprehension (.ListComp elt [⟨.Name x px, iter, ifs, 0⟩] scope pos) scope env _ (newList []) false (eval iter env) (some (PySem.assign (PySem.Expr.Name (G.nm y) py) env))) _ _ s
  refine wpAny_bind (wpAny_mono (wpAny_comprehension_free (use := some (PySem.assign (PySem.Expr.Name (G.nm y) py) env)) (Q := fun _ s' => Q .next s') (E := E) rfl (hs env) hclos K.kind K.names ?_) (fun _ s' hq => wpAny_pure (wpAny_pure hq)) fun _ _ e => e)
  refine hi A env H st s xs _ E S hxs fun I fp wr P Z h₁ t₁ x₁ it hlen => ?_
  refine comp_core (RR := fun acc C => compPost (model G.prog G.w) A E (some (PySem.assign (PySem.Expr.Name (G.nm y) py) env)) (fun _ s' => Q .next s') acc C) K ht he S x₁ it hlen hrs hcl hcl' ?_
  intro D C h' tk m' ys hD hC hDC hn hpl hr hx
  show wpAny _ A (PySem.assign (.Name (G.nm y) py) env (.ref D)) _ _ _
  refine byC fun CC hCC => ?_
  obtain ⟨oC, es, ep, hoC, hrest⟩ := id hn
  have R₁ : Rep G sc n A X B env α ([C] ++ H) st h' := R.growL hx fun a ha => by
    rw [List.mem_singleton.mp ha]; exact ⟨hC, _, hoC⟩
  have CnP : ¬ Prv env α st C := fun p => by obtain ⟨o, w⟩ := R.hok C (R.prv p).1; exact (no_some (hC) w).elim
  have CB : ∀ a ∈ [C], B.get? a = none := fun a ha => by
    rw [List.mem_singleton.mp ha]
    cases w : B.get? C with
    | none => rfl
    | some o => rw [R.keep _ _ w] at hC; cases hC
  obtain ⟨B₁, R₂, e₁, some₁⟩ := R₁.inner (W := [C]) fun a ha => by
    rw [List.mem_singleton.mp ha]; exact ⟨List.mem_append_left _ (.head _), CnP⟩
  have hDH : D ∉ [C] ++ H := fun m => by
    rcases List.mem_append.mp m with m | m
    · exact hDC (List.mem_singleton.mp m)
    · obtain ⟨o, w⟩ := R.hok D m; exact (no_some (hD) w).elim
  obtain ⟨j, plD⟩ := hpl
  refine hCC ?_
  clear hCC
  refine wpAny_assign_Name (Rep.storeD (s := { s with heap := h', toks := tk }) R₂ hv (.list0 (hideAll_get _ plD hDH) (hr _)) fun h₄ t₄ R₄ => ?_)
  have hC₄ : h₄.get? C = some oC := R₄.keep C oC (some₁ C oC (.inr (List.mem_append_left _ (.head _))) hoC)
  refine ⟨m', ⟨oC, es, ep, hC₄, hrest⟩, fun h₅ sb => ?_⟩
  have R₅ := R₄.outer R.pB e₁ CB
  have CP₅ : ∀ a, Prv env α (st.set y (.d (.list rs))) a → a ∉ [C] := fun a pa m => (R₄.prv pa).2.1 (List.mem_append_left _ m)
  have CX : ∀ a ∈ X, a ∉ [C] := fun a ha m => by
    rw [List.mem_singleton.mp m] at ha
    obtain ⟨o, w⟩ := R.hok C (R.hX C ha); exact (no_some (hC) w).elim
  have R₆ : Rep G sc n A X B env α (([C] ++ H).filter fun a => decide (a ∉ [C])) (st.set y (.d (.list rs))) h₅ := R₅.other (wr := [C]) (fun b o hb e => (sb.2 b fun q => hb (q ▸ .head _)).trans e)
    (fun b hb => ⟨List.mem_append_left _ hb, CB b hb⟩) CP₅ (fun a m => (List.mem_filter.mp m).1) (fun a m w => List.mem_filter.mpr ⟨m, decide_eq_true w⟩) CX fun a m w => absurd w (of_decide_eq_true (List.mem_filter.mp m).2)
  exact hQ α _ h₅ t₄ .next R₆ rfl
end
end Mine
end

section
open PySem PySem.W PyProof.Rows PySem.Calls
namespace Mine

noncomputable def kwArgs (G : Gd) (kw : Bool) : List (Str × Value) := cond kw [(("key" : Str), .ref G.key)] []
noncomputable def plainLV : LV → Bool
  | .d _ => true
  | .fn => true
  | _ => false
noncomputable def PureC (G : Gd) (n : Nat) (a : Addr) (kw : Bool) (F : List LV → Option PyData) : Prop :=
  ∀ (A : Around) (X : List Addr) (s : Shared) (vs : List Value) (lvs : List LV) (r : PyData) (Q : Value → Shared → Prop) (E : Value → Shared → Prop), Bud n A → G.P s.heap → HOk X s.heap → ROs G X s.heap vs lvs → lvs.all plainLV = true → F lvs = some r →
    (∀ v h' tk, Ext s.heap h' → Rd (hideAll h' X) v r → Q v { s with heap := h', toks := tk }) → wpAny (model G.prog G.w) A (call (.ref a) vs (kwArgs G kw)) Q E s

structure FnAt (G : Gd) (a : Addr) (fd : FuncData) (body : List Stmt) : Prop where
  at' : ∀ h, G.P h → ∃ o, h.get? a = some o ∧ o.data = .func fd ∧ h.CodeRec fd.code fd.qualname
  body : fd.body = .stmts body
  clos : fd.closure = []
  gl : fd.globals = mainGlobals
  bl : fd.builtins = builtinsNs
  kind : fd.scope.kind = .function
  co : fd.scope.isCoroutine = false
  gen : fd.scope.isGenerator = false
  nodup : ((cellsFrom 0 fd.scope.names []).map (·.1)).Nodup

noncomputable def BindOk (G : Gd) (fd : FuncData) (kw : Bool) (init : List LV → Option St) : Prop :=
  ∀ (s : Shared) (X : List Addr) (vs : List Value) (lvs : List LV) (st : St), G.P s.heap → ROs G X s.heap vs lvs → lvs.all plainLV = true → init lvs = some st →
    ∃ binds : List (Str × Value), BindsTo s fd ⟨vs, kwArgs G kw⟩ binds ∧ (binds.map (·.1)).Nodup ∧ (∀ y ∈ binds, isVar fd.scope y.1) ∧ ∀ x lv, st.get x = some lv → plainLV lv = true ∧ ∃ v, (G.nm x, v) ∈ binds ∧ RO G X s.heap v lv

theorem bindL_other (kindOf : Str → Option NameKind) (n : Str) (binds : List (Str × Value)) : ∀ m : Str → Option Value, n ∉ binds.map (·.1) → bindL kindOf binds m n = m n := by
  induction binds with
  | nil => exact fun _ _ => rfl
  | cons p r ih =>
    intro m h
    have h1 : n ≠ p.1 := fun q => h (q ▸ .head _)
    refine (ih _ fun q => h (.tail _ q)).trans ?_
    by_cases hk : kindOf p.1 = some .local
    · rw [if_pos hk]; exact if_neg h1
    · rw [if_neg hk]
theorem bindL_get (kindOf : Str → Option NameKind) {n : Str} {v : Value} (hk : kindOf n = some .local) (binds : List (Str × Value)) : ∀ m : Str → Option Value, (binds.map (·.1)).Nodup → (n, v) ∈ binds → bindL kindOf binds m n = some v := by
  induction binds with
  | nil => exact fun _ _ hm => nomatch hm
  | cons p r ih =>
    intro m nd hm
    rw [List.map_cons, List.nodup_cons] at nd
    rcases List.mem_cons.mp hm with e | hm
    · subst e
      refine (bindL_other kindOf _ r _ nd.1).trans ?_
      rw [if_pos hk]; exact if_pos rfl
    · exact ih _ nd.2 hm
theorem bindC_other (kindOf : Str → Option NameKind) (n : Str) (binds : List (Str × Value)) : ∀ m : Str → Option Value, n ∉ binds.map (·.1) → bindC kindOf binds m n = m n := by
  induction binds with
  | nil => exact fun _ _ => rfl
  | cons p r ih =>
    intro m h
    have h1 : n ≠ p.1 := fun q => h (q ▸ .head _)
    refine (ih _ fun q => h (.tail _ q)).trans ?_
    by_cases hk : kindOf p.1 = some .local
    · rw [if_pos hk]
    · rw [if_neg hk]; exact if_neg h1
theorem bindC_get (kindOf : Str → Option NameKind) {n : Str} {v : Value} (hk : kindOf n ≠ some .local) (binds : List (Str × Value)) : ∀ m : Str → Option Value, (binds.map (·.1)).Nodup → (n, v) ∈ binds → bindC kindOf binds m n = some v := by
  induction binds with
  | nil => exact fun _ _ hm => nomatch hm
  | cons p r ih =>
    intro m nd hm
    rw [List.map_cons, List.nodup_cons] at nd
    rcases List.mem_cons.mp hm with e | hm
    · subst e
      refine (bindC_other kindOf _ r _ nd.1).trans ?_
      rw [if_neg hk]; exact if_pos rfl
    · exact ih _ nd.2 hm

noncomputable def outOf : Option (Fl × St) → Option PyData
  | some (.ret p, _) => some p
  | some (.next, _) => some .none
  | _ => none
noncomputable def fnOfBody (init : List LV → Option St) (g : St → Option (Fl × St)) : List LV → Option PyData := fun lvs => (init lvs).bind fun st => outOf (g st)

section
variable {G : Gd} {n : Nat}
theorem Bud.deeper {A : Around} (b : Bud (n + 1) A) (env : Env) : Bud n (A.deeper env) := ⟨b.hh, by show A.depth + 1 + n ≤ 800; have := b.dp; lia, by show A.units + 3 + 20 * n ≤ 9000; have := b.un; lia⟩

structure Framed (G : Gd) (fd : FuncData) (env : Env) (h₀ h₁ : Heap) (binds : List (Str × Value)) : Prop where
  eo : EO fd.scope env
  se : env.scope = fd.scope
  fr : env.frame = some env.locals
  keep : Ext h₀ h₁
  new : ∀ b ∈ env.locals :: env.cells.map (·.2), h₀.get? b = none
  ok : ∀ b ∈ env.locals :: env.cells.map (·.2), ∃ o, h₁.get? b = some o
  ns : ∃ m, h₁.Ns env.locals m
  cB : ∀ c ∈ env.cells.map (·.2), c ≠ env.locals ∧ ∃ v, h₁.IsCell c v
  cA : ∀ x y c, env.cells.lookup x = some c → env.cells.lookup y = some c → x = y
  sto : ∀ y v, (y, v) ∈ binds → Sto env h₁ y v
theorem apart_inj {l : List (Str × Addr)} (ap : l.Pairwise fun a b => a.2 ≠ b.2) {y z : Str} {c : Addr} (m1 : (y, c) ∈ l) (m2 : (z, c) ∈ l) : y = z := by
  induction l with
  | nil => cases m1
  | cons p r ih =>
    obtain ⟨hp, hr⟩ := List.pairwise_cons.mp ap
    rcases List.mem_cons.mp m1 with e1 | m1
    · rcases List.mem_cons.mp m2 with e2 | m2
      · exact (congrArg Prod.fst e1).trans (congrArg Prod.fst e2).symm
      · exact (hp (z, c) m2 (congrArg Prod.snd e1).symm).elim
    · rcases List.mem_cons.mp m2 with e2 | m2
      · exact (hp (y, c) m1 (congrArg Prod.snd e2).symm).elim
      · exact ih hr m1 m2
theorem call_framed {A : Around} {a : Addr} {fd : FuncData} {body : List Stmt} {vs : List Value} {kw binds : List (Str × Value)} {s : Shared} {Q : Value → Shared → Prop} {E : Value → Shared → Prop} (f : FnAt G a fd body) (bud : Bud (n + 1) A) (hp : G.P s.heap)
    (hbind : BindsTo s fd ⟨vs, kw⟩ binds) (hnd : (binds.map (·.1)).Nodup) (hkind : ∀ y ∈ binds, isVar fd.scope y.1)
    (K : ∀ env h₁ tk, Framed G fd env s.heap h₁ binds → wpAny (model G.prog G.w) (A.deeper env) (execs body env) (fun f s' => Q (match f with | .ret v => v | _ => .none) s')
      (fun e s' => wpAny (model G.prog G.w) (A.deeper env) (leaving env e) (fun _ s'' => E e s'') (fun e' s'' => E e' s'') s') { s with heap := h₁, toks := tk }) :
    wpAny (model G.prog G.w) A (call (.ref a) vs kw) Q E s := by
  obtain ⟨o, ho, hd, hcd⟩ := f.at' s.heap hp
  refine wpAny_call (codeAny_call_function (by have := bud.dp; show A.depth < 1000; omega) ho hd f.co f.gen f.body hcd (hbind _ _ _ _ ?_))
  rw [f.clos]
  refine wpAny_newFunctionEnv_cells f.kind (fun y hy => ?_) fun env he s' x => ?_
  · rcases hkind y hy with h | h
    · exact .inl h
    · exact .inr ⟨h, cellsFrom_some _ _ _ (.inl h)⟩
  obtain ⟨h₁, tk, rfl, _⟩ := x.done
  refine ⟨(G.nl hp).keeps x.toInCall.keep, codeAny_func (K env h₁ tk ?_)⟩
  have hl : env.locals = s.heap.objs.size := by rw [he]; rfl
  have hc : env.cells = cellsFrom (s.heap.objs.size + 1) fd.scope.names [] := by rw [he]; rfl
  have hsc : env.scope = fd.scope := by rw [he]; rfl
  have hns : (env.cells.map (·.1)).Nodup := by
    rw [hc]
    exact cellsFrom_names fd.scope.names 0 (s.heap.objs.size + 1) [] [] rfl ▸ f.nodup
  have cellAt : ∀ c ∈ env.cells.map (·.2), ∃ v, h₁.IsCell c v ∧ env.locals < c := fun c hc => by
    obtain ⟨⟨m, c'⟩, hm, rfl⟩ := List.mem_map.mp hc
    exact ⟨_, x.cell m c' (lookup_of_mem_nodup hns hm), x.above m c' hm⟩
  have above : ∀ a, s.heap.objs.size ≤ a → s.heap.get? a = none := fun a ha => by
    cases w : s.heap.get? a with
    | none => rfl
    | some o => exact absurd (Heap.lt_size w) (Nat.not_lt.mpr ha)
  refine ⟨⟨by rw [hsc]; exact f.kind, by rw [he]; exact f.gl, by rw [he]; exact f.bl, fun y e => by rw [← hsc] at e; exact e, fun y hy => ?_⟩, hsc, by rw [he]; rfl, x.toInCall.keep, fun b m => ?_, fun b m => ?_, ⟨_, x.toInCall.ns⟩, fun c m => ?_, fun y z c hy hz => apart_inj x.apart (mem_of_lookupA hy) (mem_of_lookupA hz), fun y v hv => ?_⟩
  · refine ⟨by rw [← hsc] at hy; exact hy, ?_⟩
    rw [hc]
    exact Option.isSome_iff_exists.mp (cellsFrom_some _ _ _ (.inl hy))
  · rcases List.mem_cons.mp m with rfl | m
    · rw [hl]; exact get_fresh _
    · obtain ⟨_, _, hlt⟩ := cellAt b m
      exact above b (Nat.le_of_lt (hl ▸ hlt))
  · rcases List.mem_cons.mp m with rfl | m
    · obtain ⟨o, _, _, w, _⟩ := x.toInCall.ns; exact ⟨o, w⟩
    · obtain ⟨_, ⟨o, w, _⟩, _⟩ := cellAt b m; exact ⟨o, w⟩
  · obtain ⟨v, hv, hlt⟩ := cellAt c m
    exact ⟨Nat.ne_of_gt hlt, v, hv⟩
  · have ek : env.kindOf y = fd.scope.names.lookup y := by rw [← hsc]; rfl
    rcases hkind _ hv with hk | hk
    · have hk : env.kindOf y = some .local := ek.trans hk
      exact .inl ⟨hk, _, x.toInCall.ns, bindL_get _ hk _ _ hnd hv⟩
    · obtain ⟨c, hcc⟩ := Option.isSome_iff_exists.mp (cellsFrom_some fd.scope.names (s.heap.objs.size + 1) [] (.inl hk))
      rw [← hc] at hcc
      have hk : env.kindOf y = some .cell := ek.trans hk
      refine .inr ⟨.inl hk, c, hcc, ?_⟩
      have := x.cell _ _ hcc
      rwa [bindC_get _ (by rw [hk]; intro q; cases q) _ _ hnd hv] at this
theorem Framed.rep {fd : FuncData} {A : Around} {env : Env} {h₀ h₁ B : Heap} {binds : List (Str × Value)} {X H : List Addr} {st : St} {α : Nat → Addr} (F : Framed G fd env h₀ h₁ binds) (bud : Bud n (A.deeper env)) (pB : G.P B) (kB : Ext B h₀) (hX : ∀ a ∈ X, a ∈ H) (hB : ∀ a ∈ H, a ∈ X ∨ B.get? a = none) (hok : HOk H h₀)
    (oB : ∀ y zs, st.get y = some (.own zs) → α y ∈ H ∧ B.get? (α y) = none ∧ α y ∉ X) (oA : ∀ y z ys zs, st.get y = some (.own ys) → st.get z = some (.own zs) → α y = α z → y = z)
    (vars : ∀ y lv, st.get y = some lv → ∃ v, (G.nm y, v) ∈ binds ∧ RO G (H ++ (env.locals :: env.cells.map (·.2))) h₁ v lv ∧ ∀ zs, lv = .own zs → v = .ref (α y)) :
    Rep G fd.scope n (A.deeper env) X B env α (H ++ (env.locals :: env.cells.map (·.2))) st h₁ := by
  have Bn : ∀ b ∈ env.locals :: env.cells.map (·.2), B.get? b = none := fun b m => by
    cases w : B.get? b with
    | none => rfl
    | some o => have := kB _ _ w; exact (no_some (F.new b m) this).elim
  have nH : ∀ b ∈ env.locals :: env.cells.map (·.2), b ∉ H := fun b m w => by obtain ⟨o, e⟩ := hok b w; exact (no_some (F.new b m) e).elim
  refine ⟨F.eo, F.se, bud, pB, kB.trans F.keep, fun a ha => List.mem_append_left _ (hX a ha), List.mem_append_right _ (.head _), fun c hc => List.mem_append_right _ (.tail _ hc), fun a ha => ?_, fun a ha => ?_, Bn _ (.head _), fun m => nH _ (.head _) (hX _ m), F.ns, fun c hc => ?_, F.cA, fun y zs e => ?_, oA, fun y lv e => ?_⟩
  · rcases List.mem_append.mp ha with m | m
    · exact hB a m
    · exact .inr (Bn a m)
  · rcases List.mem_append.mp ha with m | m
    · obtain ⟨o, w⟩ := hok a m; exact ⟨o, F.keep _ _ w⟩
    · exact F.ok a m
  · exact ⟨Bn c (.tail _ hc), fun m => nH c (.tail _ hc) (hX c m), F.cB c hc⟩
  · obtain ⟨h1, h2, h3⟩ := oB y zs e
    exact ⟨List.mem_append_left _ h1, h2, h3, fun q => nH _ (.head _) (q ▸ h1), fun q => nH _ (.tail _ q) h1⟩
  · obtain ⟨v, hv, r⟩ := vars y lv e
    exact ⟨v, F.sto _ _ hv, r⟩
theorem Framed.hide {fd : FuncData} {env : Env} {h₀ h₁ : Heap} {binds : List (Str × Value)} (F : Framed G fd env h₀ h₁ binds) (X : List Addr) : Ext (hideAll h₀ X) (hideAll h₁ (X ++ (env.locals :: env.cells.map (·.2)))) :=
  hide_gen (fun b o _ e => F.keep b o e) fun b m => (List.mem_append.mp m).imp id fun m => F.new b m
theorem PureC.of {a : Addr} {fd : FuncData} {body : List Stmt} {kw : Bool} {init : List LV → Option St} {g : St → Option (Fl × St)} (f : FnAt G a fd body) (hb : BindOk G fd kw init) (hx : ExL G fd.scope n body g) : PureC G (n + 1) a kw (fnOfBody init g) := by
  intro A X s vs lvs r Q E bud hp hX hro hpl hF hQ
  refine bind_some (hF) fun st hst hF => ?_
  obtain ⟨binds, hbind, hnd, hkind, hvars⟩ := hb s X vs lvs st hp hro hpl hst
  refine call_framed f bud hp hbind hnd hkind fun env h₁ tk F => ?_
  have no : ∀ {y zs}, ¬ st.get y = some (.own zs) := fun e => by obtain ⟨w, _⟩ := hvars _ _ e; cases w
  have R : Rep G fd.scope n (A.deeper env) X s.heap env (fun _ => 0) (X ++ (env.locals :: env.cells.map (·.2))) st h₁ :=
    F.rep (bud.deeper env) hp (Ext.refl _) (fun _ m => m) (fun _ m => .inl m) hX (fun _ _ e => (no e).elim) (fun _ _ _ _ e => (no e).elim) fun y lv e => by
      obtain ⟨w, v, hv, r⟩ := hvars y lv e
      refine ⟨v, hv, ?_, fun xs q => by subst q; cases w⟩
      cases lv with
      | d p => exact Rd.ext (F.hide X) r
      | fn => exact r
      | own => cases w
      | arg => cases w
  cases hg : g st with
  | none => rw [hg] at hF; cases hF
  | some res =>
    obtain ⟨fl, st'⟩ := res
    rw [hg] at hF
    refine hx (A.deeper env) X s.heap env _ _ st { s with heap := h₁, toks := tk } fl st' _ _ R hg fun α' H' h' tk' fw R' hfl => ?_
    cases fl with
    | brk => cases hF
    | cont => cases hF
    | next => cases hF; cases hfl; exact hQ .none h' tk' R'.keep .none
    | ret p => cases hF; obtain ⟨v, rfl, rd⟩ := hfl; exact hQ v h' tk' R'.keep rd
end
end Mine
end

section
open PySem PySem.W PyProof.Rows PySem.Calls
namespace Mine

structure UName (G : Gd) (sc : Scope) (x : Str) (a : Addr) : Prop where
  sc : sc.names.lookup x = some .globalImplicit
  mg : G.mg x = some (.ref a)
  db : (x == ("__debug__" : Str)) = false
  fn : ∀ h, G.P h → ∃ o, h.get? a = some o ∧ ∃ fd, o.data = .func fd
theorem keeper_fn {M : Model} {h : Heap} {a : Addr} {o : Obj} {fd : FuncData} (e : h.get? a = some o) (d : o.data = .func fd) : Looks M h (keeperOf (.ref a)) .frame := by
  unfold keeperOf
  refine (Looks.ld (part := none) e).andThen ?_
  rw [d]; exact .now

noncomputable def purify : List LV → Option (List LV)
  | [] => some []
  | .own xs :: r => (purify r).map (.d (.list xs) :: ·)
  | .d p :: r => (purify r).map (.d p :: ·)
  | .fn :: r => (purify r).map (.fn :: ·)
  | .arg _ :: _ => none
theorem purify_ok {G : Gd} {H : List Addr} {h : Heap} {vs : List Value} : ∀ {ls ms : List LV}, ROs G H h vs ls → purify ls = some ms → ROs G [] h vs ms ∧ ms.all plainLV = true := by
  induction vs with
  | nil =>
    intro ls ms r e
    cases ls with
    | nil => cases e; exact ⟨trivial, rfl⟩
    | cons => exact r.elim
  | cons v vs ih =>
    intro ls ms r e
    cases ls with
    | nil => exact r.elim
    | cons l ls =>
      have go : ∀ {m : LV}, (purify ls).map (m :: ·) = some ms → RO G [] h v m → plainLV m = true → ROs G [] h (v :: vs) ms ∧ ms.all plainLV = true := fun {m} e c p => by
        refine map_some e fun k hk ee => ?_
        subst ee
        obtain ⟨q, d⟩ := ih r.2 hk
        exact ⟨⟨c, q⟩, by rw [List.all_cons, p, d]; rfl⟩
      cases l with
      | arg xs => cases e
      | d p => exact go e (r.1.rd rfl) rfl
      | own xs => exact go e (r.1.rd rfl) rfl
      | fn => exact go e r.1 rfl
noncomputable def ucallOp (F : List LV → Option PyData) (ls : List LV) : Option LV :=
  cond (ls.all plainLV) ((F ls).map .d) ((purify ls).bind fun ms => (F ms).bind fun r => cond (scalar r) (some (.d r)) none)
theorem PureC.op {G : Gd} {n : Nat} {a : Addr} {kw : Bool} {F : List LV → Option PyData} (hF : PureC G n a kw F) {A : Around} {H : List Addr} {s : Shared} {vs : List Value} {ls : List LV} {lv : LV} {Q : Value → Shared → Prop} {E : Value → Shared → Prop}
    (bud : Bud n A) (hp : G.P s.heap) (hH : HOk H s.heap) (r : ROs G H s.heap vs ls) (e : ucallOp F ls = some lv) (hQ : ∀ v h' tk, Ext s.heap h' → RO G H h' v lv → Q v { s with heap := h', toks := tk }) :
    wpAny (model G.prog G.w) A (call (.ref a) vs (kwArgs G kw)) Q E s := by
  unfold ucallOp at e
  cases q : ls.all plainLV with
  | true =>
    rw [q] at e
    refine map_some ((show (F ls).map LV.d = some lv from e)) fun p hp' ee => ?_
    subst ee
    exact hF A H s vs ls p Q E bud hp hH r q hp' fun v h' tk x rd => hQ v h' tk x rd
  | false =>
    rw [q] at e
    refine bind_some ((show ((purify ls).bind _) = _ from e)) fun ms hms e => ?_
    refine bind_some (e) fun p hp' e => ?_
    refine cond_elim (c := scalar p) e fun w e => ?_
    cases e
    obtain ⟨c, d⟩ := purify_ok r hms
    exact hF A [] s vs ms p Q E bud hp (fun _ m => nomatch m) c d hp' fun v h' tk x rd => hQ v h' tk x (Rd.scalar w rd)
noncomputable def eCall (F : List LV → Option PyData) (fs : St → Option (List LV)) : St → Option LV := fun st => (fs st).bind (ucallOp F)
section
variable {G : Gd} {sc : Scope} {n : Nat}
theorem EvV.ucall {x : Str} {a : Addr} {e : PySem.Expr} {es : List PySem.Expr} {p pos : Pos} {fs : St → Option (List LV)} {F : List LV → Option PyData} (u : UName G sc x a) (hns : ∀ e' ∈ e :: es, NS e') (h : EvL G sc n (e :: es) fs) (hF : PureC G n a false F) :
    EvV G sc n (.Call (.Name x p) (e :: es) [] pos) (eCall F fs) := fun A env H st s lv Q E S q hQ => by
  unfold eCall at q
  refine bind_some (q) fun ls hls q => ?_
  refine wpAny_Call_Name_kw (Name_function_global S.eo.kind (S.eo.glob x u.sc) (loadGlobal_global (by rw [S.eo.gl]; exact G.g S.p) u.mg ?_) u.db)
  have e0 := hns e (.head _) es env
  have hp := backTo_plain pos (env := env) hns
  have hE := h A env H st s ls pos (fun vs s₁ => G.P s₁.heap ∧ wpAny (model G.prog G.w) A (call (.ref a) ([] ++ vs) []) Q E s₁) E S hls fun vs h₁ t₁ x₁ rs =>
    ⟨G.mono x₁ S.p, hF.op S.bud (G.mono x₁ S.p) (S.hok.ext x₁) rs q fun v h' tk x₂ r => hQ v h' tk (x₁.trans x₂) r⟩
  refine callWith_of (P := G.P) (by rw [hp]; rfl) (fun h hh => ?_) ?_
  · obtain ⟨o, ho, fd, hd⟩ := u.fn h hh
    exact ⟨_, .inl rfl, keeper_fn ho hd⟩
  · rw [e0] at hE ⊢
    exact evalArgs_plain hE
theorem EvV.ucallK {x : Str} {a : Addr} {e : PySem.Expr} {es : List PySem.Expr} {p pos kp : Pos} {ke : PySem.Expr} {fs : St → Option (List LV)} {fk : St → Option LV} {F : List LV → Option PyData} (u : UName G sc x a) (hns : ∀ e' ∈ e :: es, NS e') (h : EvL G sc n (e :: es) fs)
    (hk : EvV G sc n ke fk) (hkf : ∀ st lv, fk st = some lv → lv = .fn) (hF : PureC G n a true F) :
    EvV G sc n (.Call (.Name x p) (e :: es) [⟨some ("key" : Str), ke, kp⟩] pos) (fun st => (fk st).bind fun _ => eCall F fs st) := fun A env H st s lv Q E S q hQ => by
  refine bind_some (q) fun lk hlk q => ?_
  have := hkf st lk hlk; subst this
  unfold eCall at q
  refine bind_some (q) fun ls hls q => ?_
  refine wpAny_Call_Name_kw (Name_function_global S.eo.kind (S.eo.glob x u.sc) (loadGlobal_global (by rw [S.eo.gl]; exact G.g S.p) u.mg ?_) u.db)
  have e0 := hns e (.head _) es env
  have hp := backTo_plain pos (env := env) hns
  have hE := h A env H st s ls pos (fun vs s₁ => wpAny (model G.prog G.w) A (evalAll ((backToKw pos (keywordEach [⟨some ("key" : Str), ke, kp⟩] env)).map (·.2))) (fun ks s₂ => G.P s₂.heap ∧ wpAny (model G.prog G.w) A (call (.ref a) ([] ++ vs) (((backToKw pos (keywordEach [⟨some ("key" : Str), ke, kp⟩] env)).filterMap (·.1)).zip ks)) Q E s₂) E s₁) E S hls fun vs h₁ t₁ x₁ rs => by
    show wpAny _ _ (evalAll [(do let v ← eval ke env; standAt pos; pure v)]) _ _ _
    refine wpAny_evalAll_cons (wpAny_bind (hk A env H st _ _ _ E (S.ext x₁) hlk fun v h₂ t₂ x₂ r => wpAny_bind (wpAny_standAt (wpAny_pure (wpAny_evalAll_nil ?_)))))
    cases r
    exact ⟨G.mono x₂ (G.mono x₁ S.p), hF.op S.bud (G.mono x₂ (G.mono x₁ S.p)) ((S.hok.ext x₁).ext x₂) (rs.ext x₂) q fun v h' tk x₃ r => hQ v h' tk (x₁.trans (x₂.trans x₃)) r⟩
  refine callWith_of (P := G.P) (by rw [hp]; rfl) (fun h hh => ?_) ?_
  · obtain ⟨o, ho, fd, hd⟩ := u.fn h hh
    exact ⟨_, .inl rfl, keeper_fn ho hd⟩
  · rw [e0] at hE ⊢
    exact evalArgs_kw rfl hE
noncomputable def eKCall (i : Nat) (F : List LV → Option PyData) (f : St → Option LV) : St → Option LV := fun st => (st.get i).bind fun k => match k with
  | .fn => eCall F (lCons f lNil) st
  | _ => none
theorem EvV.kcall {i : Nat} {x : Str} {e : PySem.Expr} {p pos : Pos} {f : St → Option LV} {F : List LV → Option PyData} (hn : G.nm i = x) (hfn : ∀ h, G.P h → ∃ o, h.get? G.key = some o ∧ ∃ fd, o.data = .func fd) (hns : NS e) (h : EvV G sc n e f) (hF : PureC G n G.key false F) :
    EvV G sc n (.Call (.Name x p) [e] [] pos) (eKCall i F f) := fun A env H st s lv Q E S q hQ => by
  unfold eKCall at q
  refine bind_some (q) fun k hk q => ?_
  obtain rfl : k = .fn := by cases k <;> first | rfl | (cases q; done)
  dsimp only at q
  unfold eCall at q
  refine bind_some (q) fun ls hls q => ?_
  refine wpAny_Call_Name_kw (EvV.name hn A env H st s .fn _ E S hk fun v h₀ t₀ x₀ rk => ?_)
  cases rk
  have S₀ := S.ext x₀
  have e0 := hns [] env
  have hE := (EvL.cons hns h EvL.nil) A env H st { s with heap := h₀, toks := t₀ } ls pos (fun vs s₁ => G.P s₁.heap ∧ wpAny (model G.prog G.w) A (call (.ref G.key) ([] ++ vs) []) Q E s₁) E S₀ hls fun vs h₁ t₁ x₁ rs =>
    ⟨G.mono x₁ S₀.p, hF.op S.bud (G.mono x₁ S₀.p) (S₀.hok.ext x₁) rs q fun v h' tk x₂ r => hQ v h' tk (x₀.trans (x₁.trans x₂)) r⟩
  refine callWith_of (P := G.P) ?_ (fun h hh => ?_) ?_
  · rw [e0]; rfl
  · obtain ⟨o, ho, fd, hd⟩ := hfn h hh
    exact ⟨_, .inl rfl, keeper_fn ho hd⟩
  · rw [e0] at hE ⊢
    exact evalArgs_plain hE
end
end Mine
end

section
open PySem PySem.W PyProof.Rows PySem.Calls
namespace Mine

noncomputable def EvM (G : Gd) (sc : Scope) (n : Nat) (pe : PySem.Expr) (f : St → Option (LV × St)) : Prop :=
  ∀ (A : Around) (X : List Addr) (B : Heap) (env : Env) (α : Nat → Addr) (H : List Addr) (st : St) (s : Shared) (lv : LV) (st' : St) (Q : Value → Shared → Prop) (E : Value → Shared → Prop), Rep G sc n A X B env α H st s.heap → f st = some (lv, st') →
    (∀ v h' tk, Rep G sc n A X B env α H st' h' → RO G H h' v lv → Q v { s with heap := h', toks := tk }) → wpAny (model G.prog G.w) A (eval pe env) Q E s
noncomputable def mV (f : St → Option LV) : St → Option (LV × St) := fun st => (f st).map fun lv => (lv, st)
noncomputable def ownOf (st : St) (x : Nat) : Option (List PyData) := match st.get x with
  | some (.own xs) => some xs
  | _ => none
theorem ownOf_some {st : St} {x : Nat} {xs : List PyData} (e : ownOf st x = some xs) : st.get x = some (.own xs) := by
  unfold ownOf at e
  split at e
  · cases e; assumption
  · cases e

section
variable {G : Gd} {sc : Scope} {n : Nat}
theorem EvM.ofV {pe : PySem.Expr} {f : St → Option LV} (h : EvV G sc n pe f) : EvM G sc n pe (mV f) := fun A X B env α H st s lv st' Q E R q hQ => by
  unfold mV at q
  refine byC fun CC hCC => ?_
  refine map_some (q) fun l hl e => ?_
  cases e
  refine hCC ?_
  clear hCC
  exact h A env H st s lv Q E R.sit hl fun v h' tk x r => hQ v h' tk (R.ext x) r
theorem Rep.loadOwn {A : Around} {X : List Addr} {B : Heap} {env : Env} {α : Nat → Addr} {H : List Addr} {st : St} {s : Shared} {x : Nat} {xs : List PyData} {p : Pos} {Q : Value → Shared → Prop} {E : Value → Shared → Prop} (R : Rep G sc n A X B env α H st s.heap)
    (e : st.get x = some (.own xs)) (h : Q (.ref (α x)) s) : wpAny (model G.prog G.w) A (eval (.Name (G.nm x) p) env) Q E s := by
  refine byC fun CC hCC => ?_
  obtain ⟨v, sto, r, o⟩ := R.vars x _ e
  obtain rfl := o xs rfl
  refine hCC ?_
  clear hCC
  refine wpAny_Name ?_ (G.dbg x)
  have hk := R.eo.kind
  rcases sto with ⟨k, m, hm, em⟩ | ⟨k, c, hc, hi⟩
  · exact wpAny_loadName_local hk k hm em h
  · rcases k with k | k
    · exact wpAny_loadName_cell hk k hc hi h
    · exact wpAny_loadName_free hk k hc hi h (G.cdc x)
theorem Rep.ownPl {A : Around} {X : List Addr} {B : Heap} {env : Env} {α : Nat → Addr} {H : List Addr} {st : St} {h : Heap} {x : Nat} {xs : List PyData} (R : Rep G sc n A X B env α H st h)
    (e : st.get x = some (.own xs)) : ∃ vs k, h.get? (α x) = some { cls := .type "list", data := .seq vs k } ∧ RdA (hideAll h H) vs.toList xs ∧ vs.size = xs.length := by
  refine byC fun CC hCC => ?_
  obtain ⟨v, sto, ⟨a, vs, e1, ⟨k, pl⟩, ra⟩, o⟩ := R.vars x _ e
  refine hCC ?_
  clear hCC
  have := o xs rfl
  rw [e1] at this
  have : a = α x := by injection this
  subst this
  exact ⟨vs, k, pl, ra, by have := ra.length; simpa using this⟩
theorem upd_pl {h : Heap} {a : Addr} {vs : Array Value} {k : Nat} (pl : h.get? a = some { cls := .type "list", data := .seq vs k }) (f : Array Value → Array Value) : (h.update a (Obj.mapSeq f)).PlainList a (f vs) := ⟨_, IsL.update pl f⟩

noncomputable def mAppend (x : Nat) (f : St → Option (LV × St)) : St → Option (LV × St) := fun st => (ownOf st x).bind fun _ => (f st).bind fun r => match r with
  | (.d p, st') => (ownOf st' x).bind fun xs => cond (Nat.ble xs.length 1000000) (some (.d .none, st'.set x (.own (xs ++ [p])))) none
  | _ => none
theorem mAppend_inv {P : Prop} {x : Nat} {f : St → Option (LV × St)} {st st' : St} {lv : LV} (q : mAppend x f st = some (lv, st'))
    (k : ∀ xs₀ d st₁ xs, ownOf st x = some xs₀ → f st = some (.d d, st₁) → ownOf st₁ x = some xs → xs.length ≤ 1000000 → lv = .d .none → st' = st₁.set x (.own (xs ++ [d])) → P) : P := by
  refine bind_some (q) fun xs₀ h0 q => ?_
  refine bind_some2 (q) fun l st₁ hf q => ?_
  obtain ⟨d, rfl⟩ : ∃ ww, l = .d ww := by cases l <;> first | exact ⟨_, rfl⟩ | cases q
  refine bind_some ((show (ownOf st₁ x).bind _ = _ from q)) fun xs hxs q => ?_
  obtain ⟨w, q⟩ := cond_some q
  cases q
  exact k xs₀ d st₁ xs h0 hf hxs (Nat.le_of_ble_eq_true w) rfl rfl
theorem EvM.append {x : Nat} {y : Str} {e : PySem.Expr} {p apos pos : Pos} {f : St → Option (LV × St)} (hn : G.nm x = y) (hns : NS e) (hline : (apos.endLine == pos.line) = true) (h : EvM G sc n e f) :
    EvM G sc n (.Call (.Attribute (.Name y p) "append" apos) [e] [] pos) (mAppend x f) := fun A X B env α H st s lv st' Q E R q hQ => by
  subst hn
  refine mAppend_inv q fun xs₀ d st₁ xs h0 hf hxs hw e1 e2 => ?_
  subst e1 e2
  have htr : backTo pos (starEach [e] env) = [(false, eval e env)] := by rw [hns [] env]; rfl
  refine wpAny_Call_method1_late rfl hline htr (R.loadOwn (ownOf_some h0) ?_)
  refine byC fun CC hCC => ?_
  obtain ⟨vs₀, k₀, pl₀, _, _⟩ := R.ownPl (ownOf_some h0)
  refine hCC ?_
  clear hCC
  refine ⟨"list", "list.append", F.plainAttrs_list, F.slot_list_append, F.type_list_append, ⟨_, pl₀, rfl⟩, fun a ha => ⟨_, by injection ha with ha; subst ha; exact pl₀, rfl⟩, ?_⟩
  refine callWith_builtin rfl (evalArgs_plain (spliced_cons (h A X B env α H st s _ st₁ _ E R hf fun v h₁ t₁ R₁ r => spliced_nil ?_)))
  obtain ⟨vs, k, pl, ra, hlen⟩ := R₁.ownPl (ownOf_some hxs)
  have hz : vs.size ≤ sizeLine := by rw [hlen]; exact Nat.le_trans hw (by decide)
  refine call_meets F.slot_list_append ⟨_, pl, rfl⟩ F.entry_list_append (F.args_list_append_2 _ _) (list_append (α x) vs k v hz) ⟨pl, ?_⟩
  exact hQ .none _ _ (R₁.mut (ownOf_some hxs) (Heap.SameBut.update h₁ (α x) (Obj.mapSeq fun x_1 => x_1.push v)) (upd_pl pl _) (by
    rw [Array.toList_push]; exact ra.append (RdA.one r))) Rd.none

noncomputable def insAt (xs : List PyData) (k : Nat) (p : PyData) : List PyData := xs.take k ++ p :: xs.drop k
noncomputable def mInsert (x : Nat) (g : St → Option LV) (f : St → Option (LV × St)) : St → Option (LV × St) := fun st => (ownOf st x).bind fun _ => (eInt g st).bind fun i => (f st).bind fun r => match r with
  | (.d p, st') => (ownOf st' x).bind fun xs => cond (Nat.ble xs.length 1000000) (if 0 ≤ i ∧ i ≤ xs.length then some (.d .none, st'.set x (.own (insAt xs i.toNat p))) else none) none
  | _ => none
theorem RdA.ins {h : Heap} {vs : Array Value} {xs : List PyData} {k : Nat} {v : Value} {p : PyData} (r : RdA h vs.toList xs) (r' : Rd h v p) (hk : k ≤ vs.size) : RdA h ((vs.extract 0 k).push v ++ vs.extract k).toList (insAt xs k p) := by
  have tk : ∀ (k : Nat) {us : List Value} {ys : List PyData}, RdA h us ys → RdA h (us.take k) (ys.take k) ∧ RdA h (us.drop k) (ys.drop k) := by
    intro k
    induction k with
    | zero => intro us ys q; exact ⟨.nil, by exact q⟩
    | succ k ih =>
      intro us ys q
      cases q with
      | nil => exact ⟨.nil, .nil⟩
      | cons a b => obtain ⟨c, d⟩ := ih b; exact ⟨.cons a c, d⟩
  obtain ⟨a, b⟩ := tk k r
  unfold insAt
  have : ((vs.extract 0 k).push v ++ vs.extract k).toList = vs.toList.take k ++ v :: vs.toList.drop k := by
    simp only [Array.toList_append, Array.toList_push, Array.toList_extract, List.append_assoc, List.singleton_append]
    simp only [List.extract_eq_drop_take, List.drop_zero, Nat.sub_zero]
    congr 2
    rw [List.take_of_length_le]
    simp
  rw [this]
  exact a.append (.cons r' b)
theorem mInsert_inv {P : Prop} {x : Nat} {g : St → Option LV} {f : St → Option (LV × St)} {st st' : St} {lv : LV} (q : mInsert x g f st = some (lv, st'))
    (k : ∀ xs₀ i d st₁ xs, ownOf st x = some xs₀ → eInt g st = some i → f st = some (.d d, st₁) → ownOf st₁ x = some xs → xs.length ≤ 1000000 → (0 ≤ i ∧ i ≤ xs.length) → lv = .d .none → st' = st₁.set x (.own (insAt xs i.toNat d)) → P) : P := by
  refine bind_some (q) fun xs₀ h0 q => ?_
  refine bind_some (q) fun i hi q => ?_
  refine bind_some2 (q) fun l st₁ hf q => ?_
  obtain ⟨d, rfl⟩ : ∃ ww, l = .d ww := by cases l <;> first | exact ⟨_, rfl⟩ | cases q
  refine bind_some ((show (ownOf st₁ x).bind _ = _ from q)) fun xs hxs q => ?_
  obtain ⟨w, q⟩ := cond_some q
  obtain ⟨hb, q⟩ := if_pos_some q
  cases q
  exact k xs₀ i d st₁ xs h0 hi hf hxs (Nat.le_of_ble_eq_true w) hb rfl rfl
theorem ins_k {i : Int} {n : Nat} (h : 0 ≤ i) (h' : i ≤ n) : (if i < 0 then (i + ((n : Nat) : Int)).toNat else min i.toNat n) = i.toNat := by
  rw [if_neg (Int.not_lt.mpr h)]
  exact Nat.min_eq_left (Int.toNat_le.mpr h')
theorem fits_of {i : Int} {n : Nat} (h : 0 ≤ i) (h' : i ≤ n) (hn : n ≤ 1000000) : Builtin.List.listFitsIndex i = true := by
  simp [Builtin.List.listFitsIndex]; lia
theorem EvM.insert {x : Nat} {y : Str} {e e' : PySem.Expr} {p apos pos : Pos} {g : St → Option LV} {f : St → Option (LV × St)} (hn : G.nm x = y) (hns : NS e) (hns' : NS e') (hline : (apos.endLine == pos.line) = true) (hg : EvV G sc n e g) (h : EvM G sc n e' f) :
    EvM G sc n (.Call (.Attribute (.Name y p) "insert" apos) [e, e'] [] pos) (mInsert x g f) := fun A X B env α H st s lv st' Q E R q hQ => by
  subst hn
  refine mInsert_inv q fun xs₀ i d st₁ xs h0 hi hf hxs hw hb e1 e2 => ?_
  subst e1 e2
  obtain ⟨lb, hlb, eb⟩ := eInt_some hi
  have htr : backTo pos (starEach [e, e'] env) = [(false, eval e env), (false, eval e' env)] := by rw [hns [e'] env, hns' [] env]; rfl
  refine wpAny_Call_method2_late rfl hline htr (R.loadOwn (ownOf_some h0) ?_)
  refine byC fun CC hCC => ?_
  obtain ⟨vs₀, k₀, pl₀, _, _⟩ := R.ownPl (ownOf_some h0)
  refine hCC ?_
  clear hCC
  refine ⟨"list", "list.insert", F.plainAttrs_list, F.slot_list_insert, F.type_list_insert, ⟨_, pl₀, rfl⟩, fun a ha => ⟨_, by injection ha with ha; subst ha; exact pl₀, rfl⟩, ?_⟩
  refine callWith_builtin rfl (evalArgs_plain (spliced_cons (hg A env H st s lb _ E R.sit hlb fun vi h₁ t₁ x₁ ri => spliced_cons ?_)))
  obtain ⟨t, rfl⟩ := (ri.rd eb).int_inv
  refine h A X B env α H st _ _ st₁ _ E (R.ext x₁) hf fun v h₂ t₂ R₁ r => spliced_nil ?_
  obtain ⟨vs, k, pl, ra, hlen⟩ := R₁.ownPl (ownOf_some hxs)
  have hz : vs.size ≤ sizeLine := by rw [hlen]; exact Nat.le_trans hw (by decide)
  refine call_meets F.slot_list_insert ⟨_, pl, rfl⟩ F.entry_list_insert (F.args_list_insert_3 _ _ _) (AutoListH.list_insert_list_int_val_1 (α x) vs k i t v (by rw [fits_of hb.1 hb.2 hw]; decide) hz) ⟨pl, ?_⟩
  exact hQ .none _ _ (R₁.mut (ownOf_some hxs) (Heap.SameBut.update h₂ (α x) (Obj.mapSeq fun xs => have k := if i < 0 then (i + ((xs.size : Nat) : Int)).toNat else min i.toNat xs.size; (xs.extract 0 k).push v ++ xs.extract k)) (upd_pl pl _) (ys := insAt xs i.toNat d) (by
    show RdA _ ((vs.extract 0 _).push v ++ vs.extract _).toList _
    rw [ins_k hb.1 (by rw [hlen]; exact hb.2)]; exact ra.ins r (by rw [hlen]; exact Int.toNat_le.mpr hb.2))) Rd.none

noncomputable def mPop (x : Nat) (g : St → Option LV) : St → Option (LV × St) := fun st => (ownOf st x).bind fun xs => (eInt g st).bind fun i => cond (Nat.ble xs.length 1000000) (if 0 ≤ i then (xs[i.toNat]?).map fun d => (.d d, st.set x (.own (xs.eraseIdx i.toNat))) else none) none
theorem RdA.erase {h : Heap} {us : List Value} : ∀ {ys : List PyData} (k : Nat), RdA h us ys → RdA h (us.eraseIdx k) (ys.eraseIdx k) := by
  induction us with
  | nil => intro ys k r; rw [r.nilL]; exact .nil
  | cons u us ih =>
    intro ys k r
    obtain ⟨d, ds, rfl, a, b⟩ := r.consL
    cases k with
    | zero => exact b
    | succ k => exact .cons a (ih k b)
theorem mPop_inv {P : Prop} {x : Nat} {g : St → Option LV} {st st' : St} {lv : LV} (q : mPop x g st = some (lv, st'))
    (k : ∀ xs i d, ownOf st x = some xs → eInt g st = some i → xs.length ≤ 1000000 → 0 ≤ i → xs[i.toNat]? = some d → lv = .d d → st' = st.set x (.own (xs.eraseIdx i.toNat)) → P) : P := by
  refine bind_some (q) fun xs h0 q => ?_
  refine bind_some (q) fun i hi q => ?_
  obtain ⟨w, q⟩ := cond_some q
  obtain ⟨hb, q⟩ := if_pos_some q
  refine map_some (q) fun d hd e2 => ?_
  cases e2
  exact k xs i d h0 hi (Nat.le_of_ble_eq_true w) hb hd rfl rfl
theorem seq_k {i : Int} {n : Nat} (h : 0 ≤ i) (h' : i.toNat < n) : seqIndex? i n = some i.toNat := by
  unfold seqIndex?
  have h1 : ¬ (i < 0) := by lia
  have h3 : i < (n : Int) := by lia
  simp [h1]
  lia
theorem erase_in {vs : Array Value} {k : Nat} (h : k < vs.size) : (vs.eraseIdxIfInBounds k).toList = vs.toList.eraseIdx k := by
  simp [Array.eraseIdxIfInBounds, h]
theorem EvM.pop {x : Nat} {y : Str} {e : PySem.Expr} {p apos pos : Pos} {g : St → Option LV} (hn : G.nm x = y) (hns : NS e) (hline : (apos.endLine == pos.line) = true) (hg : EvV G sc n e g) :
    EvM G sc n (.Call (.Attribute (.Name y p) "pop" apos) [e] [] pos) (mPop x g) := fun A X B env α H st s lv st' Q E R q hQ => by
  subst hn
  refine mPop_inv q fun xs i d h0 hi hw hb hd e1 e2 => ?_
  subst e1 e2
  obtain ⟨lb, hlb, eb⟩ := eInt_some hi
  have htr : backTo pos (starEach [e] env) = [(false, eval e env)] := by rw [hns [] env]; rfl
  refine wpAny_Call_method1_late rfl hline htr (R.loadOwn (ownOf_some h0) ?_)
  obtain ⟨vs₀, k₀, pl₀, _, _⟩ := R.ownPl (ownOf_some h0)
  refine ⟨"list", "list.pop", F.plainAttrs_list, F.slot_list_pop, F.type_list_pop, ⟨_, pl₀, rfl⟩, fun a ha => ⟨_, by injection ha with ha; subst ha; exact pl₀, rfl⟩, ?_⟩
  refine callWith_builtin rfl (evalArgs_plain (spliced_cons (hg A env H st s lb _ E R.sit hlb fun vi h₁ t₁ x₁ ri => spliced_nil ?_)))
  obtain ⟨t, rfl⟩ := (ri.rd eb).int_inv
  have R₁ := R.ext x₁
  obtain ⟨vs, k, pl, ra, hlen⟩ := R₁.ownPl (ownOf_some h0)
  have hz : vs.size ≤ sizeLine := by rw [hlen]; exact Nat.le_trans hw (by decide)
  have hlt : i.toNat < vs.size := by rw [hlen]; exact (List.getElem?_eq_some_iff.mp hd).1
  obtain ⟨v, hv, rv⟩ := ra.get hd
  refine call_meets F.slot_list_pop ⟨_, pl, rfl⟩ F.entry_list_pop (F.args_list_pop_2 _ _) (MeetsSeq.list_pop_at (α x) vs k i t i.toNat v (fits_of (n := i.toNat) hb (Int.self_le_toNat i) (Nat.le_of_lt (Nat.lt_of_lt_of_le hlt (by rw [hlen]; exact hw)))) (seq_k hb hlt) (by simpa using hv) hz) ⟨pl, ?_⟩
  refine hQ v _ _ (R₁.mut (ownOf_some h0) (Heap.SameBut.update h₁ (α x) (Obj.mapSeq fun xs => xs.eraseIdxIfInBounds i.toNat)) (upd_pl pl _) (ys := xs.eraseIdx i.toNat) (by
    show RdA _ (vs.eraseIdxIfInBounds i.toNat).toList _
    rw [erase_in hlt]; exact RdA.erase _ ra)) ?_
  exact Rd.ext (hide_touch (Heap.SameBut.update h₁ (α x) _) (R₁.oB x xs (ownOf_some h0)).1) rv

noncomputable def sExpr (f : St → Option (LV × St)) : St → Option (Fl × St) := fun st => (f st).map fun r => (.next, r.2)
theorem ExS.expr {e : PySem.Expr} {pos : Pos} {f : St → Option (LV × St)} (h : EvM G sc n e f) (hsc : sc.kind = .function) (hs : ∀ env : Env, env.scope = sc → swapsWith e none pos.line env = pure false) : ExS G sc n (.Expr e pos) (sExpr f) := fun A X B env α H st s fl st' Q E R q hQ => by
  unfold sExpr at q
  refine byC fun CC hCC => ?_
  obtain ⟨⟨l, st₁⟩, hf, e2⟩ := Option.map_eq_some_iff.mp q
  cases e2
  refine hCC ?_
  clear hCC
  refine wpAny_Expr_any (h A X B env α H st s l st₁ _ E R hf fun v h₁ t₁ R₁ r => hQ α H h₁ t₁ .next R₁ rfl) ?_ (hs env R.se)
  unfold interactive
  rw [R.se, hsc]; rfl
noncomputable def sAssignM (x : Nat) (f : St → Option (LV × St)) : St → Option (Fl × St) := fun st => (f st).bind fun r => match r with
  | (.d p, st') => some (.next, st'.set x (.d p))
  | _ => none
theorem ExS.assignM {x : Nat} {y : Str} {p pos : Pos} {e : PySem.Expr} {f : St → Option (LV × St)} (hn : G.nm x = y) (hx : isVar sc y) (h : EvM G sc n e f) (hs : ∀ env : Env, env.scope = sc → swapsWith e (some (.Name y p)) pos.line env = pure false) :
    ExS G sc n (.Assign [.Name y p] e pos) (sAssignM x f) := fun A X B env α H st s fl st' Q E R q hQ => by
  subst hn
  unfold sAssignM at q
  refine bind_some2 (q) fun l st₁ hf q => ?_
  refine wpAny_Assign_Name (h A X B env α H st s l st₁ _ E R hf fun v h₁ t₁ R₁ r => ?_) (hs env R.se)
  obtain ⟨ww, rfl⟩ : ∃ ww, l = .d ww := by cases l <;> first | exact ⟨_, rfl⟩ | cases q
  cases q
  exact R₁.storeD (s := { s with heap := h₁, toks := t₁ }) hx r fun h' tk R'' => hQ α H h' tk .next R'' rfl
noncomputable def sIfNN (f : St → Option (LV × St)) (g k : St → Option (Fl × St)) : St → Option (Fl × St) := fun st => (f st).bind fun r => cond (isN r.1) (k r.2) (g r.2)
theorem ExS.ifNN {e : PySem.Expr} {kk : Nat} {cp p pos : Pos} {b o : List Stmt} {f : St → Option (LV × St)} {g k : St → Option (Fl × St)} (h : EvM G sc n e f) (hb : ExL G sc n b g) (ho : ExL G sc n o k) :
    ExS G sc n (.If (.Compare e [.IsNot] [.Constant .none kk cp] p) b o pos) (sIfNN f g k) := fun A X B env α H st s fl st' Q E R q hQ => by
  unfold sIfNN at q
  refine bind_some2 (q) fun l st₁ hf q => ?_
  refine wpAny_If (wpAny_isTrue_Compare1 (h A X B env α H st s l st₁ _ E R hf fun v h₁ t₁ R₁ r => wpAny_Constant_none (isnot_none_gen ?_)) rfl)
  rw [r.isN]
  refine wpAny_truthy_bool ?_
  dsimp only at q
  cases w : isN l with
  | true => rw [w] at q; exact ho A X B env α H st₁ _ fl st' Q E R₁ q fun α' H' h' tk fw R'' hf => hQ α' H' h' tk fw R'' hf
  | false => rw [w] at q; exact hb A X B env α H st₁ _ fl st' Q E R₁ q fun α' H' h' tk fw R'' hf => hQ α' H' h' tk fw R'' hf

noncomputable def sAugIdx (x : Nat) (op : PyData → PyData → Option LV) (g f : St → Option LV) : St → Option (Fl × St) := fun st => (ownOf st x).bind fun xs => (eInt g st).bind fun i => (eDat f st).bind fun b => cond (Nat.ble xs.length 1000000) (if 0 ≤ i then (xs[i.toNat]?).bind fun a => (op a b).bind fun lv => match lv with
  | .d r => some (.next, st.set x (.own (xs.set i.toNat r)))
  | _ => none else none) none
theorem RdA.setAt {h : Heap} {v : Value} {d : PyData} (r' : Rd h v d) {us : List Value} : ∀ {ys : List PyData} (k : Nat), RdA h us ys → RdA h (us.set k v) (ys.set k d) := by
  induction us with
  | nil => intro ys k r; rw [r.nilL]; exact .nil
  | cons u us ih =>
    intro ys k r
    obtain ⟨d, ds, rfl, a, b⟩ := r.consL
    cases k with
    | zero => exact .cons r' b
    | succ k => exact .cons a (ih k b)
theorem ExS.augIdx {x : Nat} {y : Str} {p tp pos : Pos} {o : Operator} {i e : PySem.Expr} {g f : St → Option LV} {op : PyData → PyData → Option LV} (hn : G.nm x = y) (hg : EvV G sc n i g) (h : EvV G sc n e f) (ho : Op2 G (inplaceOp o) op)
    (hi : ∀ ov iv new, augStore i ov iv new = (do holding [new, ov, iv] (setItem ov iv new); release [new, ov, iv] []; pure .next)) :
    ExS G sc n (.AugAssign (.Subscript (.Name y p) i tp) o e pos) (sAugIdx x op g f) := fun A X B env α H st s fl st' Q E R q hQ => by
  subst hn
  unfold sAugIdx at q
  refine bind_some (q) fun xs h0 q => ?_
  refine bind_some (q) fun i hi' q => ?_
  refine bind_some (q) fun b hb q => ?_
  refine cond_elim (c := Nat.ble xs.length 1000000) q fun w q => ?_
  by_cases hnn : 0 ≤ i
  · simp only [cond_true, if_pos hnn] at q
    refine byC fun CC hCC => ?_
    refine bind_some (q) fun a ha q => ?_
    refine bind_some (q) fun lv hlv q => ?_
    obtain ⟨lb, hlb, eb⟩ := eInt_some hi'
    obtain ⟨lc, hlc, ec⟩ := dat_some hb
    refine hCC ?_
    clear hCC
    have hlt : i.toNat < xs.length := (List.getElem?_eq_some_iff.mp ha).1
    have hw := Nat.le_of_ble_eq_true w
    refine wpAny_AugAssign_SubscriptAny (R.loadOwn (ownOf_some h0) ?_) hi
    refine hg A env H st s lb _ E R.sit hlb fun vi h₁ t₁ x₁ ri => ?_
    refine byC fun CC hCC => ?_
    obtain ⟨t, rfl⟩ := (ri.rd eb).int_inv
    have R₁ := R.ext x₁
    obtain ⟨vs, k, pl, ra, hlen⟩ := R₁.ownPl (ownOf_some h0)
    obtain ⟨va, hva, rva⟩ := ra.get ha
    refine hCC ?_
    clear hCC
    refine wpAny_getItem_list ⟨_, pl, rfl, k, rfl⟩ hnn (by lia) (by simpa using hva) ?_
    refine h A env H st _ lc _ E R₁.sit hlc fun vb h₂ t₂ x₂ rb => ?_
    have R₂ := R₁.ext x₂
    refine ho n A H _ va vb a b lv _ E R.bud R₂.sit.p R₂.hok ((Rd.ext (hide_le _ _) rva).ext x₂) (rb.rd ec) hlv fun v h₃ t₃ x₃ r => ?_
    have R₃ := R₂.ext x₃
    obtain ⟨ww, rfl⟩ : ∃ ww, lv = .d ww := by cases lv <;> first | exact ⟨_, rfl⟩ | cases q
    cases q
    have hpl₃ : h₃.get? (α x) = some { cls := .type "list", data := .seq vs k } := x₃ _ _ (x₂ _ _ pl)
    refine ki_setAt hpl₃ hnn (by lia) (by lia) ?_
    have ra₃ := ra.ext (hide_ext (H := H) (x₂.trans x₃))
    have R₄ := R₃.mut (ownOf_some h0) (Heap.SameBut.update h₃ (α x) (Obj.mapSeq (·.setIfInBounds i.toNat v))) (upd_pl hpl₃ _) (ys := xs.set i.toNat _) (by
      rw [Array.toList_setIfInBounds]; exact RdA.setAt r _ ra₃)
    exact hQ α H _ t₃ .next R₄ rfl
  · simp only [cond_true, if_neg hnn] at q; cases q
end
end Mine
end

section
open PySem PySem.W PyProof.Rows PySem.Calls
namespace Mine
section
variable {G : Gd} {sc : Scope} {n : Nat}

noncomputable def oIadd : PyData → PyData → Option LV
  | .int a, .int b => retI (a + b)
  | .str a, .str b => cond (Nat.ble (a.length + b.length) 1000000) (some (.d (.str (a ++ b)))) none
  | _, _ => none
theorem op_iadd : Op2 G (inplaceOp .Add) oIadd := by
  intro m A H s va vb a b lv Q E hb hp hk ra rb e hQ
  rcases inv_is e with ⟨i, j, rfl, rfl, e⟩ | ⟨x, y, rfl, rfl, e⟩
  · cases e
    obtain ⟨t₁, rfl⟩ := ra.int_inv
    obtain ⟨t₂, rfl⟩ := rb.int_inv
    exact PyProof.Rows.iadd_int (hQ _ s.heap _ (Ext.refl _) (Rd.int _ _))
  · obtain ⟨q, e⟩ := cond_some e
    cases e
    obtain ⟨t₁, rfl⟩ := ra.str_inv
    obtain ⟨t₂, rfl⟩ := rb.str_inv
    exact PyProof.Rows.iadd_str (fun t' tk => hQ _ s.heap _ (Ext.refl _) (Rd.str _ _)) (Nat.le_trans (Nat.le_of_ble_eq_true q) (by decide))

noncomputable def oInT : PyData → PyData → Option LV
  | d, .tuple xs => cond (inOk xs d) (retB (xs.any fun y => PyData.eqv y d)) none
  | _, _ => none
theorem op_inT : Op2 G (compareOp .In) oInT := by
  intro m A H s va vb a b lv Q E hb hp hk ra rb e hQ
  obtain ⟨xs, rfl⟩ : ∃ ww, b = .tuple ww := by cases b <;> first | exact ⟨_, rfl⟩ | cases e
  unfold oInT at e
  dsimp only at e
  refine cond_elim (c := inOk xs a) e fun q e => ?_
  cases e
  unfold inOk at q
  refine byC fun CC hCC => ?_
  obtain ⟨h1, h2⟩ := Bool.and_eq_true_iff.mp q
  obtain ⟨h3, h4⟩ := Bool.and_eq_true_iff.mp h1
  have h5 := Nat.le_of_ble_eq_true h2
  obtain ⟨_, ra⟩ := ra.reads
  obtain ⟨_, rb⟩ := rb.reads
  refine hCC ?_
  clear hCC
  exact SeqAt.in_tuple_reads rb ra h3 h4 (by have := hb.un; rw [cLine_eq]; lia) (hQ _ s.heap s.toks (Ext.refl _) (Rd.bool _))
noncomputable def eIdxT (f g : St → Option LV) : St → Option LV := fun st => (eDat f st).bind fun d => (eInt g st).bind fun i => match d with
  | .tuple xs => if 0 ≤ i ∧ i < 1000000000 then (xs[i.toNat]?).map .d else none
  | _ => none
theorem EvV.idxT {v i : PySem.Expr} {pos : Pos} {f g : St → Option LV} (hv : EvV G sc n v f) (hi : EvV G sc n i g) (hs : ∀ o k, subscripted i false o k = operate [o, k] (getItem o k)) :
    EvV G sc n (.Subscript v i pos) (eIdxT f g) := fun A env H st s lv Q E S e hQ => by
  unfold eIdxT at e
  refine byC fun CC hCC => ?_
  refine bind_some (e) fun d hd e => ?_
  refine bind_some (e) fun k hk e => ?_
  obtain ⟨xs, rfl⟩ : ∃ xs, d = .tuple xs := by cases d <;> first | exact ⟨_, rfl⟩ | cases e
  refine hCC ?_
  clear hCC
  dsimp only at e
  by_cases h0 : 0 ≤ k ∧ k < 1000000000
  · rw [if_pos h0] at e
    refine byC fun CC hCC => ?_
    refine map_some (e) fun c hc ee => ?_
    subst ee
    obtain ⟨la, hla, ea⟩ := dat_some hd
    obtain ⟨lb, hlb, eb⟩ := eInt_some hk
    refine hCC ?_
    clear hCC
    refine Subscript_ (hv A env H st s la _ E S hla fun va h₁ t₁ x₁ ra => ?_)
    refine hi A env H st _ lb _ E (S.ext x₁) hlb fun vb h₂ t₂ x₂ rb => ?_
    have ra₂ := ra.ext x₂
    obtain ⟨ww, rfl⟩ : ∃ ww, la = .d ww := by cases la <;> first | exact ⟨_, rfl⟩ | cases ea
    refine byC fun CC hCC => ?_
    cases ea
    obtain ⟨a, o, vs, j, rfl, pl, hcl, hdt, rr⟩ := Rd.tuple_inv ra₂
    obtain ⟨u, rfl⟩ := (rb.rd eb).int_inv
    obtain ⟨w, hw, rw'⟩ := rr.get hc
    refine hCC ?_
    clear hCC
    have hlen : vs.size = xs.length := by have := rr.length; simpa using this
    have hlt : k.toNat < xs.length := (List.getElem?_eq_some_iff.mp hc).1
    have ht : IsTup h₂ a vs := ⟨o, of_hideAll H pl, hcl, j, hdt⟩
    exact tail_any (s := { s with heap := h₂, toks := t₂ }) (show ({ s with heap := h₂, toks := t₂ } : Shared).TypeIs (.ref a) "tuple" from ⟨o, of_hideAll H pl, hcl⟩) slot_tuple_getitem.lookup (getItem_tuple ht (by lia) (by lia) (seqIndex_of h0.1 (by lia)) (by simpa using hw) (hQ w h₂ t₂ (x₁.trans x₂) rw')) (hs _ _)
  · exact (no_some (if_neg h0) e).elim

noncomputable def signsOf (x : Str) : List PyData := x.cps.toList.map fun c => .str ⟨#[c]⟩
noncomputable def iStr (f : St → Option LV) : St → Option (List PyData) := fun st => (eDat f st).bind fun d => match d with
  | .str x => cond (Nat.ble x.cps.size 1000000) (some (signsOf x)) none
  | _ => none
theorem str_it {A : Around} {H : List Addr} {s : Shared} {x : Str} {t : Tok} {h₀ : Heap} {Q : Value → Shared → Prop} {E : Value → Shared → Prop} (hh : A.handled = none) (x₀ : Ext h₀ s.heap) (hz : x.cps.size ≤ 1000000)
    (hQ : ∀ I fp wr P St h' tk, Ext h₀ h' → ItOk G A h₀ h' H I fp wr P St (signsOf x) → (signsOf x).length ≤ 1000000 → Q (.ref I) { s with heap := h', toks := tk }) : wpAny (model G.prog G.w) A (pyIter (.str x t)) Q E s := by
  have hlen : (signsOf x).length = x.cps.size := by simp [signsOf]
  have hitem : ∀ (h : Heap) i v d, SignAt x i v → (signsOf x)[i]? = some d → Rd h v d := by
    rintro h i v d ⟨c, u, hc, rfl⟩ hd
    unfold signsOf at hd
    rw [List.getElem?_map, Array.getElem?_toList, hc] at hd
    cases hd
    exact .str _ u
  cases ha : x.cps.all (· < 128)
  · refine wpAny_pyIter_wide ha (hQ s.heap.objs.size [s.heap.objs.size] [s.heap.objs.size] (SignAt x) (fun i h => h.IsStrIter s.heap.objs.size "str_iterator" x t i) _ _ (x₀.trans (Ext.push _ _)) ⟨by rw [hlen]; exact Walks.strWide hh _ x t, ⟨_, Heap.get?_push_size _ rfl, rfl, rfl⟩, ?_, ?_, ?_, ?_⟩ (by rw [hlen]; exact hz))
    · rintro i h ⟨o, ho, _⟩ b hb
      rw [List.mem_singleton.mp hb]; exact ⟨_, ho⟩
    · intro b hb
      rw [List.mem_singleton.mp hb]; exact fresh_of_ext x₀
    · intro b hb; exact .inl hb
    · exact hitem _
  · refine wpAny_pyIter_ascii ha (hQ s.heap.objs.size [s.heap.objs.size] [s.heap.objs.size] (SignAt x) (fun i h => h.IsStrIter s.heap.objs.size "str_ascii_iterator" x t i) _ _ (x₀.trans (Ext.push _ _)) ⟨by rw [hlen]; exact Walks.strAscii hh _ x t, ⟨_, Heap.get?_push_size _ rfl, rfl, rfl⟩, ?_, ?_, ?_, ?_⟩ (by rw [hlen]; exact hz))
    · rintro i h ⟨o, ho, _⟩ b hb
      rw [List.mem_singleton.mp hb]; exact ⟨_, ho⟩
    · intro b hb
      rw [List.mem_singleton.mp hb]; exact fresh_of_ext x₀
    · intro b hb; exact .inl hb
    · exact hitem _
theorem EvI.str {e : PySem.Expr} {f : St → Option LV} (h : EvV G sc n e f) : EvI G sc n e (iStr f) := fun A env H st s xs Q E S q hQ => by
  unfold iStr at q
  refine byC fun CC hCC => ?_
  refine bind_some (q) fun d hd q => ?_
  obtain ⟨x, rfl⟩ : ∃ x, d = .str x := by cases d <;> first | exact ⟨_, rfl⟩ | cases q
  refine hCC ?_
  clear hCC
  dsimp only at q
  refine cond_elim (c := Nat.ble x.cps.size 1000000) q fun k q => ?_
  cases q
  obtain ⟨la, hla, ea⟩ := dat_some hd
  refine h A env H st s la _ E S hla fun v h₁ t₁ x₁ r => ?_
  obtain ⟨t, rfl⟩ := (r.rd ea).str_inv
  exact str_it (s := { s with heap := h₁, toks := t₁ }) S.bud.hh x₁ (Nat.le_of_ble_eq_true k) fun I fp wr P Z h' tk x' it hl => hQ I fp wr P Z h' tk x' it hl

noncomputable def eListOf (f : St → Option LV) : St → Option (List PyData) := fun st => (eLst f st).bind fun xs => cond (Nat.ble xs.length 1000000) (some xs) none
theorem EvF.listOf {x : Str} {e : PySem.Expr} {p pos : Pos} {f : St → Option LV} (b : BName G sc x (.type "list")) (hns : NS e) (h : EvV G sc n e f) : EvF G sc n (.Call (.Name x p) [e] [] pos) (eListOf f) := fun A env H st s ys Q E S q hQ => by
  unfold eListOf at q
  refine bind_some (q) fun xs hx q => ?_
  refine cond_elim (c := Nat.ble xs.length 1000000) q fun w q => ?_
  cases q
  obtain ⟨la, hla, ea⟩ := lst_some hx
  refine wpAny_Call_Name_kw (b.load S ?_)
  have e0 := hns [] env
  have hE := (EvL.cons hns h EvL.nil) A env H st s [la] pos (fun vs s₁ => wpAny (model G.prog G.w) A (call (.type "list") vs) Q E s₁) E S (by unfold lCons lNil; rw [hla]; rfl) fun vs h₁ t₁ x₁ rs => by
    refine byC fun CC hCC => ?_
    obtain ⟨v, rfl, r⟩ := rs.one
    obtain ⟨a, vs, rfl, hl, ra⟩ := r.lst ea
    have hlen : vs.size = ys.length := by have := ra.length; simpa using this
    obtain ⟨o, ho, hc, k, hd⟩ := hl
    refine hCC ?_
    clear hCC
    refine call_list_seq a (.inl rfl) ho hc hd (fun h' c' hk hnew => ?_) (by rw [hlen]; exact Nat.le_trans (Nat.le_of_ble_eq_true w) (by decide))
    exact hQ _ h' t₁ vs (x₁.trans hk) (fresh_of_ext x₁) ⟨c', hnew⟩ (ra.ext (hide_new hk (get_fresh _)))
  exact callWith_type1 hE e0 rfl

noncomputable def sortI (ns : List Int) : List Int := ns.mergeSort (· ≤ ·)
theorem perm_sorted : ∀ {a b : List Int}, a.Perm b → a.Pairwise (· ≤ ·) → b.Pairwise (· ≤ ·) → a = b
  | [], b, p, _, _ => by rw [List.nil_perm] at p; rw [p]
  | x :: a, [], p, _, _ => by simp at p
  | x :: a, y :: b, p, ha, hb => by
    rw [List.pairwise_cons] at ha hb
    have hxy : x = y := by
      have h1 : x ∈ y :: b := p.mem_iff.mp (.head _)
      have h2 : y ∈ x :: a := p.mem_iff.mpr (.head _)
      rcases List.mem_cons.mp h1 with e | m1
      · exact e
      · rcases List.mem_cons.mp h2 with e | m2
        · exact e.symm
        · have := ha.1 y m2; have := hb.1 x m1; lia
    subst hxy
    rw [perm_sorted ((List.perm_cons x).mp p) ha.2 hb.2]
theorem sortI_eq {ns ms : List Int} (p : ms.Perm ns) (h : ms.Pairwise (· ≤ ·)) : sortI ns = ms := by
  refine perm_sorted ((List.mergeSort_perm ns _).trans p.symm) ?_ h
  have := List.pairwise_mergeSort (le := fun a b : Int => decide (a ≤ b)) (fun a b c h1 h2 => by simp at *; lia) (fun a b => by simp; lia) ns
  exact this.imp fun {a b} q => by simpa using q
noncomputable def eSorted (f : St → Option LV) : St → Option (List PyData) := fun st => (eLst f st).bind fun xs => (zsOf xs).bind fun ns => cond (Nat.blt ns.length 64) (some ((sortI ns).map .int)) none
theorem EvF.sorted {x : Str} {e : PySem.Expr} {p pos : Pos} {f : St → Option LV} (b : BName G sc x (.builtin "sorted")) (hns : NS e) (h : EvV G sc n e f) : EvF G sc n (.Call (.Name x p) [e] [] pos) (eSorted f) := fun A env H st s ys Q E S q hQ => by
  unfold eSorted at q
  refine bind_some (q) fun xs hx q => ?_
  refine bind_some (q) fun ns hn q => ?_
  refine cond_elim (c := Nat.blt ns.length 64) q fun w q => ?_
  cases q
  obtain ⟨la, hla, ea⟩ := lst_some hx
  refine wpAny_Call_Name_kw (b.load S ?_)
  have e0 := hns [] env
  have hE := (EvL.cons hns h EvL.nil) A env H st s [la] pos (fun vs s₁ => wpAny (model G.prog G.w) A (call (.builtin "sorted") vs) Q E s₁) E S (by unfold lCons lNil; rw [hla]; rfl) fun vs h₁ t₁ x₁ rs => by
    refine byC fun CC hCC => ?_
    obtain ⟨v, rfl, r⟩ := rs.one
    obtain ⟨a, vs, rfl, hl, ra⟩ := r.lst ea
    refine hCC ?_
    clear hCC
    have hI := zs_are ra hn
    have hle : vs.toList.length = ns.length := by
      have h1 := ra.length
      have h2 : ∀ {xs : List PyData} {ns : List Int}, zsOf xs = some ns → xs.length = ns.length := by
        intro xs
        induction xs with
        | nil => intro ns e; cases e; rfl
        | cons d ds ih =>
          intro ns e
          obtain ⟨ww, rfl⟩ : ∃ ww, d = .int ww := by cases d <;> first | exact ⟨_, rfl⟩ | cases e
          refine map_some (e) fun ms hms ee => ?_
          subst ee
          simp [ih hms]
      rw [h1, h2 hn]
    refine sorted_ints (vs := vs.toList) (by exact hl) hI (by rw [hle]; exact Nat.le_of_ble_eq_true w) fun out ns' hI' hp hs => ?_
    have x₂ : Ext h₁ (sortedAll h₁ vs.toList out) := fun b o e => sortedAll_old e
    obtain ⟨k, hnew⟩ := sortedAll_at h₁ vs.toList out
    have hf : h₁.get? (h₁.objs.size + 1) = none := by
      cases w : h₁.get? (h₁.objs.size + 1) with
      | none => rfl
      | some o => exact absurd (Heap.lt_size w) (Nat.not_lt.mpr (Nat.le_succ _))
    have hf0 : s.heap.get? (h₁.objs.size + 1) = none := by
      cases w : s.heap.get? (h₁.objs.size + 1) with
      | none => rfl
      | some o => rw [x₁ _ _ w] at hf; cases hf
    refine hQ _ _ t₁ out (x₁.trans x₂) hf0 ⟨k, hnew⟩ ?_
    rw [sortI_eq hp hs]
    exact rdA_of_ints hI'
  have e1 : starEach [e] env = [(false, eval e env)] := by rw [e0]; rfl
  rw [e1] at hE ⊢
  exact callWith_builtin rfl (evalArgs_plain hE)

noncomputable def strsOf : List PyData → Option (List Str)
  | [] => some []
  | .str x :: r => (strsOf r).map (x :: ·)
  | _ => none
theorem strs_are {h : Heap} {vs : List Value} : ∀ {xs : List PyData} {ys : List Str}, RdA h vs xs → strsOf xs = some ys → StrsAre vs ys := by
  induction vs with
  | nil => intro xs ns r e; rw [r.nilL] at e; cases e; exact .nil
  | cons v vs ih =>
    intro xs ns r e
    obtain ⟨d, ds, rfl, a, b⟩ := r.consL
    obtain ⟨ww, rfl⟩ : ∃ ww, d = .str ww := by cases d <;> first | exact ⟨_, rfl⟩ | cases e
    refine map_some (e) fun ms hms ee => ?_
    subst ee
    obtain ⟨t, rfl⟩ := a.str_inv
    exact .cons _ t (ih b hms)
noncomputable def eJoin (x : Str) (f : St → Option LV) : St → Option LV := fun st => (eLst f st).bind fun xs => (strsOf xs).bind fun ys => cond (Nat.ble ((ys.map (·.length)).sum + ys.length * x.length) 1000000) (some (.d (.str (Txt.join x ys)))) none
theorem EvV.join {x : Str} {k : Nat} {e : PySem.Expr} {cp apos pos : Pos} {f : St → Option LV} (hns : NS e) (hline : (apos.endLine == pos.line) = true) (h : EvV G sc n e f) : EvV G sc n (.Call (.Attribute (.Constant (.str x) k cp) "join" apos) [e] [] pos) (eJoin x f) := fun A env H st s lv Q E S q hQ => by
  unfold eJoin at q
  refine bind_some (q) fun xs hx q => ?_
  refine bind_some (q) fun ys hy q => ?_
  refine cond_elim (c := Nat.ble ((ys.map (·.length)).sum + ys.length * x.length) 1000000) q fun w q => ?_
  cases q
  obtain ⟨la, hla, ea⟩ := lst_some hx
  have htr : backTo pos (starEach [e] env) = [(false, eval e env)] := by rw [hns [] env]; rfl
  refine wpAny_Call_method1_late rfl hline htr (wpAny_Constant_str ?_)
  refine ⟨"str", "str.join", F.plainAttrs_str, F.slot_str_join, F.type_str_join, rfl, fun a ha => (nomatch ha), ?_⟩
  refine callWith_builtin rfl (evalArgs_plain (spliced_cons (h A env H st _ la _ E S hla fun v h₁ t₁ x₁ r => spliced_nil ?_)))
  refine byC fun CC hCC => ?_
  obtain ⟨a, vs, rfl, hl, ra⟩ := r.lst ea
  refine hCC ?_
  clear hCC
  exact join_list hl (strs_are ra hy) (Nat.le_trans (Nat.le_of_ble_eq_true w) (by decide)) fun t' k => hQ _ h₁ k x₁ (Rd.str _ t')
noncomputable def eIsB (f : St → Option LV) : St → Option LV := fun st => (eDat f st).bind fun d => match d with
  | .int _ => retB false
  | .bool _ => retB true
  | _ => none
theorem EvV.isB {x y : Str} {e : PySem.Expr} {p p' pos : Pos} {f : St → Option LV} (b : BName G sc x (.builtin "isinstance")) (b' : BName G sc y (.type "bool")) (hns : NS e) (hns' : NS (.Name y p')) (h : EvV G sc n e f) :
    EvV G sc n (.Call (.Name x p) [e, .Name y p'] [] pos) (eIsB f) := fun A env H st s lv Q E S q hQ => by
  unfold eIsB at q
  refine byC fun CC hCC => ?_
  refine bind_some (q) fun d hd q => ?_
  obtain ⟨la, hla, ea⟩ := dat_some hd
  refine hCC ?_
  clear hCC
  refine wpAny_Call_Name_kw (b.load S ?_)
  have e1 : starEach [e, .Name y p'] env = [(false, eval e env), (false, eval (.Name y p') env)] := by rw [hns [.Name y p'] env, hns' [] env]; rfl
  rw [e1]
  refine callWith_builtin rfl (evalArgs_plain (spliced_cons (h A env H st s la _ E S hla fun v h₁ t₁ x₁ r => spliced_cons (b'.load (s := { s with heap := h₁, toks := t₁ }) (S.ext x₁) (spliced_nil ?_)))))
  cases d <;> first | (cases q; done) | skip
  · refine byC fun CC hCC => ?_
    cases q
    obtain rfl := (r.rd ea).bool_inv
    refine hCC ?_
    clear hCC
    exact IsiPair.bool_bool (hQ _ h₁ t₁ x₁ (Rd.bool _))
  · refine byC fun CC hCC => ?_
    cases q
    obtain ⟨u, rfl⟩ := (r.rd ea).int_inv
    refine hCC ?_
    clear hCC
    exact IsiPair.int_bool (hQ _ h₁ _ x₁ (Rd.bool _))
end
end Mine
end

section
open PySem PySem.W PyProof.Rows PySem.Calls
namespace Mine
section
variable {G : Gd} {sc : Scope} {n : Nat}

noncomputable def lkS : List (Str × Int) → Str → Option Int
  | [], _ => none
  | (k, v) :: r, x => if k = x then some v else lkS r x
noncomputable def lkI : List (Int × Str) → Int → Option Str
  | [], _ => none
  | (k, v) :: r, x => if k = x then some v else lkI r x
theorem lkS_c (k : Str) (v : Int) (r : List (Str × Int)) (x : Str) : lkS ((k, v) :: r) x = if k = x then some v else lkS r x := rfl
theorem lkI_c (k : Int) (v : Str) (r : List (Int × Str)) (x : Int) : lkI ((k, v) :: r) x = if k = x then some v else lkI r x := rfl
noncomputable def tabS (t : List (Str × Int)) : List (PyData × PyData) := t.map fun p => (.str p.1, .int p.2)
noncomputable def tabI (t : List (Int × Str)) : List (PyData × PyData) := t.map fun p => (.int p.1, .str p.2)
theorem lookup_tabS (t : List (Str × Int)) (x : Str) : PySem.Spec.lookup (.str x) (tabS t) = (lkS t x).map .int := by
  induction t with
  | nil => rfl
  | cons p r ih =>
    obtain ⟨k, v⟩ := p
    unfold tabS at ih ⊢
    rw [List.map_cons]
    rw [lkS_c]
    by_cases h : k = x
    · simp [PySem.Spec.lookup, PyProof.V.same_str, h]
    · simp only [PySem.Spec.lookup, PyProof.V.same_str, h, decide_false, Bool.false_eq_true, if_false]
      exact ih
theorem lookup_tabI (t : List (Int × Str)) (x : Int) : PySem.Spec.lookup (.int x) (tabI t) = (lkI t x).map .str := by
  induction t with
  | nil => rfl
  | cons p r ih =>
    obtain ⟨k, v⟩ := p
    unfold tabI at ih ⊢
    rw [List.map_cons]
    rw [lkI_c]
    by_cases h : k = x
    · simp [PySem.Spec.lookup, PyProof.V.same_int, h]
    · simp only [PySem.Spec.lookup, PyProof.V.same_int, h, decide_false, Bool.false_eq_true, if_false]
      exact ih
structure TName' (G : Gd) (sc : Scope) (x : Str) (td : Addr) (t : List (Str × Int)) : Prop where
  sc : sc.names.lookup x = some .globalImplicit
  mg : G.mg x = some (.ref td)
  db : (x == ("__debug__" : Str)) = false
  tab : ∀ h, G.P h → TabAt (strKind G.prog G.w) PyData.str h td (tabS t)
theorem TName'.load {x : Str} {td : Addr} {t : List (Str × Int)} {pos : Pos} (b : TName' G sc x td t) {A : Around} {env : Env} {H : List Addr} {st : St} {s : Shared} {Q : Value → Shared → Prop} {E : Value → Shared → Prop} (S : Sit G sc n A env H st s.heap) (h : Q (.ref td) s) :
    wpAny (model G.prog G.w) A (eval (.Name x pos) env) Q E s :=
  Name_function_global S.eo.kind (S.eo.glob x b.sc) (loadGlobal_global (by rw [S.eo.gl]; exact G.g S.p) b.mg h) b.db
noncomputable def asStr : PyData → Option Str
  | .str x => some x
  | _ => none
theorem asStr_some {d : PyData} {x : Str} (h : asStr d = some x) : d = .str x := by cases d <;> cases h; rfl
noncomputable def eStr (f : St → Option LV) : St → Option Str := fun st => (eDat f st).bind asStr
theorem eStr_some {f : St → Option LV} {st : St} {x : Str} (h : eStr f st = some x) : ∃ lv, f st = some lv ∧ lv.dat = some (.str x) := by
  unfold eStr at h
  refine bind_some (h) fun d hd e => ?_
  rw [asStr_some e] at hd
  exact dat_some hd
noncomputable def tNotIn (t : List (Str × Int)) (f : St → Option LV) : St → Option Bool := fun st => (eStr f st).map fun x => !(lkS t x).isSome
theorem EvT.notInG {x : Str} {td : Addr} {t : List (Str × Int)} {e : PySem.Expr} {p pos : Pos} {f : St → Option LV} (b : TName' G sc x td t) (h : EvV G sc n e f) : EvT G sc n (.Compare e [.NotIn] [.Name x p] pos) (tNotIn t f) := fun A env H st s v Q E S q hQ => by
  unfold tNotIn at q
  refine byC fun CC hCC => ?_
  refine map_some (q) fun y hy ee => ?_
  subst ee
  obtain ⟨la, hla, ea⟩ := eStr_some hy
  refine hCC ?_
  clear hCC
  refine wpAny_isTrue_Compare1 (h A env H st s la _ E S hla fun va h₁ t₁ x₁ r => b.load (s := { s with heap := h₁, toks := t₁ }) (S.ext x₁) ?_) rfl
  obtain ⟨u, rfl⟩ := (r.rd ea).str_inv
  refine notin_tab PyProof.V.same_str (strKind_is G.prog G.w y u) (b.tab h₁ (S.ext x₁).p) ?_
  refine wpAny_truthy_bool ?_
  rw [lookup_tabS, Option.isSome_map]
  exact hQ h₁ _ x₁
noncomputable def eItemG (t : List (Str × Int)) (f : St → Option LV) : St → Option LV := fun st => (eStr f st).bind fun x => (lkS t x).map fun i => .d (.int i)
theorem EvV.itemG {x : Str} {td : Addr} {t : List (Str × Int)} {e : PySem.Expr} {p pos : Pos} {f : St → Option LV} (b : TName' G sc x td t) (h : EvV G sc n e f) (hs : ∀ o k, subscripted e false o k = operate [o, k] (getItem o k)) :
    EvV G sc n (.Subscript (.Name x p) e pos) (eItemG t f) := fun A env H st s lv Q E S q hQ => by
  unfold eItemG at q
  refine byC fun CC hCC => ?_
  refine bind_some (q) fun y hy q => ?_
  refine map_some (q) fun i hi ee => ?_
  subst ee
  obtain ⟨la, hla, ea⟩ := eStr_some hy
  refine hCC ?_
  clear hCC
  refine Subscript_ (b.load S (h A env H st s la _ E S hla fun va h₁ t₁ x₁ r => ?_))
  obtain ⟨u, rfl⟩ := (r.rd ea).str_inv
  refine item_tab_any PyProof.V.same_str (strKind_is G.prog G.w y u) (b.tab h₁ (S.ext x₁).p) (dv := .int i) (by rw [lookup_tabS, hi]; rfl) (fun v hf => ?_) (hs _ _)
  obtain ⟨u', rfl⟩ := hf.int_inv
  exact hQ _ h₁ _ x₁ (Rd.int _ _)

inductive DispOk : List (Option PySem.Expr) → List PySem.Expr → List (Int × Str) → Prop
  | nil : DispOk [] [] []
  | cons {i : Int} {k k' : Nat} {p p' : Pos} {x : Str} {ks : List (Option PySem.Expr)} {vs : List PySem.Expr} {l : List (Int × Str)} : DispOk ks vs l → DispOk (some (.Constant (.int i) k p) :: ks) (.Constant (.str x) k' p' :: vs) ((i, x) :: l)
inductive PairsOk : List (Value × Value) → List (Int × Str) → Prop
  | nil : PairsOk [] []
  | cons {i : Int} {t u : Tok} {x : Str} {vs : List (Value × Value)} {l : List (Int × Str)} : PairsOk vs l → PairsOk ((.int i t, .str x u) :: vs) ((i, x) :: l)
theorem disp_pairs {A : Around} {env : Env} {pos : Pos} {E : Value → Shared → Prop} {ks : List (Option PySem.Expr)} {vs : List PySem.Expr} {l : List (Int × Str)} (D : DispOk ks vs l) : ∀ {s : Shared} {Q : List (Value × Value) → Shared → Prop}, (∀ prs tk, PairsOk prs l → Q prs { s with toks := tk }) →
    wpAny (model G.prog G.w) A (evalPairs (pairTrees ks vs env pos)) Q E s := by
  induction D with
  | nil => intro s Q hQ; exact pairTrees_nil_walk (hQ [] s.toks .nil)
  | cons D ih =>
    intro s Q hQ
    refine pairTrees_cons_walk (wpAny_Constant_int (wpAny_Constant_str (ih fun prs tk h => ?_)))
    exact hQ _ tk (.cons h)
theorem disp_kvs {prs : List (Value × Value)} {l : List (Int × Str)} (h : PairsOk prs l) : ∃ kvs : List (Int × Value), Carries (intKind G.prog G.w) prs kvs ∧ PyProof.V.FlatPairs PyData.int kvs (tabI l) ∧ kvs.map (·.1) = l.map (·.1) := by
  induction h with
  | nil => exact ⟨[], trivial, .nil, rfl⟩
  | @cons i t u x vs l _ ih =>
    obtain ⟨kvs, a, b, c⟩ := ih
    exact ⟨(i, .str x u) :: kvs, ⟨intKind_is G.prog G.w i t, rfl, a⟩, .cons (PyProof.V.Flat.str x u) b, by simp [c]⟩
theorem DispOk.len {ks : List (Option PySem.Expr)} {vs : List PySem.Expr} {l : List (Int × Str)} (D : DispOk ks vs l) : ks.length = vs.length ∧ ks.all (·.isSome) = true ∧ ks.length = l.length := by
  induction D with
  | nil => exact ⟨rfl, rfl, rfl⟩
  | cons _ ih => obtain ⟨a, b, c⟩ := ih; exact ⟨by simp [a], by simp [b], by simp [c]⟩
noncomputable def eItemD (t : List (Int × Str)) (f : St → Option LV) : St → Option LV := fun st => (eInt f st).bind fun i => (lkI t i).map fun x => .d (.str x)
theorem EvV.itemD {ks : List (Option PySem.Expr)} {vs : List PySem.Expr} {l : List (Int × Str)} {e : PySem.Expr} {dp pos : Pos} {f : St → Option LV} (D : DispOk ks vs l) (h0 : ks ≠ []) (h15 : ks.length ≤ 15) (hnd : (l.map (·.1)).Nodup) (hsys : ∀ h, G.P h → ∃ o, h.get? sysModules = some o) (h : EvV G sc n e f)
    (hs : ∀ o k, subscripted e false o k = operate [o, k] (getItem o k)) :
    EvV G sc n (.Subscript (.Dict ks vs dp) e pos) (eItemD l f) := fun A env H st s lv Q E S q hQ => by
  unfold eItemD at q
  refine byC fun CC hCC => ?_
  refine bind_some (q) fun i hi q => ?_
  refine map_some (q) fun x hx ee => ?_
  subst ee
  obtain ⟨la, hla, ea⟩ := eInt_some hi
  obtain ⟨o1, o2, o3⟩ := D.len
  refine hCC ?_
  clear hCC
  refine Subscript_ (wpAny_Dict_walk (knd := intKind G.prog G.w) o2 o1 h0 h15 (disp_pairs D fun prs tk hp => ?_))
  obtain ⟨kvs, c1, c2, c3⟩ := disp_kvs (G := G) hp
  refine ⟨kvs, c1, Heap.DictOf.new _, fun h' hd sb => ?_⟩
  have hx₁ : Ext s.heap h' := fun b o e => (sb.2 b (Nat.ne_of_lt (Heap.lt_size e))).trans (Ext.push _ _ b o e)
  refine h A env H st _ la _ E (S.ext hx₁) hla fun va h₁ t₁ x₁ r => ?_
  obtain ⟨u, rfl⟩ := (r.rd ea).int_inv
  rw [merged_nil_of_nodup kvs (by rw [c3]; exact hnd)] at hd
  have lo : (s.heap.objs.size == sysModules) = false := by
    obtain ⟨o, ho⟩ := hsys s.heap S.p
    have := Heap.lt_size ho
    exact beq_false_of_ne (Nat.ne_of_gt this)
  have T : TabAt (intKind G.prog G.w) PyData.int h₁ s.heap.objs.size (tabI l) := TabAt.keep ⟨lo, kvs, hd, c2⟩ x₁
  refine item_tab_any PyProof.V.same_int (intKind_is G.prog G.w i u) T (dv := .str x) (by rw [lookup_tabI, hx]; rfl) (fun v hf => ?_) (hs _ _)
  obtain ⟨u', rfl⟩ := hf.str_inv
  exact hQ _ h₁ _ (hx₁.trans x₁) (Rd.str _ _)
end
end Mine
end

section
open PySem PySem.W PyProof.Rows PySem.Calls
namespace Mine
section
variable {G : Gd} {sc : Scope} {n : Nat} {A : Around} {X : List Addr} {B : Heap} {env : Env} {α : Nat → Addr} {H : List Addr} {st : St} {h h' : Heap}
end

noncomputable def InsC (G : Gd) (n : Nat) (a : Addr) (F : List PyData → PyData → Option (List PyData)) : Prop :=
  ∀ (A : Around) (H : List Addr) (l : Addr) (s : Shared) (vs : Array Value) (xs ys : List PyData) (vx : Value) (p : PyData) (Q : Value → Shared → Prop) (E : Value → Shared → Prop), Bud n A → G.P (hideAll s.heap [l]) → HOk H s.heap → l ∈ H → s.heap.PlainList l vs →
    RdA (hideAll s.heap H) vs.toList xs → Rd (hideAll s.heap H) vx p → F xs p = some ys →
    (∀ h' tk vs', (∀ b o, b ≠ l → s.heap.get? b = some o → h'.get? b = some o) → h'.PlainList l vs' → RdA (hideAll h' H) vs'.toList ys → Q .none { s with heap := h', toks := tk }) →
    wpAny (model G.prog G.w) A (call (.ref a) [.ref l, vx] (kwArgs G true)) Q E s

structure InsOk (G : Gd) (fd : FuncData) (ai xi loi hii keyi : Nat) : Prop where
  bind : ∀ (s : Shared) (l : Addr) (vx : Value), G.P s.heap → ∃ binds t, BindsTo s fd ⟨[.ref l, vx], kwArgs G true⟩ binds ∧ (binds.map (·.1)).Nodup ∧ (∀ y ∈ binds, isVar fd.scope y.1) ∧
    (G.nm ai, .ref l) ∈ binds ∧ (G.nm xi, vx) ∈ binds ∧ (G.nm loi, .int 0 t) ∈ binds ∧ (G.nm hii, .none) ∈ binds ∧ (G.nm keyi, .ref G.key) ∈ binds
noncomputable def insSt (ai xi loi hii keyi : Nat) (xs : List PyData) (p : PyData) : St := [(ai, .own xs), (xi, .d p), (loi, .d (.int 0)), (hii, .d .none), (keyi, .fn)]
noncomputable def insF (ai xi loi hii keyi : Nat) (tf : St → Option Bool) (fc : St → Option LV) (fm : St → Option (LV × St)) (xs : List PyData) (p : PyData) : Option (List PyData) :=
  (tf (insSt ai xi loi hii keyi xs p)).bind fun b => cond b none ((fc (insSt ai xi loi hii keyi xs p)).bind fun lv => match lv with
    | .d q => (fm ((insSt ai xi loi hii keyi xs p).set loi (.d q))).bind fun r => ownOf r.2 ai
    | _ => none)

section
variable {G : Gd} {n : Nat}
theorem InsC.of {a : Addr} {fd : FuncData} {test call' e1 : PySem.Expr} {b1 : List Stmt} {loN : Str} {lp apos ipos epos : Pos} {ai xi loi hii keyi : Nat} {tf : St → Option Bool} {fc : St → Option LV} {fm : St → Option (LV × St)}
    (f : FnAt G a fd [.If test b1 [.Assign [.Name loN lp] call' apos] ipos, .Expr e1 epos]) (hb : InsOk G fd ai xi loi hii keyi) (hnlo : G.nm loi = loN) (hlo : isVar fd.scope loN) (hal : ai ≠ loi)
    (ht : EvT G fd.scope n test tf) (hc : EvV G fd.scope n call' fc) (hm : EvM G fd.scope n e1 fm)
    (hs1 : ∀ env : Env, env.scope = fd.scope → swapsWith call' (some (.Name loN lp)) apos.line env = pure false) (hs2 : ∀ env : Env, env.scope = fd.scope → swapsWith e1 none epos.line env = pure false) :
    InsC G (n + 1) a (insF ai xi loi hii keyi tf fc fm) := by
  intro A H l s vs xs ys vx p Q E bud hp hH hlH hpl hxs hx hF hQ
  have hp' : G.P s.heap := G.mono (hide_le _ _) hp
  obtain ⟨binds, t0, hbind, hnd, hkind, b1, b2, b3, b4, b5⟩ := hb.bind s l vx hp'
  refine call_framed f bud hp' hbind hnd hkind fun env h₁ tk F => ?_
  have lB : (hideAll s.heap [l]).get? l = none := hideAll_none _ (.head _)
  obtain ⟨lk, hpl⟩ := hpl
  let X := H.filter fun a => decide (a ≠ l)
  have mX : ∀ a, a ∈ X → a ∈ H ∧ a ≠ l := fun a m => ⟨(List.mem_filter.mp m).1, of_decide_eq_true (List.mem_filter.mp m).2⟩
  let H' := H ++ (env.locals :: env.cells.map (·.2))
  have hHx : Ext (hideAll s.heap H) (hideAll h₁ H') := F.hide H
  let st₀ := insSt ai xi loi hii keyi xs p
  have getOwn : ∀ y zs, st₀.get y = some (.own zs) → y = ai ∧ zs = xs := fun y zs e =>
    get_all (P := fun y lv => ∀ zs, lv = .own zs → y = ai ∧ zs = xs) (all_cons (fun _ q => ⟨rfl, (LV.own.inj q).symm⟩) (all_cons (fun _ q => LV.noConfusion q) (all_cons (fun _ q => LV.noConfusion q) (all_cons (fun _ q => LV.noConfusion q) (all_cons (fun _ q => LV.noConfusion q) all_nil))))) e zs rfl
  have R : Rep G fd.scope n (A.deeper env) X (hideAll s.heap [l]) env (fun _ => l) H' st₀ h₁ :=
    F.rep (bud.deeper env) hp (hide_le _ _) (fun a m => (mX a m).1) (fun a m => by
      by_cases q : a = l
      · subst q; exact .inr lB
      · exact .inl (List.mem_filter.mpr ⟨m, decide_eq_true q⟩)) hH (fun _ _ _ => ⟨hlH, lB, fun m => (mX _ m).2 rfl⟩) (fun y z us zs e1 e2 _ => (getOwn y us e1).1.trans (getOwn z zs e2).1.symm) fun y lv e => by
      refine get_all (P := fun y lv => ∃ v, (G.nm y, v) ∈ binds ∧ RO G H' h₁ v lv ∧ ∀ zs, lv = .own zs → v = .ref l) ?_ e
      refine all_cons ⟨_, b1, ⟨l, vs, rfl, ⟨lk, F.keep _ _ hpl⟩, hxs.ext hHx⟩, fun _ _ => rfl⟩ (all_cons ⟨_, b2, ?_, fun _ q => LV.noConfusion q⟩ (all_cons ⟨_, b3, ?_, fun _ q => LV.noConfusion q⟩
          (all_cons ⟨_, b4, ?_, fun _ q => LV.noConfusion q⟩ (all_cons ⟨_, b5, rfl, fun _ q => LV.noConfusion q⟩ all_nil))))
      · exact Rd.ext hHx hx
      · exact Rd.int _ _
      · exact Rd.none
  unfold insF at hF
  refine bind_some (hF) fun b hb' hF => ?_
  cases b with
  | true => cases hF
  | false =>
    refine bind_some ((show ((fc _).bind _) = _ from hF)) fun lv hlv hF => ?_
    obtain ⟨q, rfl⟩ : ∃ q, lv = .d q := by cases lv <;> first | exact ⟨_, rfl⟩ | cases hF
    refine bind_some2 ((show ((fm _).bind _) = _ from hF)) fun rv st₂ hfm hown => ?_
    refine wpAny_execs_cons (wpAny_If (ht (A.deeper env) env H' st₀ { s with heap := h₁, toks := tk } false _ _ R.sit hb' fun h₂ t₂ x₂ => ?_))
    simp only [Bool.false_eq_true, if_false]
    have R₂ := R.ext x₂
    refine wpAny_execs_cons (wpAny_Assign_Name (hc (A.deeper env) env H' st₀ { s with heap := h₂, toks := t₂ } _ _ _ R₂.sit hlv fun v h₃ t₃ x₃ r => ?_) (hs1 env F.se))
    have R₃ := R₂.ext x₃
    subst hnlo
    refine R₃.storeD (s := { s with heap := h₃, toks := t₃ }) hlo r fun h₄ t₄ R₄ => wpAny_execs_nil ?_
    refine wpAny_execs_cons (wpAny_Expr_any (hm (A.deeper env) X _ env (fun _ => l) H' _ { s with heap := h₄, toks := t₄ } rv st₂ _ _ R₄ hfm fun v₅ h₅ t₅ R₅ r₅ => ?_) ?_ (hs2 env F.se))
    · refine wpAny_execs_nil ?_
      obtain ⟨vs', j, pl', ra', _⟩ := R₅.ownPl (ownOf_some hown)
      refine hQ h₅ t₅ vs' (fun b o hb e => R₅.keep b o (hideAll_get _ e fun m => hb (List.mem_singleton.mp m))) ⟨j, pl'⟩ (ra'.ext (hide_gen (fun _ _ _ e => e) fun a m => .inl (List.mem_append_left _ m)))
    · unfold interactive
      rw [F.eo.kind]; rfl
end

section
variable {G : Gd} {sc : Scope} {n : Nat}
noncomputable def mInsort (x : Nat) (F : List PyData → PyData → Option (List PyData)) (f : St → Option LV) : St → Option (LV × St) := fun st => (ownOf st x).bind fun xs => (f st).bind fun lv => match lv with
  | .d p => (F xs p).map fun ys => (.d .none, st.set x (.own ys))
  | _ => none
theorem EvM.insort {x : Nat} {y g k : Str} {a : Addr} {e : PySem.Expr} {p gp kp kkp pos : Pos} {f : St → Option LV} {F : List PyData → PyData → Option (List PyData)} (u : UName G sc g a) (hn : G.nm x = y) (hns0 : NS (.Name y p)) (hns : NS e) (h : EvV G sc n e f)
    (hk : EvV G sc n (.Name k kp) eFn) (hF : InsC G n a F) :
    EvM G sc n (.Call (.Name g gp) [.Name y p, e] [⟨some ("key" : Str), .Name k kp, kkp⟩] pos) (mInsort x F f) := fun A X B env α H st s lv st' Q E R q hQ => by
  subst hn
  unfold mInsort at q
  refine bind_some (q) fun xs hxs q => ?_
  refine bind_some (q) fun l hl q => ?_
  obtain ⟨d, rfl⟩ : ∃ ww, l = .d ww := by cases l <;> first | exact ⟨_, rfl⟩ | cases q
  refine byC fun CC hCC => ?_
  refine map_some (q) fun ys hys e2 => ?_
  cases e2
  refine hCC ?_
  clear hCC
  have S := R.sit
  refine wpAny_Call_Name_kw (Name_function_global S.eo.kind (S.eo.glob g u.sc) (loadGlobal_global (by rw [S.eo.gl]; exact G.g S.p) u.mg ?_) u.db)
  have e1 : starEach [.Name (G.nm x) p, e] env = [(false, eval (.Name (G.nm x) p) env), (false, eval e env)] := by rw [hns0 [e] env, hns [] env]; rfl
  refine callWith_of (P := G.P) (by rw [e1]; rfl) (fun h hh => ?_) ?_
  · obtain ⟨o, ho, fd, hd⟩ := u.fn h hh
    exact ⟨_, .inl rfl, keeper_fn ho hd⟩
  · rw [e1]
    refine evalArgs_kw rfl (spliced_cons (R.loadOwn (ownOf_some hxs) (spliced_cons (h A env H st s _ _ E S hl fun v h₁ t₁ x₁ r => spliced_nil ?_))))
    show wpAny _ _ (evalAll [(do let v ← eval (.Name k kp) env; standAt pos; pure v)]) _ _ _
    refine wpAny_evalAll_cons (wpAny_bind (hk A env H st _ _ _ E (S.ext x₁) rfl fun w h₂ t₂ x₂ rw' => wpAny_bind (wpAny_standAt (wpAny_pure (wpAny_evalAll_nil ?_)))))
    cases rw'
    have R₂ := (R.ext x₁).ext x₂
    refine ⟨R₂.sit.p, ?_⟩
    refine byC fun CC hCC => ?_
    obtain ⟨vs, j, pl, ra, _⟩ := R₂.ownPl (ownOf_some hxs)
    refine hCC ?_
    clear hCC
    have hBl : Ext B (hideAll h₂ [α x]) := fun b o e => hideAll_get _ (R₂.keep b o e) fun m => by
      rw [List.mem_singleton.mp m, (R.oB x xs (ownOf_some hxs)).2.1] at e; cases e
    refine hF A H (α x) _ vs xs ys v d Q E R.bud (G.mono hBl R.pB) R₂.hok (R.oB x xs (ownOf_some hxs)).1 ⟨j, pl⟩ ra (Rd.ext (hide_ext x₂) r) hys fun h' tk vs' kk pl' ra' => ?_
    exact hQ .none h' tk (R₂.mutE (ownOf_some hxs) kk pl' ra') Rd.none

noncomputable def eCallK (F : List LV → Option PyData) (fk : St → Option LV) (fs : St → Option (List LV)) : St → Option LV := fun st => (fk st).bind fun lk => match lk with
  | .fn => eCall F fs st
  | _ => none
theorem EvV.ucallKN {x : Str} {a : Addr} {e : PySem.Expr} {es : List PySem.Expr} {p pos kp : Pos} {ke : PySem.Expr} {fs : St → Option (List LV)} {fk : St → Option LV} {F : List LV → Option PyData} (u : UName G sc x a) (hns : ∀ e' ∈ e :: es, NS e') (h : EvL G sc n (e :: es) fs)
    (hk : EvV G sc n ke fk) (hF : PureC G n a true F) :
    EvV G sc n (.Call (.Name x p) (e :: es) [⟨some ("key" : Str), ke, kp⟩] pos) (eCallK F fk fs) := fun A env H st s lv Q E S q hQ => by
  unfold eCallK at q
  refine bind_some (q) fun lk hlk q => ?_
  cases lk <;> first | (cases q; done) | skip
  dsimp only at q
  have hk' : EvV G sc n ke (fun st' => (fk st').bind fun l => match l with | .fn => Option.some .fn | _ => Option.none) := fun A env H st s lv Q E S q hQ => by
    refine bind_some (q) fun l hl q => ?_
    cases l <;> first | (cases q; done) | skip
    cases q
    exact hk A env H st s _ Q E S hl hQ
  refine EvV.ucallK u hns h hk' (fun st lv w => ?_) hF A env H st s lv Q E S ?_ hQ
  · refine bind_some (w) fun l hl w => ?_
    cases l <;> first | (cases w; done) | skip
    cases w; rfl
  · show (((fk st).bind _).bind _) = _
    rw [hlk]; exact q
end
end Mine
end

section
open PySem PySem.W PyProof.Rows PySem.Calls
namespace Mine

noncomputable def fdAt (i : Nat) : Str × List Stmt × Scope := match PySem.Challenge.pw_uc0017_01.main.body[i]? with
  | some (.FunctionDef x _ body _ _ _ sc _ _ _) => (x, body, sc)
  | _ => (default, [], default)
noncomputable def bodyAt (i : Nat) : List Stmt := (fdAt i).2.1
noncomputable def scopeAt (i : Nat) : Scope := (fdAt i).2.2
noncomputable def nmsT : List Str := (["a", "b", "s", "grouping", "last_interval", "interval", "x", "lo", "hi", "key", "mid", "number", "place", "entry", "ruler", "step", "text", "fall", "signs", "read", "at", "reach",
  "marks", "count", "facts", "k", "total", "choice", "share", "last", "falls", "ways", "behind", "ahead", "rank", "ranks", "sums", "flat", "more", "row", "left", "order", "laid", "script", "cells", "pool", "twins", "both",
  "twin", "spot", "numbers", "sizes", "way", "tail", "due", "pair", "told", "low", "high", "sign", "said"] : List String).map Str.ofString
noncomputable def nmT (i : Nat) : Str := match nmsT[i]? with
  | some x => x
  | none => ⟨#[0, i]⟩
theorem nmsT_nodup : nmsT.Nodup := by decide +kernel
theorem nmsT_nz : ∀ x ∈ nmsT, x.cps[0]? ≠ some 0 ∧ (x == ("__debug__" : Str)) = false ∧ (x == ("__classdict__" : Str)) = false := by decide +kernel
theorem nmT_cases (i : Nat) : (nmT i ∈ nmsT ∧ nmsT[i]? = some (nmT i)) ∨ nmT i = ⟨#[0, i]⟩ := by
  unfold nmT
  cases q : nmsT[i]? with
  | none => exact .inr rfl
  | some x => exact .inl ⟨List.mem_of_getElem? q, rfl⟩
theorem nmT_inj (i j : Nat) (e : nmT i = nmT j) : i = j := by
  rcases nmT_cases i with ⟨m, p⟩ | p <;> rcases nmT_cases j with ⟨m', p'⟩ | p'
  · rw [e] at p
    obtain ⟨hi, ei⟩ := List.getElem?_eq_some_iff.mp p
    obtain ⟨hj, ej⟩ := List.getElem?_eq_some_iff.mp p'
    have pw := List.pairwise_iff_getElem.mp nmsT_nodup
    rcases Nat.lt_trichotomy i j with w | w | w
    · exact absurd (ei.trans ej.symm) (pw i j hi hj w)
    · exact w
    · exact absurd (ej.trans ei.symm) (pw j i hj hi w)
  · rw [e, p'] at m
    exact absurd rfl (nmsT_nz _ m).1
  · rw [← e, p] at m'
    exact absurd rfl (nmsT_nz _ m').1
  · rw [p, p'] at e
    simpa using e
theorem nmT_dbg (i : Nat) : (nmT i == ("__debug__" : Str)) = false := by
  rcases nmT_cases i with ⟨m, _⟩ | p
  · exact (nmsT_nz _ m).2.1
  · rw [p]
    refine beq_false_of_ne fun q => ?_
    have : (Str.cps ⟨#[0, i]⟩)[0]? = (Str.cps "__debug__")[0]? := by rw [q]
    have h : (Str.cps "__debug__")[0]? = some 95 := by decide +kernel
    rw [h] at this; simp at this
theorem nmT_cdc (i : Nat) : (nmT i == ("__classdict__" : Str)) = false := by
  rcases nmT_cases i with ⟨m, _⟩ | p
  · exact (nmsT_nz _ m).2.2
  · rw [p]
    refine beq_false_of_ne fun q => ?_
    have : (Str.cps ⟨#[0, i]⟩)[0]? = (Str.cps "__classdict__")[0]? := by rw [q]
    have h : (Str.cps "__classdict__")[0]? = some 95 := by decide +kernel
    rw [h] at this; simp at this

section
variable {G : Gd} {sc : Scope} {n : Nat}
theorem ExL.never {ps : List Stmt} : ExL G sc n ps (fun _ => Option.none) := fun _ _ _ _ _ _ _ _ _ _ _ _ _ q => nomatch q
theorem ExS.never {p : Stmt} : ExS G sc n p (fun _ => Option.none) := fun _ _ _ _ _ _ _ _ _ _ _ _ _ q => nomatch q
theorem Bud.less {n m : Nat} {A : Around} (h : n ≤ m) (b : Bud m A) : Bud n A := ⟨b.hh, by have := b.dp; lia, by have := b.un; lia⟩
theorem PureC.up {n m : Nat} {a : Addr} {kw : Bool} {F : List LV → Option PyData} (h : n ≤ m) (c : PureC G n a kw F) : PureC G m a kw F := fun A X s vs lvs r Q E b => c A X s vs lvs r Q E (b.less h)
theorem InsC.up {n m : Nat} {a : Addr} {F : List PyData → PyData → Option (List PyData)} (h : n ≤ m) (c : InsC G n a F) : InsC G m a F := fun A H l s vs xs ys vx p Q E b => c A H l s vs xs ys vx p Q E (b.less h)
end
end Mine
end

section
open PySem PySem.W PyProof.Rows PySem.Calls
namespace Mine
theorem swaps_true {elt : PySem.Expr} {gens : List Comprehension} {scope sc : Scope} {pos py : Pos} {z : Str} {line : Nat} {env : Env} (h : env.scope = sc) (hk : sc.kind = .function) (hz : sc.names.lookup z = some .local) (hl : (py.line == pos.line) = true)
    (hn : (scope.names.any fun p => p.1 == z && (p.2 == .local || p.2 == .cell)) = false) : swapsWith (.ListComp elt gens scope pos) (some (.Name z py)) line env = pure true := by
  show pure (env.blockKind == .function && env.kindOf z == some .local && py.line == pos.line && !(scope.names.any fun p => p.1 == z && (p.2 == .local || p.2 == .cell))) = _
  have h1 : (env.blockKind == .function) = true := by
    unfold Env.blockKind
    rw [h, hk]; rfl
  have h2 : (env.kindOf z == some NameKind.local) = true := by
    have : env.kindOf z = some .local := by rw [← hz, ← h]; rfl
    rw [this]; rfl
  rw [h1, h2, hl, hn]; rfl
theorem swaps_false {elt : PySem.Expr} {gens : List Comprehension} {scope sc : Scope} {pos py : Pos} {z : Str} {line : Nat} {env : Env} (h : env.scope = sc) (hz : sc.names.lookup z = some .cell) : swapsWith (.ListComp elt gens scope pos) (some (.Name z py)) line env = pure false := by
  show pure (env.blockKind == .function && env.kindOf z == some .local && py.line == pos.line && !(scope.names.any fun p => p.1 == z && (p.2 == .local || p.2 == .cell))) = _
  have h2 : (env.kindOf z == some NameKind.local) = false := by
    have : env.kindOf z = some .cell := by rw [← hz, ← h]; rfl
    rw [this]; rfl
  rw [h2]; simp
section
variable {G : Gd} {sc : Scope} {n : Nat}
noncomputable def tIs (f : St → Option LV) : St → Option Bool := fun st => (f st).map isN
theorem EvT.is {l : PySem.Expr} {k : Nat} {p pos : Pos} {f : St → Option LV} (hl : EvV G sc n l f) : EvT G sc n (.Compare l [.Is] [.Constant .none k p] pos) (tIs f) := fun A env H st s b Q E S e hQ => by
  unfold tIs at e
  refine byC fun CC hCC => ?_
  refine map_some (e) fun la hla ee => ?_
  subst ee
  refine hCC ?_
  clear hCC
  refine wpAny_isTrue_Compare1 (hl A env H st s la _ E S hla fun va h₁ t₁ x₁ ra => wpAny_Constant_none (is_none_gen ?_)) rfl
  refine wpAny_truthy_bool ?_
  rw [ra.isN]
  exact hQ h₁ _ x₁
theorem ns_nil : ∀ e' ∈ ([] : List PySem.Expr), NS e' := fun _ m => nomatch m
theorem ns_cons {e : PySem.Expr} {es : List PySem.Expr} (h : NS e) (hs : ∀ e' ∈ es, NS e') : ∀ e' ∈ e :: es, NS e' := fun e' m => by
  rcases List.mem_cons.mp m with rfl | m
  · exact h
  · exact hs e' m
end

noncomputable def nameAt (i : Nat) : Str := (fdAt i).1
noncomputable def initP (is : List Nat) (ls : List LV) : Option St := if ls.length = is.length then some (is.zip ls) else none
noncomputable def initB : List LV → Option St
  | [a, x] => some [(0, a), (6, x), (7, .d (.int 0)), (8, .d .none), (9, .d .none)]
  | [a, x, lo] => some [(0, a), (6, x), (7, lo), (8, .d .none), (9, .d .none)]
  | [a, x, lo, hi] => some [(0, a), (6, x), (7, lo), (8, hi), (9, .d .none)]
  | _ => none
noncomputable def initBK : List LV → Option St
  | [a, x] => some [(0, a), (6, x), (7, .d (.int 0)), (8, .d .none), (9, .fn)]
  | [a, x, lo, hi] => some [(0, a), (6, x), (7, lo), (8, hi), (9, .fn)]
  | _ => none
noncomputable def binders : List (Nat × List Nat) := [(1, [0, 1]), (2, [2]), (59, [11, 12]), (60, [13]), (62, [16, 17]), (63, [22, 23]), (64, [30, 23]), (65, [11, 30, 31]), (66, [35, 39]), (67, [41, 30, 31])]
set_option genInjectivity false in
structure LawG (G : Gd) where
  nm : G.nm = nmT
  adr : Nat → Addr
  fd : Nat → FuncData
  key : G.key = adr 60
  mgf : ∀ i ∈ [1, 2, 4, 6, 7, 8, 59, 60, 61, 62, 63, 64, 65, 66, 67], G.mg (nameAt i) = some (.ref (adr i)) ∧ (nameAt i == ("__debug__" : Str)) = false ∧ ∀ h, G.P h → ∃ o, h.get? (adr i) = some o ∧ ∃ f, o.data = .func f
  fn : ∀ i ∈ [1, 2, 6, 7, 8, 59, 60, 61, 62, 63, 64, 65, 66, 67], FnAt G (adr i) (fd i) (bodyAt i) ∧ (fd i).scope = scopeAt i
  bi : ∀ x ∈ ([("len", .builtin "len"), ("sum", .builtin "sum"), ("min", .builtin "min"), ("sorted", .builtin "sorted"), ("isinstance", .builtin "isinstance"), ("bool", .type "bool"), ("list", .type "list"), ("range", .type "range"), ("zip", .type "zip")] : List (Str × Value)), G.mg x.1 = none ∧ G.mb x.1 = some x.2 ∧ (x.1 == ("__debug__" : Str)) = false
  sys : ∀ h, G.P h → ∃ o, h.get? sysModules = some o
  td : Addr
  tab : List (Str × Int)
  tdm : G.mg "EXACT_TOKEN_TYPES" = some (.ref td)
  tdt : ∀ h, G.P h → TabAt (strKind G.prog G.w) PyData.str h td (tabS tab)
  bind : ∀ i is, (i, is) ∈ binders → BindOk G (fd i) false (initP is)
  bind7 : BindOk G (fd 7) false initB
  bind8 : BindOk G (fd 8) false initB
  bind7K : BindOk G (fd 7) true initBK
  bind8K : BindOk G (fd 8) true initBK
  ins : InsOk G (fd 6) 0 6 7 8 9
section
variable {G : Gd} {sc : Scope}
theorem LawG.fnOf (L : LawG G) {n lvl : Nat} {i : Nat} {kw : Bool} {init : List LV → Option St} {g : St → Option (Fl × St)} (hi : i ∈ [1, 2, 6, 7, 8, 59, 60, 61, 62, 63, 64, 65, 66, 67]) (hb : BindOk G (L.fd i) kw init) (hd : ExL G (scopeAt i) lvl (bodyAt i) g) (h : lvl + 1 ≤ n) : PureC G n (L.adr i) kw (fnOfBody init g) := by
  obtain ⟨a, b⟩ := L.fn i hi
  rw [← b] at hd
  exact (PureC.of a hb hd).up h
theorem LawG.atKey (L : LawG G) {n : Nat} {F : List LV → Option PyData} (c : PureC G n (L.adr 60) false F) : PureC G n G.key false F := by rw [L.key]; exact c
theorem LawG.keyFn (L : LawG G) : ∀ h, G.P h → ∃ o, h.get? G.key = some o ∧ ∃ fd, o.data = .func fd := by rw [L.key]; exact (L.mgf 60 (by decide)).2.2
theorem LawG.mgKey (L : LawG G) {x : Str} (h : nameAt 60 = x) : G.mg x = some (.ref G.key) := by rw [L.key, ← h]; exact (L.mgf 60 (by decide)).1
theorem LawG.nmi (L : LawG G) (i : Nat) : G.nm i = nmT i := by rw [L.nm]
theorem LawG.u (L : LawG G) (i : Nat) (hi : i ∈ [1, 2, 4, 6, 7, 8, 59, 60, 61, 62, 63, 64, 65, 66, 67]) {x : Str} (hx : nameAt i = x) (h : sc.names.lookup x = some .globalImplicit) : UName G sc x (L.adr i) := by
  subst hx
  obtain ⟨a, b, c⟩ := L.mgf i hi
  exact ⟨h, a, b, c⟩
theorem LawG.bn (L : LawG G) {x : Str} {v : Value} (hx : (x, v) ∈ ([("len", .builtin "len"), ("sum", .builtin "sum"), ("min", .builtin "min"), ("sorted", .builtin "sorted"), ("isinstance", .builtin "isinstance"), ("bool", .type "bool"), ("list", .type "list"), ("range", .type "range"), ("zip", .type "zip")] : List (Str × Value)))
    (h : sc.names.lookup x = some .globalImplicit) : BName G sc x v := by
  obtain ⟨a, b, c⟩ := L.bi (x, v) hx
  exact ⟨h, a, b, c⟩
theorem LawG.tn (L : LawG G) (h : sc.names.lookup ("EXACT_TOKEN_TYPES" : Str) = some .globalImplicit) : TName' G sc "EXACT_TOKEN_TYPES" L.td L.tab := ⟨h, L.tdm, by decide +kernel, L.tdt⟩
end
end Mine
end

section
open PySem PySem.W PyProof.Rows PySem.Calls
namespace Mine

noncomputable def g_coll : St → Option (Fl × St) := (sSeq (sRetV (e2 oSub (e2 oGt (eVar 0) (eVar 1)) (e2 oLt (eVar 0) (eVar 1)))) sNil)
theorem d_coll {G : Gd} (L : LawG G) : ExL G (scopeAt 1) 0 (bodyAt 1) (g_coll) := (ExL.cons (ExS.ret (EvV.binop (EvV.cmp (EvV.name (L.nmi 0)) (EvV.name (L.nmi 1)) op_gt rfl) (EvV.cmp (EvV.name (L.nmi 0)) (EvV.name (L.nmi 1)) op_lt rfl) op_sub)) ExL.nil)

noncomputable def f_coll : List LV → Option PyData := fnOfBody (initP [0, 1]) (g_coll)
theorem c_coll {G : Gd} (L : LawG G) {n : Nat} (h : 1 ≤ n) : PureC G n (L.adr 1) false (f_coll) := L.fnOf (by decide) (L.bind 1 _ (by simp [binders])) (d_coll L) h

noncomputable def g_xfrm : St → Option (Fl × St) := (sSeq (sRet (eVar 2)) sNil)
theorem d_xfrm {G : Gd} (L : LawG G) : ExL G (scopeAt 2) 0 (bodyAt 2) (g_xfrm) := (ExL.cons (ExS.retName (L.nmi 2)) ExL.nil)

noncomputable def f_xfrm : List LV → Option PyData := fnOfBody (initP [2]) (g_xfrm)
theorem c_xfrm {G : Gd} (L : LawG G) {n : Nat} (h : 1 ≤ n) : PureC G n (L.adr 2) false (f_xfrm) := L.fnOf (by decide) (L.bind 2 _ (by simp [binders])) (d_xfrm L) h

noncomputable def g_figure : St → Option (Fl × St) := (sSeq (sRetV (e2 oMod (e2 oFdiv' (eVar 11) (e2 oPow (eC (.int 10)) (eVar 12))) (eC (.int 10)))) sNil)
theorem d_figure {G : Gd} (L : LawG G) : ExL G (scopeAt 59) 0 (bodyAt 59) (g_figure) := (ExL.cons (ExS.ret (EvV.binop (EvV.binop (EvV.name (L.nmi 11)) (EvV.binop EvV.int (EvV.name (L.nmi 12)) op_pow) op_fdiv) EvV.int op_mod)) ExL.nil)

noncomputable def f_figure : List LV → Option PyData := fnOfBody (initP [11, 12]) (g_figure)
theorem c_figure {G : Gd} (L : LawG G) {n : Nat} (h : 1 ≤ n) : PureC G n (L.adr 59) false (f_figure) := L.fnOf (by decide) (L.bind 59 _ (by simp [binders])) (d_figure L) h

noncomputable def g_key : St → Option (Fl × St) := (sSeq (sRetV (eCall (f_xfrm) (lCons (eIdx (eVar 13) (eC (.int 1))) lNil))) sNil)
theorem d_key {G : Gd} (L : LawG G) : ExL G (scopeAt 60) 1 (bodyAt 60) (g_key) := (ExL.cons (ExS.ret (EvV.ucall (L.u 2 (by decide) (by kernel_rfl) (by kernel_rfl)) (ns_cons (fun _ _ => rfl) ns_nil) (EvL.cons (fun _ _ => rfl) (EvV.idx (EvV.name (L.nmi 13)) EvV.int (fun _ _ => rfl)) EvL.nil) (c_xfrm L (by decide)))) ExL.nil)

noncomputable def f_key : List LV → Option PyData := fnOfBody (initP [13]) (g_key)
theorem c_key {G : Gd} (L : LawG G) {n : Nat} (h : 2 ≤ n) : PureC G n (L.adr 60) false (f_key) := L.fnOf (by decide) (L.bind 60 _ (by simp [binders])) (d_key L) h

noncomputable def g_bright : St → Option (Fl × St) := (sSeq (sIf (tOf truth (e2 oLt (eVar 7) (eC (.int 0)))) (sSeq (fun _ => Option.none) sNil) sNil) (sSeq (sIf (tIs (eVar 8)) (sSeq (sAssign 8 (eN oLen (lCons (eVar 0) lNil))) sNil) sNil) (sSeq (sIf (tIs (eVar 9)) (sSeq (whGo (tOf truth (e2 oLt (eVar 7) (eVar 8))) (sSeq (sAssign 10 (e2 oFdiv' (e2 oAdd (eVar 7) (eVar 8)) (eC (.int 2)))) (sSeq (sIf (tOf truth (e2 oLt (eVar 6) (eIdx (eVar 0) (eVar 10)))) (sSeq (sAssign 8 (eVar 10)) sNil) (sSeq (sAssign 7 (e2 oAdd (eVar 10) (eC (.int 1)))) sNil)) sNil)) 100) sNil) (sSeq (whGo (tOf truth (e2 oLt (eVar 7) (eVar 8))) (sSeq (sAssign 10 (e2 oFdiv' (e2 oAdd (eVar 7) (eVar 8)) (eC (.int 2)))) (sSeq (sIf (tOf truth (e2 oLt (eVar 6) (eKCall 9 f_key (eIdx (eVar 0) (eVar 10))))) (sSeq (sAssign 8 (eVar 10)) sNil) (sSeq (sAssign 7 (e2 oAdd (eVar 10) (eC (.int 1)))) sNil)) sNil)) 100) sNil)) (sSeq (sRet (eVar 7)) sNil))))
theorem d_bright {G : Gd} (L : LawG G) : ExL G (scopeAt 7) 2 (bodyAt 7) (g_bright) := (ExL.cons (ExS.if (EvT.cmp (EvV.name (L.nmi 7)) EvV.int op_lt rfl) (ExL.cons ExS.never ExL.nil) ExL.nil) (ExL.cons (ExS.if (EvT.is (EvV.name (L.nmi 8))) (ExL.cons (ExS.assign (L.nmi 8) (.inl (by kernel_rfl)) (EvV.bcall (L.bn (v := .builtin "len") (by simp) (by kernel_rfl)) (ns_cons (fun _ _ => rfl) ns_nil) (EvL.cons (fun _ _ => rfl) (EvV.name (L.nmi 0)) EvL.nil) op_len) (fun _ _ => rfl)) ExL.nil) ExL.nil) (ExL.cons (ExS.if (EvT.is (EvV.name (L.nmi 9))) (ExL.cons (ExS.while 100 (EvT.cmp (EvV.name (L.nmi 7)) (EvV.name (L.nmi 8)) op_lt rfl) (ExL.cons (ExS.assign (L.nmi 10) (.inl (by kernel_rfl)) (EvV.binop (EvV.binop (EvV.name (L.nmi 7)) (EvV.name (L.nmi 8)) op_add) EvV.int op_fdiv) (fun _ _ => rfl)) (ExL.cons (ExS.if (EvT.cmp (EvV.name (L.nmi 6)) (EvV.idx (EvV.name (L.nmi 0)) (EvV.name (L.nmi 10)) (fun _ _ => rfl)) op_lt rfl) (ExL.cons (ExS.assign (L.nmi 8) (.inl (by kernel_rfl)) (EvV.name (L.nmi 10)) (fun _ _ => rfl)) ExL.nil) (ExL.cons (ExS.assign (L.nmi 7) (.inl (by kernel_rfl)) (EvV.binop (EvV.name (L.nmi 10)) EvV.int op_add) (fun _ _ => rfl)) ExL.nil)) ExL.nil))) ExL.nil) (ExL.cons (ExS.while 100 (EvT.cmp (EvV.name (L.nmi 7)) (EvV.name (L.nmi 8)) op_lt rfl) (ExL.cons (ExS.assign (L.nmi 10) (.inl (by kernel_rfl)) (EvV.binop (EvV.binop (EvV.name (L.nmi 7)) (EvV.name (L.nmi 8)) op_add) EvV.int op_fdiv) (fun _ _ => rfl)) (ExL.cons (ExS.if (EvT.cmp (EvV.name (L.nmi 6)) (EvV.kcall (L.nmi 9) L.keyFn (fun _ _ => rfl) (EvV.idx (EvV.name (L.nmi 0)) (EvV.name (L.nmi 10)) (fun _ _ => rfl)) (L.atKey (c_key L (by decide)))) op_lt rfl) (ExL.cons (ExS.assign (L.nmi 8) (.inl (by kernel_rfl)) (EvV.name (L.nmi 10)) (fun _ _ => rfl)) ExL.nil) (ExL.cons (ExS.assign (L.nmi 7) (.inl (by kernel_rfl)) (EvV.binop (EvV.name (L.nmi 10)) EvV.int op_add) (fun _ _ => rfl)) ExL.nil)) ExL.nil))) ExL.nil)) (ExL.cons (ExS.retName (L.nmi 7)) ExL.nil))))

noncomputable def f_bright : List LV → Option PyData := fnOfBody initB g_bright
noncomputable def f_brightK : List LV → Option PyData := fnOfBody initBK g_bright
theorem c_bright {G : Gd} (L : LawG G) {n : Nat} (h : 3 ≤ n) : PureC G n (L.adr 7) false f_bright := L.fnOf (by decide) L.bind7 (d_bright L) h
theorem c_brightK {G : Gd} (L : LawG G) {n : Nat} (h : 3 ≤ n) : PureC G n (L.adr 7) true f_brightK := L.fnOf (by decide) L.bind7K (d_bright L) h

noncomputable def g_bleft : St → Option (Fl × St) := (sSeq (sIf (tOf truth (e2 oLt (eVar 7) (eC (.int 0)))) (sSeq (fun _ => Option.none) sNil) sNil) (sSeq (sIf (tIs (eVar 8)) (sSeq (sAssign 8 (eN oLen (lCons (eVar 0) lNil))) sNil) sNil) (sSeq (sIf (tIs (eVar 9)) (sSeq (whGo (tOf truth (e2 oLt (eVar 7) (eVar 8))) (sSeq (sAssign 10 (e2 oFdiv' (e2 oAdd (eVar 7) (eVar 8)) (eC (.int 2)))) (sSeq (sIf (tOf truth (e2 oLt (eIdx (eVar 0) (eVar 10)) (eVar 6))) (sSeq (sAssign 7 (e2 oAdd (eVar 10) (eC (.int 1)))) sNil) (sSeq (sAssign 8 (eVar 10)) sNil)) sNil)) 100) sNil) (sSeq (whGo (tOf truth (e2 oLt (eVar 7) (eVar 8))) (sSeq (sAssign 10 (e2 oFdiv' (e2 oAdd (eVar 7) (eVar 8)) (eC (.int 2)))) (sSeq (sIf (tOf truth (e2 oLt (eKCall 9 f_key (eIdx (eVar 0) (eVar 10))) (eVar 6))) (sSeq (sAssign 7 (e2 oAdd (eVar 10) (eC (.int 1)))) sNil) (sSeq (sAssign 8 (eVar 10)) sNil)) sNil)) 100) sNil)) (sSeq (sRet (eVar 7)) sNil))))
theorem d_bleft {G : Gd} (L : LawG G) : ExL G (scopeAt 8) 2 (bodyAt 8) (g_bleft) := (ExL.cons (ExS.if (EvT.cmp (EvV.name (L.nmi 7)) EvV.int op_lt rfl) (ExL.cons ExS.never ExL.nil) ExL.nil) (ExL.cons (ExS.if (EvT.is (EvV.name (L.nmi 8))) (ExL.cons (ExS.assign (L.nmi 8) (.inl (by kernel_rfl)) (EvV.bcall (L.bn (v := .builtin "len") (by simp) (by kernel_rfl)) (ns_cons (fun _ _ => rfl) ns_nil) (EvL.cons (fun _ _ => rfl) (EvV.name (L.nmi 0)) EvL.nil) op_len) (fun _ _ => rfl)) ExL.nil) ExL.nil) (ExL.cons (ExS.if (EvT.is (EvV.name (L.nmi 9))) (ExL.cons (ExS.while 100 (EvT.cmp (EvV.name (L.nmi 7)) (EvV.name (L.nmi 8)) op_lt rfl) (ExL.cons (ExS.assign (L.nmi 10) (.inl (by kernel_rfl)) (EvV.binop (EvV.binop (EvV.name (L.nmi 7)) (EvV.name (L.nmi 8)) op_add) EvV.int op_fdiv) (fun _ _ => rfl)) (ExL.cons (ExS.if (EvT.cmp (EvV.idx (EvV.name (L.nmi 0)) (EvV.name (L.nmi 10)) (fun _ _ => rfl)) (EvV.name (L.nmi 6)) op_lt rfl) (ExL.cons (ExS.assign (L.nmi 7) (.inl (by kernel_rfl)) (EvV.binop (EvV.name (L.nmi 10)) EvV.int op_add) (fun _ _ => rfl)) ExL.nil) (ExL.cons (ExS.assign (L.nmi 8) (.inl (by kernel_rfl)) (EvV.name (L.nmi 10)) (fun _ _ => rfl)) ExL.nil)) ExL.nil))) ExL.nil) (ExL.cons (ExS.while 100 (EvT.cmp (EvV.name (L.nmi 7)) (EvV.name (L.nmi 8)) op_lt rfl) (ExL.cons (ExS.assign (L.nmi 10) (.inl (by kernel_rfl)) (EvV.binop (EvV.binop (EvV.name (L.nmi 7)) (EvV.name (L.nmi 8)) op_add) EvV.int op_fdiv) (fun _ _ => rfl)) (ExL.cons (ExS.if (EvT.cmp (EvV.kcall (L.nmi 9) L.keyFn (fun _ _ => rfl) (EvV.idx (EvV.name (L.nmi 0)) (EvV.name (L.nmi 10)) (fun _ _ => rfl)) (L.atKey (c_key L (by decide)))) (EvV.name (L.nmi 6)) op_lt rfl) (ExL.cons (ExS.assign (L.nmi 7) (.inl (by kernel_rfl)) (EvV.binop (EvV.name (L.nmi 10)) EvV.int op_add) (fun _ _ => rfl)) ExL.nil) (ExL.cons (ExS.assign (L.nmi 8) (.inl (by kernel_rfl)) (EvV.name (L.nmi 10)) (fun _ _ => rfl)) ExL.nil)) ExL.nil))) ExL.nil)) (ExL.cons (ExS.retName (L.nmi 7)) ExL.nil))))

noncomputable def f_bleft : List LV → Option PyData := fnOfBody initB g_bleft
noncomputable def f_bleftK : List LV → Option PyData := fnOfBody initBK g_bleft
theorem c_bleft {G : Gd} (L : LawG G) {n : Nat} (h : 3 ≤ n) : PureC G n (L.adr 8) false f_bleft := L.fnOf (by decide) L.bind8 (d_bleft L) h
theorem c_bleftK {G : Gd} (L : LawG G) {n : Nat} (h : 3 ≤ n) : PureC G n (L.adr 8) true f_bleftK := L.fnOf (by decide) L.bind8K (d_bleft L) h

noncomputable def t_ins : St → Option Bool := tIs (eVar 9)
noncomputable def c_ins : St → Option LV := (eCallK f_brightK (eVar 9) (lCons (eVar 0) (lCons (eKCall 9 f_key (eVar 6)) (lCons (eVar 7) (lCons (eVar 8) lNil)))))
noncomputable def m_ins : St → Option (LV × St) := mInsert 0 (eVar 7) (mV (eVar 6))
noncomputable def f_insort : List PyData → PyData → Option (List PyData) := insF 0 6 7 8 9 t_ins c_ins m_ins
theorem c_insort {G : Gd} (L : LawG G) {n : Nat} (h : 4 ≤ n) : InsC G n (L.adr 6) f_insort := by
  obtain ⟨a, b⟩ := L.fn 6 (by decide)
  refine (InsC.of (n := 3) (tf := t_ins) (fc := c_ins) (fm := m_ins) a L.ins (L.nmi 7) ?_ (by decide) ?_ ?_ ?_ (fun _ _ => rfl) (fun _ _ => rfl)).up h <;> rw [b]
  · exact .inl (by kernel_rfl)
  · exact EvT.is (EvV.name (L.nmi 9))
  · exact (EvV.ucallKN (L.u 7 (by decide) (by kernel_rfl) (by kernel_rfl)) (ns_cons (fun _ _ => rfl) (ns_cons (fun _ _ => rfl) (ns_cons (fun _ _ => rfl) (ns_cons (fun _ _ => rfl) ns_nil)))) (EvL.cons (fun _ _ => rfl) (EvV.name (L.nmi 0)) (EvL.cons (fun _ _ => rfl) (EvV.kcall (L.nmi 9) L.keyFn (fun _ _ => rfl) (EvV.name (L.nmi 6)) (L.atKey (c_key L (by decide)))) (EvL.cons (fun _ _ => rfl) (EvV.name (L.nmi 7)) (EvL.cons (fun _ _ => rfl) (EvV.name (L.nmi 8)) EvL.nil)))) (EvV.name (L.nmi 9)) (c_brightK L (by decide)))
  · exact EvM.insert (L.nmi 0) (fun _ _ => rfl) (fun _ _ => rfl) rfl (EvV.name (L.nmi 7)) (EvM.ofV (EvV.name (L.nmi 6)))

end Mine
end

section
open PySem PySem.W PyProof.Rows PySem.Calls
namespace Mine

noncomputable def g_choices : St → Option (Fl × St) := (sSeq (sAssignF 24 (eList (lCons (eC (.int 1)) lNil))) (sSeq (sFor 25 (iRange (lCons (eC (.int 1)) (lCons (e2 oAdd (eVar 23) (eC (.int 1))) lNil))) (sSeq (sExpr (mAppend 24 (mV (e2 oMul (eIdx (eVar 24) (e1 oNeg (eC (.int 1)))) (eVar 25))))) sNil)) (sSeq (sAssign 26 (eC (.int 0))) (sSeq (sFor 27 (iRange (lCons (e2 oPow (eC (.int 2)) (eN oLen (lCons (eVar 22) lNil))) lNil)) (sSeq (sAssign 28 (eIdx (eVar 24) (eVar 23))) (sSeq (sAssign 29 (eC (.int 0))) (sSeq (sFor 25 (iRange (lCons (eN oLen (lCons (eVar 22) lNil)) lNil)) (sSeq (sIf (tOf truth (e2 oEq (e2 oMod (e2 oFdiv' (eVar 27) (e2 oPow (eC (.int 2)) (eVar 25))) (eC (.int 2))) (eC (.int 1)))) (sSeq (sAug 28 oFdiv' (eIdx (eVar 24) (e2 oSub (eIdx (eVar 22) (eVar 25)) (eVar 29)))) (sSeq (sAssign 29 (eIdx (eVar 22) (eVar 25))) sNil)) (sSeq (sAssign 28 (e1 oNeg (eVar 28))) sNil)) sNil)) (sSeq (sAug 26 oIadd (e2 oFdiv' (eVar 28) (eIdx (eVar 24) (e2 oSub (eVar 23) (eVar 29))))) sNil))))) (sSeq (sRet (eVar 26)) sNil)))))
theorem d_choices {G : Gd} (L : LawG G) : ExL G (scopeAt 63) 0 (bodyAt 63) (g_choices) := (ExL.cons (ExS.assignF (L.nmi 24) (.inl (by kernel_rfl)) (EvF.list (EvL.cons (fun _ _ => rfl) EvV.int EvL.nil)) (fun _ _ => rfl)) (ExL.cons (ExS.for (L.nmi 25) (.inl (by kernel_rfl)) (EvI.range (L.bn (v := .type "range") (by simp) (by kernel_rfl)) (ns_cons (fun _ _ => rfl) (ns_cons (fun _ _ => rfl) ns_nil)) (EvL.cons (fun _ _ => rfl) EvV.int (EvL.cons (fun _ _ => rfl) (EvV.binop (EvV.name (L.nmi 23)) EvV.int op_add) EvL.nil))) (ExL.cons (ExS.expr (EvM.append (L.nmi 24) (fun _ _ => rfl) rfl (EvM.ofV (EvV.binop (EvV.idx (EvV.name (L.nmi 24)) (EvV.neg EvV.int) (fun _ _ => rfl)) (EvV.name (L.nmi 25)) op_mul))) (by kernel_rfl) (fun _ _ => rfl)) ExL.nil) (fun _ _ => rfl)) (ExL.cons (ExS.assign (L.nmi 26) (.inl (by kernel_rfl)) EvV.int (fun _ _ => rfl)) (ExL.cons (ExS.for (L.nmi 27) (.inl (by kernel_rfl)) (EvI.range (L.bn (v := .type "range") (by simp) (by kernel_rfl)) (ns_cons (fun _ _ => rfl) ns_nil) (EvL.cons (fun _ _ => rfl) (EvV.binop EvV.int (EvV.bcall (L.bn (v := .builtin "len") (by simp) (by kernel_rfl)) (ns_cons (fun _ _ => rfl) ns_nil) (EvL.cons (fun _ _ => rfl) (EvV.name (L.nmi 22)) EvL.nil) op_len) op_pow) EvL.nil)) (ExL.cons (ExS.assign (L.nmi 28) (.inl (by kernel_rfl)) (EvV.idx (EvV.name (L.nmi 24)) (EvV.name (L.nmi 23)) (fun _ _ => rfl)) (fun _ _ => rfl)) (ExL.cons (ExS.assign (L.nmi 29) (.inl (by kernel_rfl)) EvV.int (fun _ _ => rfl)) (ExL.cons (ExS.for (L.nmi 25) (.inl (by kernel_rfl)) (EvI.range (L.bn (v := .type "range") (by simp) (by kernel_rfl)) (ns_cons (fun _ _ => rfl) ns_nil) (EvL.cons (fun _ _ => rfl) (EvV.bcall (L.bn (v := .builtin "len") (by simp) (by kernel_rfl)) (ns_cons (fun _ _ => rfl) ns_nil) (EvL.cons (fun _ _ => rfl) (EvV.name (L.nmi 22)) EvL.nil) op_len) EvL.nil)) (ExL.cons (ExS.if (EvT.cmp (EvV.binop (EvV.binop (EvV.name (L.nmi 27)) (EvV.binop EvV.int (EvV.name (L.nmi 25)) op_pow) op_fdiv) EvV.int op_mod) EvV.int op_eq rfl) (ExL.cons (ExS.aug (L.nmi 28) (.inl (by kernel_rfl)) (EvV.idx (EvV.name (L.nmi 24)) (EvV.binop (EvV.idx (EvV.name (L.nmi 22)) (EvV.name (L.nmi 25)) (fun _ _ => rfl)) (EvV.name (L.nmi 29)) op_sub) (fun _ _ => rfl)) op_ifdiv) (ExL.cons (ExS.assign (L.nmi 29) (.inl (by kernel_rfl)) (EvV.idx (EvV.name (L.nmi 22)) (EvV.name (L.nmi 25)) (fun _ _ => rfl)) (fun _ _ => rfl)) ExL.nil)) (ExL.cons (ExS.assign (L.nmi 28) (.inl (by kernel_rfl)) (EvV.neg (EvV.name (L.nmi 28))) (fun _ _ => rfl)) ExL.nil)) ExL.nil) (fun _ _ => rfl)) (ExL.cons (ExS.aug (L.nmi 26) (.inl (by kernel_rfl)) (EvV.binop (EvV.name (L.nmi 28)) (EvV.idx (EvV.name (L.nmi 24)) (EvV.binop (EvV.name (L.nmi 23)) (EvV.name (L.nmi 29)) op_sub) (fun _ _ => rfl)) op_fdiv) op_iadd) ExL.nil)))) (fun _ _ => rfl)) (ExL.cons (ExS.retName (L.nmi 26)) ExL.nil)))))

noncomputable def f_choices : List LV → Option PyData := fnOfBody (initP [22, 23]) (g_choices)
theorem c_choices {G : Gd} (L : LawG G) {n : Nat} (h : 1 ≤ n) : PureC G n (L.adr 63) false (f_choices) := L.fnOf (by decide) (L.bind 63 _ (by simp [binders])) (d_choices L) h

noncomputable def g_ways : St → Option (Fl × St) := (sSeq (sAssignF 31 (eList (lCons (fzF (eRep (fzF (eList (lCons (eC (.int 1)) lNil))) (eVar 23))) lNil))) (sSeq (sFor 12 (iRange (lCons (e2 oSub (eVar 23) (eC (.int 1))) (lCons (eC (.int 0)) (lCons (e1 oNeg (eC (.int 1))) lNil)))) (sSeq (sAssign 32 (eIdx (eVar 31) (eC (.int 0)))) (sSeq (sIf (tOf truth (e2 oIn (eVar 12) (eVar 30))) (sSeq (sAssignC 33 (eComp 34 [32] (iRange (lCons (eVar 12) lNil)) tTrue (eN oSum (lCons (fzF (eSlice (eVar 32) pNone (pSome (e2 oAdd (eVar 34) (eC (.int 1)))) pNone)) lNil)))) sNil) (sSeq (sAssignC 33 (eComp 34 [32] (iRange (lCons (eVar 12) lNil)) tTrue (eN oSum (lCons (fzF (eSlice (eVar 32) (pSome (e2 oAdd (eVar 34) (eC (.int 1)))) pNone pNone)) lNil)))) sNil)) (sSeq (sExpr (mInsert 31 (eC (.int 0)) (mV (eVar 33)))) sNil)))) (sSeq (sRet (eVar 31)) sNil)))
theorem d_ways {G : Gd} (L : LawG G) : ExL G (scopeAt 64) 0 (bodyAt 64) (g_ways) := (ExL.cons (ExS.assignF (L.nmi 31) (.inl (by kernel_rfl)) (EvF.list (EvL.cons (fun _ _ => rfl) (EvF.toV (EvF.rep (EvF.toV (EvF.list (EvL.cons (fun _ _ => rfl) EvV.int EvL.nil))) (EvV.name (L.nmi 23)))) EvL.nil)) (fun _ _ => rfl)) (ExL.cons (ExS.for (L.nmi 12) (.inl (by kernel_rfl)) (EvI.range (L.bn (v := .type "range") (by simp) (by kernel_rfl)) (ns_cons (fun _ _ => rfl) (ns_cons (fun _ _ => rfl) (ns_cons (fun _ _ => rfl) ns_nil))) (EvL.cons (fun _ _ => rfl) (EvV.binop (EvV.name (L.nmi 23)) EvV.int op_sub) (EvL.cons (fun _ _ => rfl) EvV.int (EvL.cons (fun _ _ => rfl) (EvV.neg EvV.int) EvL.nil)))) (ExL.cons (ExS.assign (L.nmi 32) (.inr (by kernel_rfl)) (EvV.idx (EvV.name (L.nmi 31)) EvV.int (fun _ _ => rfl)) (fun _ _ => rfl)) (ExL.cons (ExS.if (EvT.cmp (EvV.name (L.nmi 12)) (EvV.name (L.nmi 30)) op_in rfl) (ExL.cons (ExS.assignC (L.nmi 33) (.inl (by kernel_rfl)) ⟨L.nmi 34, (by kernel_rfl), (by decide +kernel), (by decide +kernel), (by kernel_rfl), (by decide +kernel), (by intro i hi; rw [L.nm]; revert i; decide +kernel)⟩ (EvI.range (L.bn (v := .type "range") (by simp) (by kernel_rfl)) (ns_cons (fun _ _ => rfl) ns_nil) (EvL.cons (fun _ _ => rfl) (EvV.name (L.nmi 12)) EvL.nil)) EvIfs.nil (EvV.bcall (L.bn (v := .builtin "sum") (by simp) (by kernel_rfl)) (ns_cons (fun _ _ => rfl) ns_nil) (EvL.cons (fun _ _ => rfl) (EvF.toV (EvF.slice (EvV.name (L.nmi 32)) EvP.none (EvP.some (EvV.binop (EvV.name (L.nmi 34)) EvV.int op_add)) EvP.none)) EvL.nil) op_sum) (fun _ _ => rfl) (fun _ h => swaps_true h (by kernel_rfl) (by kernel_rfl) (by kernel_rfl) (by kernel_rfl))) ExL.nil) (ExL.cons (ExS.assignC (L.nmi 33) (.inl (by kernel_rfl)) ⟨L.nmi 34, (by kernel_rfl), (by decide +kernel), (by decide +kernel), (by kernel_rfl), (by decide +kernel), (by intro i hi; rw [L.nm]; revert i; decide +kernel)⟩ (EvI.range (L.bn (v := .type "range") (by simp) (by kernel_rfl)) (ns_cons (fun _ _ => rfl) ns_nil) (EvL.cons (fun _ _ => rfl) (EvV.name (L.nmi 12)) EvL.nil)) EvIfs.nil (EvV.bcall (L.bn (v := .builtin "sum") (by simp) (by kernel_rfl)) (ns_cons (fun _ _ => rfl) ns_nil) (EvL.cons (fun _ _ => rfl) (EvF.toV (EvF.slice (EvV.name (L.nmi 32)) (EvP.some (EvV.binop (EvV.name (L.nmi 34)) EvV.int op_add)) EvP.none EvP.none)) EvL.nil) op_sum) (fun _ _ => rfl) (fun _ h => swaps_true h (by kernel_rfl) (by kernel_rfl) (by kernel_rfl) (by kernel_rfl))) ExL.nil)) (ExL.cons (ExS.expr (EvM.insert (L.nmi 31) (fun _ _ => rfl) (fun _ _ => rfl) rfl EvV.int (EvM.ofV (EvV.name (L.nmi 33)))) (by kernel_rfl) (fun _ _ => rfl)) ExL.nil))) (fun _ _ => rfl)) (ExL.cons (ExS.retName (L.nmi 31)) ExL.nil)))

noncomputable def f_ways : List LV → Option PyData := fnOfBody (initP [30, 23]) (g_ways)
theorem c_ways {G : Gd} (L : LawG G) {n : Nat} (h : 1 ≤ n) : PureC G n (L.adr 64) false (f_ways) := L.fnOf (by decide) (L.bind 64 _ (by simp [binders])) (d_ways L) h

noncomputable def g_ranks : St → Option (Fl × St) := (sSeq (sAssignF 35 (eList (lCons (eC (.int 0)) lNil))) (sSeq (sFor 12 (iRange (lCons (eC (.int 1)) (lCons (eN oLen (lCons (eVar 31) lNil)) lNil))) (sSeq (sAssign 57 (eIf (tOf truth (e2 oIn (eVar 12) (eVar 30))) (eC (.int 0)) (e2 oAdd (eIdx (eVar 35) (e1 oNeg (eC (.int 1)))) (eC (.int 1))))) (sSeq (sAssign 58 (eIf (tOf truth (e2 oIn (eVar 12) (eVar 30))) (e2 oAdd (eIdx (eVar 35) (e1 oNeg (eC (.int 1)))) (eC (.int 1))) (e2 oAdd (eVar 12) (eC (.int 1))))) (sSeq (sAssignC 36 (eComp 25 [31, 12] (iRange (lCons (e2 oAdd (eVar 12) (eC (.int 1))) lNil)) tTrue (eN oSum (lCons (fzF (eSlice (eIdx (eVar 31) (eVar 12)) pNone (pSome (e2 oAdd (eVar 25) (eC (.int 1)))) pNone)) lNil)))) (sSeq (sAssignC 37 (eComp 25 [31, 12, 57, 58] (iRange (lCons (e2 oAdd (eVar 12) (eC (.int 1))) lNil)) tTrue (eN oSum (lCons (fzF (eSlice (eIdx (eVar 31) (eVar 12)) (pSome (eVar 57)) (pSome (eN oMin (lCons (e2 oAdd (eVar 25) (eC (.int 1))) (lCons (eVar 58) lNil)))) pNone)) lNil)))) (sSeq (sIf (tOf truth (e2 oNe (fzF (eList (lCons (eCall (f_bright) (lCons (eVar 37) (lCons (eC (.int 0)) lNil))) (lCons (eCall (f_bleft) (lCons (eVar 37) (lCons (eIdx (eVar 37) (e1 oNeg (eC (.int 1)))) lNil))) lNil)))) (fzF (eList (lCons (eVar 57) (lCons (e2 oSub (eVar 58) (eC (.int 1))) lNil)))))) (sSeq (sRetV (eC .none)) sNil) sNil) (sSeq (sAug 11 oIadd (eN oSum (lCons (fzF (eSlice (eIdx (eVar 31) (eVar 12)) pNone (pSome (eVar 57)) pNone)) lNil))) (sSeq (sAssign 34 (eCall (f_bright) (lCons (eVar 36) (lCons (eVar 11) (lCons (eVar 57) (lCons (eVar 58) lNil)))))) (sSeq (sIf (tOf truth (e2 oEq (eVar 34) (eVar 58))) (sSeq (sRetV (fzF (eList lNil))) sNil) sNil) (sSeq (sIf (tOf truth (e2 oNe (eCall (f_bleft) (lCons (eVar 36) (lCons (e2 oAdd (eVar 11) (eC (.int 1))) (lCons (eVar 57) (lCons (eVar 58) lNil))))) (eVar 34))) (sSeq (sRetV (eC .none)) sNil) sNil) (sSeq (sIf (tOf truth (e2 oNe (fzF (eList (lCons (eCall (f_bleft) (lCons (eVar 36) (lCons (eC (.int 0)) (lCons (eVar 34) lNil)))) (lCons (eCall (f_bright) (lCons (eVar 36) (lCons (eC (.int 0)) (lCons (eVar 34) lNil)))) lNil)))) (fzF (eList (lCons (eVar 34) (lCons (eVar 34) lNil)))))) (sSeq (sRetV (eC .none)) sNil) sNil) (sSeq (sAssign 38 (e2 oAdd (eIdx (eVar 36) (e1 oNeg (eC (.int 1)))) (eC (.int 1)))) (sSeq (sIf (tOf truth (e2 oNe (fzF (eList (lCons (eCall (f_bleft) (lCons (eVar 36) (lCons (eVar 38) (lCons (eC (.int 0)) (lCons (eVar 34) lNil))))) (lCons (eCall (f_bright) (lCons (eVar 36) (lCons (eVar 38) (lCons (eC (.int 0)) (lCons (eVar 34) lNil))))) lNil)))) (fzF (eList (lCons (eVar 34) (lCons (eVar 34) lNil)))))) (sSeq (sRetV (eC .none)) sNil) sNil) (sSeq (sAug 11 oSub (eN oSum (lCons (fzF (eSlice (eIdx (eVar 31) (eVar 12)) pNone (pSome (eVar 34)) pNone)) lNil))) (sSeq (sExpr (mAppend 35 (mV (eVar 34)))) sNil))))))))))))))) (sSeq (sRet (eVar 35)) sNil)))
theorem d_ranks {G : Gd} (L : LawG G) : ExL G (scopeAt 65) 3 (bodyAt 65) (g_ranks) := (ExL.cons (ExS.assignF (L.nmi 35) (.inl (by kernel_rfl)) (EvF.list (EvL.cons (fun _ _ => rfl) EvV.int EvL.nil)) (fun _ _ => rfl)) (ExL.cons (ExS.for (L.nmi 12) (.inr (by kernel_rfl)) (EvI.range (L.bn (v := .type "range") (by simp) (by kernel_rfl)) (ns_cons (fun _ _ => rfl) (ns_cons (fun _ _ => rfl) ns_nil)) (EvL.cons (fun _ _ => rfl) EvV.int (EvL.cons (fun _ _ => rfl) (EvV.bcall (L.bn (v := .builtin "len") (by simp) (by kernel_rfl)) (ns_cons (fun _ _ => rfl) ns_nil) (EvL.cons (fun _ _ => rfl) (EvV.name (L.nmi 31)) EvL.nil) op_len) EvL.nil))) (ExL.cons (ExS.assign (L.nmi 57) (.inr (by kernel_rfl)) (EvV.ite (EvT.cmp (EvV.name (L.nmi 12)) (EvV.name (L.nmi 30)) op_in rfl) EvV.int (EvV.binop (EvV.idx (EvV.name (L.nmi 35)) (EvV.neg EvV.int) (fun _ _ => rfl)) EvV.int op_add)) (fun _ _ => rfl)) (ExL.cons (ExS.assign (L.nmi 58) (.inr (by kernel_rfl)) (EvV.ite (EvT.cmp (EvV.name (L.nmi 12)) (EvV.name (L.nmi 30)) op_in rfl) (EvV.binop (EvV.idx (EvV.name (L.nmi 35)) (EvV.neg EvV.int) (fun _ _ => rfl)) EvV.int op_add) (EvV.binop (EvV.name (L.nmi 12)) EvV.int op_add)) (fun _ _ => rfl)) (ExL.cons (ExS.assignC (L.nmi 36) (.inl (by kernel_rfl)) ⟨L.nmi 25, (by kernel_rfl), (by decide +kernel), (by decide +kernel), (by kernel_rfl), (by decide +kernel), (by intro i hi; rw [L.nm]; revert i; decide +kernel)⟩ (EvI.range (L.bn (v := .type "range") (by simp) (by kernel_rfl)) (ns_cons (fun _ _ => rfl) ns_nil) (EvL.cons (fun _ _ => rfl) (EvV.binop (EvV.name (L.nmi 12)) EvV.int op_add) EvL.nil)) EvIfs.nil (EvV.bcall (L.bn (v := .builtin "sum") (by simp) (by kernel_rfl)) (ns_cons (fun _ _ => rfl) ns_nil) (EvL.cons (fun _ _ => rfl) (EvF.toV (EvF.slice (EvV.idx (EvV.name (L.nmi 31)) (EvV.name (L.nmi 12)) (fun _ _ => rfl)) EvP.none (EvP.some (EvV.binop (EvV.name (L.nmi 25)) EvV.int op_add)) EvP.none)) EvL.nil) op_sum) (fun _ _ => rfl) (fun _ h => swaps_true h (by kernel_rfl) (by kernel_rfl) (by kernel_rfl) (by kernel_rfl))) (ExL.cons (ExS.assignC (L.nmi 37) (.inl (by kernel_rfl)) ⟨L.nmi 25, (by kernel_rfl), (by decide +kernel), (by decide +kernel), (by kernel_rfl), (by decide +kernel), (by intro i hi; rw [L.nm]; revert i; decide +kernel)⟩ (EvI.range (L.bn (v := .type "range") (by simp) (by kernel_rfl)) (ns_cons (fun _ _ => rfl) ns_nil) (EvL.cons (fun _ _ => rfl) (EvV.binop (EvV.name (L.nmi 12)) EvV.int op_add) EvL.nil)) EvIfs.nil (EvV.bcall (L.bn (v := .builtin "sum") (by simp) (by kernel_rfl)) (ns_cons (fun _ _ => rfl) ns_nil) (EvL.cons (fun _ _ => rfl) (EvF.toV (EvF.slice (EvV.idx (EvV.name (L.nmi 31)) (EvV.name (L.nmi 12)) (fun _ _ => rfl)) (EvP.some (EvV.name (L.nmi 57))) (EvP.some (EvV.bcall (L.bn (v := .builtin "min") (by simp) (by kernel_rfl)) (ns_cons (fun _ _ => rfl) (ns_cons (fun _ _ => rfl) ns_nil)) (EvL.cons (fun _ _ => rfl) (EvV.binop (EvV.name (L.nmi 25)) EvV.int op_add) (EvL.cons (fun _ _ => rfl) (EvV.name (L.nmi 58)) EvL.nil)) op_min)) EvP.none)) EvL.nil) op_sum) (fun _ _ => rfl) (fun _ h => swaps_true h (by kernel_rfl) (by kernel_rfl) (by kernel_rfl) (by kernel_rfl))) (ExL.cons (ExS.if (EvT.cmp (EvF.toV (EvF.list (EvL.cons (fun _ _ => rfl) (EvV.ucall (L.u 7 (by decide) (by kernel_rfl) (by kernel_rfl)) (ns_cons (fun _ _ => rfl) (ns_cons (fun _ _ => rfl) ns_nil)) (EvL.cons (fun _ _ => rfl) (EvV.name (L.nmi 37)) (EvL.cons (fun _ _ => rfl) EvV.int EvL.nil)) (c_bright L (by decide))) (EvL.cons (fun _ _ => rfl) (EvV.ucall (L.u 8 (by decide) (by kernel_rfl) (by kernel_rfl)) (ns_cons (fun _ _ => rfl) (ns_cons (fun _ _ => rfl) ns_nil)) (EvL.cons (fun _ _ => rfl) (EvV.name (L.nmi 37)) (EvL.cons (fun _ _ => rfl) (EvV.idx (EvV.name (L.nmi 37)) (EvV.neg EvV.int) (fun _ _ => rfl)) EvL.nil)) (c_bleft L (by decide))) EvL.nil)))) (EvF.toV (EvF.list (EvL.cons (fun _ _ => rfl) (EvV.name (L.nmi 57)) (EvL.cons (fun _ _ => rfl) (EvV.binop (EvV.name (L.nmi 58)) EvV.int op_sub) EvL.nil)))) op_ne rfl) (ExL.cons (ExS.ret EvV.none) ExL.nil) ExL.nil) (ExL.cons (ExS.aug (L.nmi 11) (.inl (by kernel_rfl)) (EvV.bcall (L.bn (v := .builtin "sum") (by simp) (by kernel_rfl)) (ns_cons (fun _ _ => rfl) ns_nil) (EvL.cons (fun _ _ => rfl) (EvF.toV (EvF.slice (EvV.idx (EvV.name (L.nmi 31)) (EvV.name (L.nmi 12)) (fun _ _ => rfl)) EvP.none (EvP.some (EvV.name (L.nmi 57))) EvP.none)) EvL.nil) op_sum) op_iadd) (ExL.cons (ExS.assign (L.nmi 34) (.inl (by kernel_rfl)) (EvV.ucall (L.u 7 (by decide) (by kernel_rfl) (by kernel_rfl)) (ns_cons (fun _ _ => rfl) (ns_cons (fun _ _ => rfl) (ns_cons (fun _ _ => rfl) (ns_cons (fun _ _ => rfl) ns_nil)))) (EvL.cons (fun _ _ => rfl) (EvV.name (L.nmi 36)) (EvL.cons (fun _ _ => rfl) (EvV.name (L.nmi 11)) (EvL.cons (fun _ _ => rfl) (EvV.name (L.nmi 57)) (EvL.cons (fun _ _ => rfl) (EvV.name (L.nmi 58)) EvL.nil)))) (c_bright L (by decide))) (fun _ _ => rfl)) (ExL.cons (ExS.if (EvT.cmp (EvV.name (L.nmi 34)) (EvV.name (L.nmi 58)) op_eq rfl) (ExL.cons (ExS.ret (EvF.toV (EvF.list EvL.nil))) ExL.nil) ExL.nil) (ExL.cons (ExS.if (EvT.cmp (EvV.ucall (L.u 8 (by decide) (by kernel_rfl) (by kernel_rfl)) (ns_cons (fun _ _ => rfl) (ns_cons (fun _ _ => rfl) (ns_cons (fun _ _ => rfl) (ns_cons (fun _ _ => rfl) ns_nil)))) (EvL.cons (fun _ _ => rfl) (EvV.name (L.nmi 36)) (EvL.cons (fun _ _ => rfl) (EvV.binop (EvV.name (L.nmi 11)) EvV.int op_add) (EvL.cons (fun _ _ => rfl) (EvV.name (L.nmi 57)) (EvL.cons (fun _ _ => rfl) (EvV.name (L.nmi 58)) EvL.nil)))) (c_bleft L (by decide))) (EvV.name (L.nmi 34)) op_ne rfl) (ExL.cons (ExS.ret EvV.none) ExL.nil) ExL.nil) (ExL.cons (ExS.if (EvT.cmp (EvF.toV (EvF.list (EvL.cons (fun _ _ => rfl) (EvV.ucall (L.u 8 (by decide) (by kernel_rfl) (by kernel_rfl)) (ns_cons (fun _ _ => rfl) (ns_cons (fun _ _ => rfl) (ns_cons (fun _ _ => rfl) ns_nil))) (EvL.cons (fun _ _ => rfl) (EvV.name (L.nmi 36)) (EvL.cons (fun _ _ => rfl) EvV.int (EvL.cons (fun _ _ => rfl) (EvV.name (L.nmi 34)) EvL.nil))) (c_bleft L (by decide))) (EvL.cons (fun _ _ => rfl) (EvV.ucall (L.u 7 (by decide) (by kernel_rfl) (by kernel_rfl)) (ns_cons (fun _ _ => rfl) (ns_cons (fun _ _ => rfl) (ns_cons (fun _ _ => rfl) ns_nil))) (EvL.cons (fun _ _ => rfl) (EvV.name (L.nmi 36)) (EvL.cons (fun _ _ => rfl) EvV.int (EvL.cons (fun _ _ => rfl) (EvV.name (L.nmi 34)) EvL.nil))) (c_bright L (by decide))) EvL.nil)))) (EvF.toV (EvF.list (EvL.cons (fun _ _ => rfl) (EvV.name (L.nmi 34)) (EvL.cons (fun _ _ => rfl) (EvV.name (L.nmi 34)) EvL.nil)))) op_ne rfl) (ExL.cons (ExS.ret EvV.none) ExL.nil) ExL.nil) (ExL.cons (ExS.assign (L.nmi 38) (.inl (by kernel_rfl)) (EvV.binop (EvV.idx (EvV.name (L.nmi 36)) (EvV.neg EvV.int) (fun _ _ => rfl)) EvV.int op_add) (fun _ _ => rfl)) (ExL.cons (ExS.if (EvT.cmp (EvF.toV (EvF.list (EvL.cons (fun _ _ => rfl) (EvV.ucall (L.u 8 (by decide) (by kernel_rfl) (by kernel_rfl)) (ns_cons (fun _ _ => rfl) (ns_cons (fun _ _ => rfl) (ns_cons (fun _ _ => rfl) (ns_cons (fun _ _ => rfl) ns_nil)))) (EvL.cons (fun _ _ => rfl) (EvV.name (L.nmi 36)) (EvL.cons (fun _ _ => rfl) (EvV.name (L.nmi 38)) (EvL.cons (fun _ _ => rfl) EvV.int (EvL.cons (fun _ _ => rfl) (EvV.name (L.nmi 34)) EvL.nil)))) (c_bleft L (by decide))) (EvL.cons (fun _ _ => rfl) (EvV.ucall (L.u 7 (by decide) (by kernel_rfl) (by kernel_rfl)) (ns_cons (fun _ _ => rfl) (ns_cons (fun _ _ => rfl) (ns_cons (fun _ _ => rfl) (ns_cons (fun _ _ => rfl) ns_nil)))) (EvL.cons (fun _ _ => rfl) (EvV.name (L.nmi 36)) (EvL.cons (fun _ _ => rfl) (EvV.name (L.nmi 38)) (EvL.cons (fun _ _ => rfl) EvV.int (EvL.cons (fun _ _ => rfl) (EvV.name (L.nmi 34)) EvL.nil)))) (c_bright L (by decide))) EvL.nil)))) (EvF.toV (EvF.list (EvL.cons (fun _ _ => rfl) (EvV.name (L.nmi 34)) (EvL.cons (fun _ _ => rfl) (EvV.name (L.nmi 34)) EvL.nil)))) op_ne rfl) (ExL.cons (ExS.ret EvV.none) ExL.nil) ExL.nil) (ExL.cons (ExS.aug (L.nmi 11) (.inl (by kernel_rfl)) (EvV.bcall (L.bn (v := .builtin "sum") (by simp) (by kernel_rfl)) (ns_cons (fun _ _ => rfl) ns_nil) (EvL.cons (fun _ _ => rfl) (EvF.toV (EvF.slice (EvV.idx (EvV.name (L.nmi 31)) (EvV.name (L.nmi 12)) (fun _ _ => rfl)) EvP.none (EvP.some (EvV.name (L.nmi 34))) EvP.none)) EvL.nil) op_sum) op_isub) (ExL.cons (ExS.expr (EvM.append (L.nmi 35) (fun _ _ => rfl) rfl (EvM.ofV (EvV.name (L.nmi 34)))) (by kernel_rfl) (fun _ _ => rfl)) ExL.nil)))))))))))))) (fun _ _ => rfl)) (ExL.cons (ExS.retName (L.nmi 35)) ExL.nil)))

noncomputable def f_ranks : List LV → Option PyData := fnOfBody (initP [11, 30, 31]) (g_ranks)
theorem c_ranks {G : Gd} (L : LawG G) {n : Nat} (h : 4 ≤ n) : PureC G n (L.adr 65) false (f_ranks) := L.fnOf (by decide) (L.bind 65 _ (by simp [binders])) (d_ranks L) h

noncomputable def g_order : St → Option (Fl × St) := (sSeq (sAssignF 40 (eListOf (eVar 39))) (sSeq (sAssignF 41 (eList lNil)) (sSeq (sFor 34 (iLst (fzF (eSlice (eVar 35) pNone pNone (pSome (e1 oNeg (eC (.int 1))))))) (sSeq (sExpr (mInsert 41 (eC (.int 0)) (mPop 40 (eVar 34)))) sNil)) (sSeq (sRet (eVar 41)) sNil))))
theorem d_order {G : Gd} (L : LawG G) : ExL G (scopeAt 66) 0 (bodyAt 66) (g_order) := (ExL.cons (ExS.assignF (L.nmi 40) (.inl (by kernel_rfl)) (EvF.listOf (L.bn (v := .type "list") (by simp) (by kernel_rfl)) (fun _ _ => rfl) (EvV.name (L.nmi 39))) (fun _ _ => rfl)) (ExL.cons (ExS.assignF (L.nmi 41) (.inl (by kernel_rfl)) (EvF.list EvL.nil) (fun _ _ => rfl)) (ExL.cons (ExS.for (L.nmi 34) (.inl (by kernel_rfl)) (EvI.list (EvF.toV (EvF.slice (EvV.name (L.nmi 35)) EvP.none EvP.none (EvP.some (EvV.neg EvV.int))))) (ExL.cons (ExS.expr (EvM.insert (L.nmi 41) (fun _ _ => rfl) (fun _ _ => rfl) rfl EvV.int (EvM.pop (L.nmi 40) (fun _ _ => rfl) rfl (EvV.name (L.nmi 34)))) (by kernel_rfl) (fun _ _ => rfl)) ExL.nil) (fun _ _ => rfl)) (ExL.cons (ExS.retName (L.nmi 41)) ExL.nil))))

noncomputable def f_order : List LV → Option PyData := fnOfBody (initP [35, 39]) (g_order)
theorem c_order {G : Gd} (L : LawG G) {n : Nat} (h : 1 ≤ n) : PureC G n (L.adr 66) false (f_order) := L.fnOf (by decide) (L.bind 66 _ (by simp [binders])) (d_order L) h

noncomputable def g_back : St → Option (Fl × St) := (sSeq (sAssignF 42 (eList lNil)) (sSeq (sAssign 11 (eC (.int 0))) (sSeq (sAssign 29 (eC (.int 0))) (sSeq (sFor 12 (iRange (lCons (eN oLen (lCons (eVar 41) lNil)) lNil)) (sSeq (sAssign 34 (eCallK f_bleftK eFn (lCons (eVar 42) (lCons (eCall (f_key) (lCons (eIdx (eVar 41) (eVar 12)) lNil)) lNil)))) (sSeq (sIf (tOf truth (e2 oIn (eVar 12) (eVar 30))) (sSeq (sAug 11 oIadd (eN oSum (lCons (fzF (eSlice (eIdx (eVar 31) (eVar 12)) pNone (pSome (eVar 34)) pNone)) lNil))) sNil) (sSeq (sIf (tOf truth (e2 oGt (eVar 12) (eC (.int 0)))) (sSeq (sAug 11 oIadd (eN oSum (lCons (fzF (eSlice (eIdx (eVar 31) (eVar 12)) (pSome (e2 oAdd (eVar 29) (eC (.int 1)))) (pSome (eVar 34)) pNone)) lNil))) sNil) sNil) sNil)) (sSeq (sExpr (mInsort 42 f_insort (eIdx (eVar 41) (eVar 12)))) (sSeq (sAssign 29 (eVar 34)) sNil))))) (sSeq (sRet (eVar 11)) sNil)))))
theorem d_back {G : Gd} (L : LawG G) : ExL G (scopeAt 67) 4 (bodyAt 67) (g_back) := (ExL.cons (ExS.assignF (L.nmi 42) (.inl (by kernel_rfl)) (EvF.list EvL.nil) (fun _ _ => rfl)) (ExL.cons (ExS.assign (L.nmi 11) (.inl (by kernel_rfl)) EvV.int (fun _ _ => rfl)) (ExL.cons (ExS.assign (L.nmi 29) (.inl (by kernel_rfl)) EvV.int (fun _ _ => rfl)) (ExL.cons (ExS.for (L.nmi 12) (.inl (by kernel_rfl)) (EvI.range (L.bn (v := .type "range") (by simp) (by kernel_rfl)) (ns_cons (fun _ _ => rfl) ns_nil) (EvL.cons (fun _ _ => rfl) (EvV.bcall (L.bn (v := .builtin "len") (by simp) (by kernel_rfl)) (ns_cons (fun _ _ => rfl) ns_nil) (EvL.cons (fun _ _ => rfl) (EvV.name (L.nmi 41)) EvL.nil) op_len) EvL.nil)) (ExL.cons (ExS.assign (L.nmi 34) (.inl (by kernel_rfl)) (EvV.ucallKN (L.u 8 (by decide) (by kernel_rfl) (by kernel_rfl)) (ns_cons (fun _ _ => rfl) (ns_cons (fun _ _ => rfl) ns_nil)) (EvL.cons (fun _ _ => rfl) (EvV.name (L.nmi 42)) (EvL.cons (fun _ _ => rfl) (EvV.ucall (L.u 60 (by decide) (by kernel_rfl) (by kernel_rfl)) (ns_cons (fun _ _ => rfl) ns_nil) (EvL.cons (fun _ _ => rfl) (EvV.idx (EvV.name (L.nmi 41)) (EvV.name (L.nmi 12)) (fun _ _ => rfl)) EvL.nil) (c_key L (by decide))) EvL.nil)) (EvV.fnName (by kernel_rfl) (L.mgKey (by kernel_rfl)) (by kernel_rfl)) (c_bleftK L (by decide))) (fun _ _ => rfl)) (ExL.cons (ExS.if (EvT.cmp (EvV.name (L.nmi 12)) (EvV.name (L.nmi 30)) op_in rfl) (ExL.cons (ExS.aug (L.nmi 11) (.inl (by kernel_rfl)) (EvV.bcall (L.bn (v := .builtin "sum") (by simp) (by kernel_rfl)) (ns_cons (fun _ _ => rfl) ns_nil) (EvL.cons (fun _ _ => rfl) (EvF.toV (EvF.slice (EvV.idx (EvV.name (L.nmi 31)) (EvV.name (L.nmi 12)) (fun _ _ => rfl)) EvP.none (EvP.some (EvV.name (L.nmi 34))) EvP.none)) EvL.nil) op_sum) op_iadd) ExL.nil) (ExL.cons (ExS.if (EvT.cmp (EvV.name (L.nmi 12)) EvV.int op_gt rfl) (ExL.cons (ExS.aug (L.nmi 11) (.inl (by kernel_rfl)) (EvV.bcall (L.bn (v := .builtin "sum") (by simp) (by kernel_rfl)) (ns_cons (fun _ _ => rfl) ns_nil) (EvL.cons (fun _ _ => rfl) (EvF.toV (EvF.slice (EvV.idx (EvV.name (L.nmi 31)) (EvV.name (L.nmi 12)) (fun _ _ => rfl)) (EvP.some (EvV.binop (EvV.name (L.nmi 29)) EvV.int op_add)) (EvP.some (EvV.name (L.nmi 34))) EvP.none)) EvL.nil) op_sum) op_iadd) ExL.nil) ExL.nil) ExL.nil)) (ExL.cons (ExS.expr (EvM.insort (L.u 6 (by decide) (by kernel_rfl) (by kernel_rfl)) (L.nmi 42) (fun _ _ => rfl) (fun _ _ => rfl) (EvV.idx (EvV.name (L.nmi 41)) (EvV.name (L.nmi 12)) (fun _ _ => rfl)) (EvV.fnName (by kernel_rfl) (L.mgKey (by kernel_rfl)) (by kernel_rfl)) (c_insort L (by decide))) (by kernel_rfl) (fun _ _ => rfl)) (ExL.cons (ExS.assign (L.nmi 29) (.inl (by kernel_rfl)) (EvV.name (L.nmi 34)) (fun _ _ => rfl)) ExL.nil)))) (fun _ _ => rfl)) (ExL.cons (ExS.retName (L.nmi 11)) ExL.nil)))))

noncomputable def f_back : List LV → Option PyData := fnOfBody (initP [41, 30, 31]) (g_back)
theorem c_back {G : Gd} (L : LawG G) {n : Nat} (h : 5 ≤ n) : PureC G n (L.adr 67) false (f_back) := L.fnOf (by decide) (L.bind 67 _ (by simp [binders])) (d_back L) h

noncomputable def g_falls {G : Gd} (L : LawG G) : St → Option (Fl × St) := (sSeq (sAssign 18 (eC (.str ("" : Str)))) (sSeq (sAssignF 19 (eList lNil)) (sSeq (whGo (tOf truth (e2 oLt (eN oLen (lCons (eVar 18) lNil)) (eN oLen (lCons (eVar 16) lNil)))) (sSeq (sAssign 20 (eN oLen (lCons (eVar 18) lNil))) (sSeq (sAssign 21 (eC (.int 3))) (sSeq (whGo (tAnd (tOf truth (e2 oGt (eVar 21) (eC (.int 1)))) (tNotIn L.tab (eSliceS (eVar 16) (eVar 20) (e2 oAdd (eVar 20) (eVar 21))))) (sSeq (sAug 21 oSub (eC (.int 1))) sNil) 100) (sSeq (sExpr (mAppend 19 (mV (eItemG L.tab (eSliceS (eVar 16) (eVar 20) (e2 oAdd (eVar 20) (eVar 21))))))) (sSeq (sAug 18 oIadd (eItemD [(16, ("*" : Str)), (17, ("/" : Str)), (20, ("<" : Str)), (21, (">" : Str)), (33, ("<<" : Str)), (34, (">>" : Str)), (35, ("**" : Str)), (47, ("//" : Str))] (eIdx (eVar 19) (e1 oNeg (eC (.int 1)))))) sNil))))) 100) (sSeq (sIf (tOf truth (e2 oNe (fzF (eComp 25 [19] (iRange (lCons (eC (.int 1)) (lCons (eN oLen (lCons (eVar 19) lNil)) lNil))) (tAnd (tOf truth (e2 oLt (eIdx (eVar 19) (eVar 25)) (eC (.int 33)))) (tOf truth (e2 oEq (eIdx (eVar 19) (e2 oSub (eVar 25) (eC (.int 1)))) (eIdx (eVar 19) (eVar 25))))) (eVar 25))) (fzF (eList lNil)))) (sSeq (sRetV (fzF (eList lNil))) sNil) sNil) (sSeq (sRetV (fzF (eComp 12 [17, 18] (iRange (lCons (eN oLen (lCons (eVar 18) lNil)) lNil)) (tOf truth (e2 oEq (eIdxS (eVar 18) (eVar 12)) (eVar 17))) (e2 oAdd (eVar 12) (eC (.int 1)))))) sNil)))))
theorem d_falls {G : Gd} (L : LawG G) : ExL G (scopeAt 62) 0 (bodyAt 62) (g_falls L) := (ExL.cons (ExS.assign (L.nmi 18) (.inr (by kernel_rfl)) EvV.str (fun _ _ => rfl)) (ExL.cons (ExS.assignF (L.nmi 19) (.inr (by kernel_rfl)) (EvF.list EvL.nil) (fun _ _ => rfl)) (ExL.cons (ExS.while 100 (EvT.cmp (EvV.bcall (L.bn (v := .builtin "len") (by simp) (by kernel_rfl)) (ns_cons (fun _ _ => rfl) ns_nil) (EvL.cons (fun _ _ => rfl) (EvV.name (L.nmi 18)) EvL.nil) op_len) (EvV.bcall (L.bn (v := .builtin "len") (by simp) (by kernel_rfl)) (ns_cons (fun _ _ => rfl) ns_nil) (EvL.cons (fun _ _ => rfl) (EvV.name (L.nmi 16)) EvL.nil) op_len) op_lt rfl) (ExL.cons (ExS.assign (L.nmi 20) (.inl (by kernel_rfl)) (EvV.bcall (L.bn (v := .builtin "len") (by simp) (by kernel_rfl)) (ns_cons (fun _ _ => rfl) ns_nil) (EvL.cons (fun _ _ => rfl) (EvV.name (L.nmi 18)) EvL.nil) op_len) (fun _ _ => rfl)) (ExL.cons (ExS.assign (L.nmi 21) (.inl (by kernel_rfl)) EvV.int (fun _ _ => rfl)) (ExL.cons (ExS.while 100 (EvT.and (EvT.cmp (EvV.name (L.nmi 21)) EvV.int op_gt rfl) (EvT.notInG (L.tn (by kernel_rfl)) (EvV.sliceS (EvV.name (L.nmi 16)) (EvV.name (L.nmi 20)) (EvV.binop (EvV.name (L.nmi 20)) (EvV.name (L.nmi 21)) op_add)))) (ExL.cons (ExS.aug (L.nmi 21) (.inl (by kernel_rfl)) EvV.int op_isub) ExL.nil)) (ExL.cons (ExS.expr (EvM.append (L.nmi 19) (fun _ _ => rfl) rfl (EvM.ofV (EvV.itemG (L.tn (by kernel_rfl)) (EvV.sliceS (EvV.name (L.nmi 16)) (EvV.name (L.nmi 20)) (EvV.binop (EvV.name (L.nmi 20)) (EvV.name (L.nmi 21)) op_add)) (fun _ _ => rfl)))) (by kernel_rfl) (fun _ _ => rfl)) (ExL.cons (ExS.aug (L.nmi 18) (.inr (by kernel_rfl)) (by refine EvV.itemD ?D ?h0 ?h15 ?nd ?sy ?hh ?hs; (case D => (repeat (first | exact DispOk.nil | apply DispOk.cons))); (case h0 => simp); (case h15 => decide); (case nd => decide +kernel); (case sy => exact L.sys); (case hh => exact (EvV.idx (EvV.name (L.nmi 19)) (EvV.neg EvV.int) (fun _ _ => rfl))); (case hs => exact fun _ _ => rfl)) op_iadd) ExL.nil)))))) (ExL.cons (ExS.if (EvT.cmp (EvF.toV (EvF.comp ⟨L.nmi 25, (by kernel_rfl), (by decide +kernel), (by decide +kernel), (by kernel_rfl), (by decide +kernel), (by intro i hi; rw [L.nm]; revert i; decide +kernel)⟩ (EvI.range (L.bn (v := .type "range") (by simp) (by kernel_rfl)) (ns_cons (fun _ _ => rfl) (ns_cons (fun _ _ => rfl) ns_nil)) (EvL.cons (fun _ _ => rfl) EvV.int (EvL.cons (fun _ _ => rfl) (EvV.bcall (L.bn (v := .builtin "len") (by simp) (by kernel_rfl)) (ns_cons (fun _ _ => rfl) ns_nil) (EvL.cons (fun _ _ => rfl) (EvV.name (L.nmi 19)) EvL.nil) op_len) EvL.nil))) (EvIfs.one (EvT.and (EvT.cmp (EvV.idx (EvV.name (L.nmi 19)) (EvV.name (L.nmi 25)) (fun _ _ => rfl)) EvV.int op_lt rfl) (EvT.cmp (EvV.idx (EvV.name (L.nmi 19)) (EvV.binop (EvV.name (L.nmi 25)) EvV.int op_sub) (fun _ _ => rfl)) (EvV.idx (EvV.name (L.nmi 19)) (EvV.name (L.nmi 25)) (fun _ _ => rfl)) op_eq rfl))) (EvV.name (L.nmi 25)) (fun _ _ => rfl))) (EvF.toV (EvF.list EvL.nil)) op_ne rfl) (ExL.cons (ExS.ret (EvF.toV (EvF.list EvL.nil))) ExL.nil) ExL.nil) (ExL.cons (ExS.ret (EvF.toV (EvF.comp ⟨L.nmi 12, (by kernel_rfl), (by decide +kernel), (by decide +kernel), (by kernel_rfl), (by decide +kernel), (by intro i hi; rw [L.nm]; revert i; decide +kernel)⟩ (EvI.range (L.bn (v := .type "range") (by simp) (by kernel_rfl)) (ns_cons (fun _ _ => rfl) ns_nil) (EvL.cons (fun _ _ => rfl) (EvV.bcall (L.bn (v := .builtin "len") (by simp) (by kernel_rfl)) (ns_cons (fun _ _ => rfl) ns_nil) (EvL.cons (fun _ _ => rfl) (EvV.name (L.nmi 18)) EvL.nil) op_len) EvL.nil)) (EvIfs.one (EvT.cmp (EvV.idxS (EvV.name (L.nmi 18)) (EvV.name (L.nmi 12)) (fun _ _ => rfl)) (EvV.name (L.nmi 17)) op_eq rfl)) (EvV.binop (EvV.name (L.nmi 12)) EvV.int op_add) (fun _ _ => rfl)))) ExL.nil)))))

noncomputable def f_falls {G : Gd} (L : LawG G) : List LV → Option PyData := fnOfBody (initP [16, 17]) (g_falls L)
theorem c_falls {G : Gd} (L : LawG G) {n : Nat} (h : 1 ≤ n) : PureC G n (L.adr 62) false (f_falls L) := L.fnOf (by decide) (L.bind 62 _ (by simp [binders])) (d_falls L) h

end Mine
end

section
open PySem PySem.W PyProof.Rows PySem.Calls
open Sem (wp)
namespace Mine

section
variable {M : Model} {A : Around} {R : GenEnd} {Y : Protocol} {n : Nat} {s₀ : Shared} {c : Code} {fs : List Frame} {s : Shared} {env : Env}
  {K : Flow → Sem Fin} {H : Value → Sem Fin} {gd : Bool → Bool} {lv : List Value → List Value}
theorem seg_stmt {st : Stmt} (h : wpAny M (A.over c fs) (exec st env) (fun f s' => Seg M A R Y n s₀ c (K f) fs s') (fun x s' => Seg M A R Y n s₀ c (H x) fs s') s) : Seg M A R Y n s₀ c ((exec st env).wrap K H gd lv) fs s := seg_wrap h
theorem seg_If {test : PySem.Expr} {b o : List Stmt} {pos : Pos}
    (h : wpAny M (A.over c fs) (isTrue test env (eval test env)) (fun r s' => Seg M A R Y n s₀ c ((if r = true then execs b env else execs o env).wrap K H gd lv) fs s') (fun x s' => Seg M A R Y n s₀ c (H x) fs s') s) :
    Seg M A R Y n s₀ c ((exec (.If test b o pos) env).wrap K H gd lv) fs s := by
  rw [exec_If]
  exact seg_bind_wrap (wpAny_standAt (seg_bind_wrap (wpAny_mono h (fun r s' h' => h') fun _ _ e => e)))
noncomputable def ownR (env : Env) : Result → Sem Flow := fun r => (match r with | .ok f => (.pure f : Sem Flow) | .error e => .raise e).onRaise fun (x : Value) => do
        if (← field x 1) == Value.none then unsupported "frame.own-activation:exception-without-traceback"
        setFlight x env.frame
theorem seg_For {target iter : PySem.Expr} {body : List Stmt} {pos : Pos}
    (h : wpAny M (A.over c fs) (eval iter env) (fun x s₁ => wpAny M (A.over c fs) (pyIter x) (fun it s₂ => ∀ p, Seg M A R Y n s₀ (.forLoop target it body [] env) (M.den (.forLoop target it body [] env))
      (.ret (fun r => (ownR env r).wrap K H gd lv) none (gd false) (lv []) c p [] :: fs) s₂) (fun x s' => Seg M A R Y n s₀ c (H x) fs s') s₁) (fun x s' => Seg M A R Y n s₀ c (H x) fs s') s)
    (hs : ∀ x, foldedSetIterable iter env x = pure x) :
    Seg M A R Y n s₀ c ((exec (.For target iter body [] pos) env).wrap K H gd lv) fs s := by
  rw [exec_For]
  refine seg_bind_wrap (wpAny_standAt (seg_bind_wrap (wpAny_mono h (fun x s₁ h₁ => ?_) fun _ _ e => e)))
  refine seg_bind_wrap (wpAny_of_eq (hs x) (seg_bind_wrap (wpAny_standAt (seg_bind_wrap (wpAny_holding (wpAny_mono h₁ (fun it s₂ h₂ => ?_) fun _ _ e => e))))))
  exact seg_call h₂
end
section
variable {prog : Program} {w : World} {A : Around} {R : GenEnd} {Y : Protocol} {n : Nat} {s₀ : Shared} {fs : List Frame} {s : Shared} {env : Env}
noncomputable def notR (env : Env) : Value → Sem Fin := fun e => (do noteFrame e env; theTreesLotGoes e : Sem Unit).bind fun _ => .raise e
noncomputable def forK (target : PySem.Expr) (it : Value) (body : List Stmt) (env : Env) : Flow → Sem Fin
  | .next | .cont => .pure (.again (.forLoop target it body [] env))
  | .brk => .pure (.done .next)
  | .ret v => .pure (.done (.ret v))
theorem seg_forLoop {target : PySem.Expr} {it : Value} {body : List Stmt} (ht : ∀ v, letOwnedTupleGo target it v = pure ())
    (h : wpAny (model prog w) (A.over (.forLoop target it body [] env) fs) (pyNext it) (fun r s₁ => match r with
      | none => Seg (model prog w) A R Y n s₀ (.block [] env) ((model prog w).den (.block [] env)) fs s₁
      | some v => wpAny (model prog w) (A.over (.forLoop target it body [] env) fs) (assign target env v) (fun _ s₂ => Seg (model prog w) A R Y n s₀ (.forLoop target it body [] env) ((execs body env).wrap (forK target it body env) (notR env) id id) fs s₂)
          (fun x s' => Seg (model prog w) A R Y n s₀ (.forLoop target it body [] env) (notR env x) fs s') s₁)
      (fun x s' => Seg (model prog w) A R Y n s₀ (.forLoop target it body [] env) (notR env x) fs s') s) :
    Seg (model prog w) A R Y n s₀ (.forLoop target it body [] env) ((model prog w).den (.forLoop target it body [] env)) fs s := by
  show Seg _ A R Y n s₀ _ ((forTurn target it body [] env).onRaise (fun x => do noteFrame x env; theTreesLotGoes x)) fs s
  unfold forTurn
  rw [Sem.onRaise_eq_wrap]
  refine seg_bind_wrap (wpAny_standAt (seg_bind_wrap (wpAny_onRaise (wpAny_mono h (fun r s₁ h₁ => ?_) fun x s' hx => wpAny_standAt hx))))
  cases r with
  | none => exact seg_again rfl h₁
  | some v =>
    refine seg_bind_wrap (wpAny_of_eq (ht v) (seg_bind_wrap (wpAny_mono h₁ (fun _ s₂ h₂ => ?_) fun _ _ e => e)))
    rw [Sem.bind_eq_wrap', Sem.wrap_wrap]
    rw [Sem.wrap_congr (execs body env) _ _ (K' := forK target it body env) (H' := notR env) (fun f => by cases f <;> rfl) (fun e => by rfl)]
    exact h₂
theorem seg_blockNil (hk : Seg (model prog w) A R Y n s₀ (.block [] env) (.pure (.done .next)) fs s) : Seg (model prog w) A R Y n s₀ (.block [] env) ((model prog w).den (.block [] env)) fs s := hk
end
end Mine
end

section
open PySem PySem.W PyProof.Rows PySem.Calls
open Sem (wp)
namespace Mine

noncomputable def gi : List Int → Option Int → Nat → Option Int
  | [], _, _ => none
  | x :: xs, last, j => if x = 127 then none else if x = 0 then last else match j with
    | 0 => some x
    | j + 1 => gi xs (some x) j
noncomputable def giOk : List Int → Option Int → Bool
  | [], _ => true
  | x :: xs, last => if x = 127 then true else if x = 0 then last.isSome else giOk xs (some x)
theorem giOk_c (x : Int) (xs : List Int) (last : Option Int) : giOk (x :: xs) last = if x = 127 then true else if x = 0 then last.isSome else giOk xs (some x) := rfl

noncomputable def oD : Option Int → PyData
  | none => .none
  | some y => .int y

structure GenE (G : Gd) (env : Env) (L I ax : Addr) : Prop where
  sc : env.scope = scopeAt 4
  eo : EO (scopeAt 4) env
  loc : env.locals = L
  fr : env.frame = some L
  LI : L ≠ I
  Lax : L ≠ ax
  Iax : I ≠ ax
  nm : G.nm = nmT

noncomputable def LI (o : Obj) : Prop := o.cls = .type "list_iterator" ∧ ∃ vs, o.data = .fields vs
noncomputable def GSince (L I : Addr) (s₀ s : Shared) : Prop := (∃ h' tk, s = { s₀ with heap := h', toks := tk } ∧ ∀ b o, b ≠ L → b ≠ I → s₀.heap.get? b = some o → h'.get? b = some o) ∧ ∀ o, s₀.heap.get? I = some o → LI o
theorem GSince.refl (L I : Addr) (s : Shared) (h : ∀ o, s.heap.get? I = some o → LI o) : GSince L I s s := ⟨⟨s.heap, s.toks, rfl, fun _ _ _ _ e => e⟩, h⟩
theorem GSince.step {L I : Addr} {s₀ s : Shared} (x : GSince L I s₀ s) {h' : Heap} {tk : Nat} (k : ∀ b o, b ≠ L → b ≠ I → s.heap.get? b = some o → h'.get? b = some o) : GSince L I s₀ { s with heap := h', toks := tk } := by
  obtain ⟨⟨h₁, tk₁, rfl, k₁⟩, c⟩ := x
  exact ⟨⟨h', tk, rfl, fun b o hL hI e => k b o hL hI (k₁ b o hL hI e)⟩, c⟩

structure GenH (G : Gd) (B : Heap) (L I ax : Addr) (items : Array Value) (i : Nat) (dl xo : Option Int) (h : Heap) : Prop where
  pB : G.P B
  bL : B.get? L = none
  bI : B.get? I = none
  ext : Ext B h
  it : h.IsListIter I ax i
  ls : h.IsList ax items
  ns : ∃ m v, h.Ns L m ∧ m (nmT 4) = some v ∧ Rd h v (oD dl) ∧ ∀ x, xo = some x → ∃ t, m (nmT 5) = some (.int x t)
theorem GenH.cls {G : Gd} {B : Heap} {L I ax : Addr} {items : Array Value} {i : Nat} {dl xo : Option Int} {h : Heap} (g : GenH G B L I ax items i dl xo h) : ∀ o, h.get? I = some o → LI o := fun o e => by
  obtain ⟨o', e', c, d⟩ := g.it
  rw [e] at e'; cases e'; exact ⟨c, _, d⟩
theorem GenH.at {G : Gd} {B : Heap} {L I ax : Addr} {items : Array Value} {i : Nat} {dl xo : Option Int} {h h' : Heap} (g : GenH G B L I ax items i dl xo h) (x : Ext h h') : ∃ o, h'.get? I = some o ∧ LI o := by
  obtain ⟨o, e, c, d⟩ := g.it
  exact ⟨o, x _ _ e, c, _, d⟩
theorem oD_scalar (d : Option Int) : scalar (oD d) = true := by cases d <;> rfl
theorem GenH.keep {G : Gd} {B : Heap} {L I ax : Addr} {items : Array Value} {i : Nat} {dl xo : Option Int} {h h' : Heap} (g : GenH G B L I ax items i dl xo h) (k : ∀ b ∈ [L, I, ax], ∀ o, h.get? b = some o → h'.get? b = some o) (e : Ext B h') : GenH G B L I ax items i dl xo h' :=
  ⟨g.pB, g.bL, g.bI, e, g.it.at fun o q => k I (.tail _ (.head _)) o q, g.ls.at fun o q => k ax (.tail _ (.tail _ (.head _))) o q, g.ns.imp fun _ w => w.imp fun _ w => ⟨w.1.at' fun o q => k L (.head _) o q, w.2.1, w.2.2.1.scalar (oD_scalar dl), w.2.2.2⟩⟩

noncomputable def genY (B : Heap) (L ax : Addr) (N : Nat) (ys : Nat → Option Int) : Protocol := fun m s₀ v s kap => ∃ I, B.get? I = none ∧ (∃ y t, ys (N - 1 - m) = some y ∧ v = .int y t) ∧ (∃ o, s.heap.get? I = some o ∧ LI o) ∧ GSince L I s₀ s ∧
  (m = 0 ∨ ∀ s'' : Shared, (∀ b ∈ [L, I, ax], ∀ o, s.heap.get? b = some o → s''.heap.get? b = some o) → Ext B s''.heap → kap (.send .none) s'')
noncomputable def genR (B : Heap) (L : Addr) (N : Nat) (ys : Nat → Option Int) : GenEnd := fun n s₀ r s => ∃ I, B.get? I = none ∧ r = .ok (.ret .none) ∧ ys (N - n) = none ∧ GSince L I s₀ s

section
variable {G : Gd} {env : Env} {L I ax : Addr} {B : Heap} {items : Array Value} {A' : Around} {h : Heap}
noncomputable def gSt (x : Int) (dl : Option Int) : St := [(5, .d (.int x)), (4, .d (oD dl))]
theorem genSit (g : GenE G env L I ax) {m : Str → Option Value} {v : Value} {x : Int} {t : Tok} {dl : Option Int} (hb : Bud 0 A') (pB : G.P B) (e : Ext B h) (hn : h.Ns L m) (h5 : m (nmT 5) = some (.int x t)) (h4 : m (nmT 4) = some v) (r : Rd h v (oD dl)) :
    Sit G (scopeAt 4) 0 A' env [L] (gSt x dl) h := by
  have k5 : env.kindOf (nmT 5) = some .local := by show env.scope.names.lookup _ = _; rw [g.sc]; kernel_rfl
  have k4 : env.kindOf (nmT 4) = some .local := by show env.scope.names.lookup _ = _; rw [g.sc]; kernel_rfl
  have hn' : h.Ns env.locals m := by rw [g.loc]; exact hn
  refine ⟨g.eo, hb, G.mono e pB, fun a ha => ?_, fun y lv q => ?_⟩
  · rw [List.mem_singleton.mp ha]; obtain ⟨o, _, _, w, _⟩ := hn; exact ⟨o, w⟩
  · rw [g.nm]
    unfold gSt at q
    simp only [St.get, beq_dec] at q
    by_cases h1 : y = 5
    · subst h1; simp at q; subst q
      exact ⟨_, .inl ⟨k5, m, hn', h5⟩, Rd.int _ _⟩
    · simp only [h1, decide_false, cond_false] at q
      by_cases h2 : y = 4
      · subst h2; simp at q; subst q
        exact ⟨_, .inl ⟨k4, m, hn', h4⟩, r.scalar (oD_scalar dl)⟩
      · simp only [h2, decide_false, cond_false] at q; cases q
noncomputable def eG (i : Int) : St → Option LV := fun _ => some (.d (.int i))
theorem EvV.gint {sc : Scope} {n : Nat} {x : Str} {i : Int} {t : Tok} {pos : Pos} (hs : sc.names.lookup x = some .globalImplicit) (hm : G.mg x = some (.int i t)) (hd : (x == ("__debug__" : Str)) = false) : EvV G sc n (.Name x pos) (eG i) := fun A env H st s lv Q E S e hQ => by
  cases e
  exact Name_function_global S.eo.kind (S.eo.glob x hs) (loadGlobal_global (by rw [S.eo.gl]; exact G.g S.p) hm (hQ _ s.heap s.toks (Ext.refl _) (Rd.int i t))) hd
end

structure GBody (G : Gd) (t1 t2 t3 t4 e1 e2 e3 : PySem.Expr) (f1 f2 f3 f4 : St → Option Bool) : Prop where
  ht1 : EvT G (scopeAt 4) 0 t1 f1
  ht2 : EvT G (scopeAt 4) 0 t2 f2
  ht3 : EvT G (scopeAt 4) 0 t3 f3
  ht4 : EvT G (scopeAt 4) 0 t4 f4
  h1 : ∀ x dl, f1 (gSt x dl) = some (decide (x = 127))
  h2 : ∀ x dl, f2 (gSt x dl) = some (decide (x = 0))
  h3 : ∀ x dl, f3 (gSt x dl) = some (dl.isNone)
  h4 : ∀ x dl, f4 (gSt x dl) = some true
  he1 : EvV G (scopeAt 4) 0 e1 (eVar 4)
  he2 : EvV G (scopeAt 4) 0 e2 (eVar 5)
  he3 : EvV G (scopeAt 4) 0 e3 (eVar 5)
  hs3 : ∀ env : Env, env.scope = scopeAt 4 → ∀ p l, swapsWith e3 (some (.Name (nmT 4) p)) l env = pure false

section
variable {G : Gd} {env : Env} {L I ax : Addr} {B : Heap} {items : Array Value} {A : Around} {N : Nat} {ys : Nat → Option Int}
  {k : Result → Sem Fin} {l : List Value} {p : Pos} {fb : List Stmt}
theorem over_bud {c : Code} {fs : List Frame} (hh : A.handled = none) (hm : (marksOver fs (A.handled, A.handled)).1 = A.handled) (hd : A.depth + frameCount (fs.map Frame.where_) + c.weight ≤ 800) (hu : A.units + unitsOf (fs.map Frame.where_) + c.cUnits ≤ 9000) : Bud 0 (A.over c fs) :=
  ⟨by show (marksOver fs (A.handled, A.handled)).1 = none; rw [hm]; exact hh, by show A.depth + frameCount (fs.map Frame.where_) + c.weight + 0 ≤ 800; omega, by show A.units + unitsOf (fs.map Frame.where_) + c.cUnits + 20 * 0 ≤ 9000; omega⟩
theorem budFor {target : PySem.Expr} {it : Value} {body : List Stmt} (hb : Bud 2 A) : Bud 0 (A.over (.forLoop target it body [] env) [.ret k none false l (.func fb env) p []]) := by
  refine over_bud hb.hh rfl ?_ ?_
  · have := hb.dp
    show A.depth + (frameCount [((Code.func fb env), p)]) + _ ≤ 800
    rw [frameCount_cons]
    show A.depth + (1 + 0) + 0 ≤ 800
    (first | assumption | exact Nat.le_refl _ | exact Nat.zero_le _ | exact Nat.lt_succ_self _ | exact Nat.le_of_lt (by assumption) | exact Nat.succ_le_of_lt (by assumption) | lia)
  · have := hb.un
    show A.units + (unitsOf [((Code.func fb env), p)]) + _ ≤ 9000
    rw [unitsOf_cons]
    show A.units + (3 + 0) + 0 ≤ 9000
    lia
end
end Mine
end

section
open PySem PySem.W PyProof.Rows PySem.Calls
open Sem (wp)
namespace Mine
section
variable {G : Gd} {env : Env} {L I ax : Addr} {B : Heap} {items : Array Value} {A : Around} {N : Nat} {ys : Nat → Option Int}
  {k : Result → Sem Fin} {l : List Value} {p : Pos} {fb : List Stmt} {t1 t2 t3 t4 e1 e2 e3 : PySem.Expr} {f1 f2 f3 f4 : St → Option Bool}
theorem budWh {target : PySem.Expr} {it : Value} {body wb : List Stmt} {k2 : Result → Sem Fin} {l2 : List Value} {p2 : Pos} (hb : Bud 2 A) : Bud 0 (A.over (.whileLoop t4 wb [] env) [.ret k2 none false l2 (.forLoop target it body [] env) p2 [], .ret k none false l (.func fb env) p []]) := by
  refine over_bud hb.hh rfl ?_ ?_
  · have := hb.dp
    show A.depth + (frameCount [((Code.forLoop target it body [] env), p2), ((Code.func fb env), p)]) + _ ≤ 800
    rw [frameCount_cons, frameCount_cons]
    show A.depth + (0 + (1 + 0)) + 0 ≤ 800
    (first | assumption | exact Nat.le_refl _ | exact Nat.zero_le _ | exact Nat.lt_succ_self _ | exact Nat.le_of_lt (by assumption) | exact Nat.succ_le_of_lt (by assumption) | lia)
  · have := hb.un
    show A.units + (unitsOf [((Code.forLoop target it body [] env), p2), ((Code.func fb env), p)]) + _ ≤ 9000
    rw [unitsOf_cons, unitsOf_cons]
    show A.units + (0 + (3 + 0)) + 0 ≤ 9000
    lia
theorem seg_W {target : PySem.Expr} {it : Value} {body : List Stmt} {k2 : Result → Sem Fin} {l2 : List Value} {p2 yp q1 : Pos} (g : GenE G env L I ax) (b : GBody G t1 t2 t3 t4 e1 e2 e3 f1 f2 f3 f4) (hb : Bud 2 A) {y : Int} {i : Nat} {x : Int} :
    ∀ (n : Nat) (s₀ s : Shared), n + 1 ≤ N → (∀ j, N - (n + 1) ≤ j → ys j = some y) → GenH G B L I ax items i (some y) (some x) s.heap → GSince L I s₀ s →
      Seg (model G.prog G.w) A (genR B L N ys) (genY B L ax N ys) (n + 1) s₀ (.whileLoop t4 [.Expr (.Yield (some e1) yp) q1] [] env) ((model G.prog G.w).den (.whileLoop t4 [.Expr (.Yield (some e1) yp) q1] [] env))
        [.ret k2 none false l2 (.forLoop target it body [] env) p2 [], .ret k none false l (.func fb env) p []] s := by
  intro n
  induction n with
  | zero =>
    intro s₀ s hn hys H hsi
    refine byC fun CC hCC => ?_
    obtain ⟨m, v, hns, h4, r4, h5⟩ := H.ns
    obtain ⟨t5, h5⟩ := h5 x rfl
    refine hCC ?_
    clear hCC
    have S := fun (A' : Around) (hb' : Bud 0 A') => genSit (x := x) (t := t5) (A' := A') g hb' H.pB H.ext hns h5 h4 r4
    refine seg_whileLoop (b.ht4 _ env [L] _ s true _ _ (S _ (budWh hb)) (b.h4 _ _) fun h₁ tk₁ x₁ => ?_)
    simp only [if_true]
    refine seg_execs_cons (seg_Expr_Yield rfl rfl rfl (b.he1 _ env [L] _ { s with heap := h₁, toks := tk₁ } (.d (.int y)) _ _ ((S _ (budWh hb)).ext x₁) rfl fun v₂ h₂ tk₂ x₂ r₂ kap hk => ?_) ?_ ?_)
    · obtain ⟨t', rfl⟩ := Rd.int_inv r₂
      exact ⟨I, H.bI, ⟨y, t', hys _ (by (first | assumption | exact Nat.le_refl _ | exact Nat.zero_le _ | exact Nat.lt_succ_self _ | exact Nat.le_of_lt (by assumption) | exact Nat.succ_le_of_lt (by assumption) | lia)), rfl⟩, H.at (x₁.trans x₂), hsi.step fun b o _ _ e => x₂ b o (x₁ b o e), .inl rfl⟩
    · show env.scope.isCoroutine = false
      rw [g.sc]; kernel_rfl
    · unfold interactive; rw [g.sc]; kernel_rfl
  | succ n ih =>
    intro s₀ s hn hys H hsi
    obtain ⟨m, v, hns, h4, r4, h5⟩ := H.ns
    obtain ⟨t5, h5⟩ := h5 x rfl
    have S := fun (A' : Around) (hb' : Bud 0 A') => genSit (x := x) (t := t5) (A' := A') g hb' H.pB H.ext hns h5 h4 r4
    refine seg_whileLoop (b.ht4 _ env [L] _ s true _ _ (S _ (budWh hb)) (b.h4 _ _) fun h₁ tk₁ x₁ => ?_)
    simp only [if_true]
    refine seg_execs_cons (seg_Expr_Yield rfl rfl rfl (b.he1 _ env [L] _ { s with heap := h₁, toks := tk₁ } (.d (.int y)) _ _ ((S _ (budWh hb)).ext x₁) rfl fun v₂ h₂ tk₂ x₂ r₂ kap hk => ?_) ?_ ?_)
    · obtain ⟨t', rfl⟩ := Rd.int_inv r₂
      refine ⟨I, H.bI, ⟨y, t', hys _ (by lia), rfl⟩, H.at (x₁.trans x₂), hsi.step fun b o _ _ e => x₂ b o (x₁ b o e), .inr fun s'' hk'' hB => hk .none s'' ?_⟩
      have H' : GenH G B L I ax items i (some y) (some x) s''.heap := H.keep (fun b hb o e => hk'' b hb o (x₂ b o (x₁ b o e))) hB
      exact seg_again rfl (ih s'' s'' (by (first | assumption | exact Nat.le_refl _ | exact Nat.zero_le _ | exact Nat.lt_succ_self _ | exact Nat.le_of_lt (by assumption) | exact Nat.succ_le_of_lt (by assumption) | lia)) (fun j hj => hys j (by lia)) H' (GSince.refl _ _ _ H'.cls))
    · show env.scope.isCoroutine = false
      rw [g.sc]; kernel_rfl
    · unfold interactive; rw [g.sc]; kernel_rfl
end
end Mine
end

section
open PySem PySem.W PyProof.Rows PySem.Calls
open Sem (wp)
namespace Mine
section
variable {G : Gd} {env : Env} {L I ax : Addr} {B : Heap} {items : Array Value} {A : Around} {N : Nat} {ys : Nat → Option Int}
  {k : Result → Sem Fin} {l : List Value} {p : Pos} {fb : List Stmt} {t1 t2 t3 t4 e1 e2 e3 : PySem.Expr} {f1 f2 f3 f4 : St → Option Bool}
noncomputable def gBody (t1 t2 t3 t4 e1 e2 e3 : PySem.Expr) (b3 : List Stmt) (rp p1 p3 yp1 q1 p4 p2 yp2 q2 ap q3 : Pos) : List Stmt :=
  [.If t1 [.Return none rp] [] p1, .If t2 [.If t3 b3 [] p3, .While t4 [.Expr (.Yield (some e1) yp1) q1] [] p4] [] p2, .Expr (.Yield (some e2) yp2) q2, .Assign [.Name (nmT 4) ap] e3 q3]
theorem seg_L {tp rp p1 p3 yp1 q1 p4 p2 yp2 q2 ap q3 : Pos} {b3 : List Stmt} (g : GenE G env L I ax) (b : GBody G t1 t2 t3 t4 e1 e2 e3 f1 f2 f3 f4) (hb : Bud 2 A) {xs : List Int} (hI : IntsAre items.toList xs)
    (hk1 : k (.ok .next) = leafOf (.ok (.ret .none))) (hk2 : k (.ok (.ret .none)) = leafOf (.ok (.ret .none))) :
    ∀ (rest : List Int) (i : Nat) (dl xo : Option Int) (n : Nat) (s₀ s : Shared), rest = xs.drop i → i ≤ xs.length → giOk rest dl = true → n + 1 ≤ N → (∀ j, ys (N - (n + 1) + j) = gi rest dl j) → GenH G B L I ax items i dl xo s.heap → GSince L I s₀ s →
      Seg (model G.prog G.w) A (genR B L N ys) (genY B L ax N ys) (n + 1) s₀ (.forLoop (.Name (nmT 5) tp) (.ref I) (gBody t1 t2 t3 t4 e1 e2 e3 b3 rp p1 p3 yp1 q1 p4 p2 yp2 q2 ap q3) [] env)
        ((model G.prog G.w).den (.forLoop (.Name (nmT 5) tp) (.ref I) (gBody t1 t2 t3 t4 e1 e2 e3 b3 rp p1 p3 yp1 q1 p4 p2 yp2 q2 ap q3) [] env)) [.ret k none false l (.func fb env) p []] s := by
  have hLocal : ∀ x, x = nmT 4 ∨ x = nmT 5 → env.kindOf x = some .local := fun x hx => by
    show env.scope.names.lookup _ = _
    rw [g.sc]
    rcases hx with rfl | rfl <;> kernel_rfl
  have hcls : (env.scope.kind == .class || (env.scope.kind == .module && env.locals != env.globals)) = false := by rw [g.sc]; kernel_rfl
  have hlen : items.size = xs.length := by have := (rdA_of_ints (h := {}) hI).length; simpa using this
  intro rest
  induction rest with
  | nil =>
    intro i dl xo n s₀ s hr hi hok hn hys H hsi
    have hiL : i = xs.length := by
      have := congrArg List.length hr
      simp at this; lia
    refine seg_forLoop (fun _ => rfl) (wpAny_pyNext_list_end hb.hh H.it H.ls (by simp [hlen, hiL]) fun h' hx => ?_)
    refine seg_blockNil (seg_leaf (.ok .next) ?_)
    rw [hk1]
    exact seg_end (.ok (.ret .none)) ⟨I, H.bI, rfl, hys 0, hsi.step fun b o hL hI' e => hx b o hI' e⟩
  | cons x r ih =>
    intro i dl xo n s₀ s hr hi hok hn hys H hsi
    have hx : xs[i]? = some x := by rw [← List.head?_drop, ← hr]; rfl
    have hr' : r = xs.drop (i + 1) := by rw [← List.tail_drop, ← hr]; rfl
    have hi' : i + 1 ≤ xs.length := (List.getElem?_eq_some_iff.mp hx).1
    refine byC fun CC hCC => ?_
    obtain ⟨v, hv, rv⟩ := (rdA_of_ints (h := s.heap) hI).get (i := i) (d := .int x) (by simp [hx])
    obtain ⟨t, rfl⟩ := rv.int_inv
    refine hCC ?_
    clear hCC
    have hv' : items[i]? = some (.int x t) := by simpa using hv
    refine seg_forLoop (fun _ => rfl) (wpAny_pyNext_list_item H.it H.ls hv' fun h₁ hit₁ sb₁ => ?_)
    refine byC fun CC hCC => ?_
    obtain ⟨m, vl, hns, h4, r4, _⟩ := H.ns
    refine hCC ?_
    clear hCC
    have hns₁ : h₁.Ns env.locals m := by rw [g.loc]; exact hns.sameBut sb₁ g.LI
    refine wpAny_assign_Name (wpAny_storeName_local (hLocal _ (.inr rfl)) hns₁ (fun h₂ hns₂ sb₂ => ?_) hcls)
    rw [g.loc] at hns₂ sb₂
    have k₂ : ∀ b o, b ≠ L → b ≠ I → s.heap.get? b = some o → h₂.get? b = some o := fun b o hL hI' e => (sb₂.2 b hL).trans ((sb₁.2 b hI').trans e)
    have ext₂ : Ext B h₂ := fun b o e => k₂ b o (fun q => by rw [q, H.bL] at e; cases e) (fun q => by rw [q, H.bI] at e; cases e) (H.ext b o e)
    have hne : nmT 4 ≠ nmT 5 := fun q => by have := nmT_inj _ _ q; lia
    have H₂ : GenH G B L I ax items (i + 1) dl (some x) h₂ := ⟨H.pB, H.bL, H.bI, ext₂, hit₁.at fun o e => (sb₂.2 I (Ne.symm g.LI)).trans e, H.ls.at fun o e => (sb₂.2 ax (Ne.symm g.Lax)).trans ((sb₁.2 ax (Ne.symm g.Iax)).trans e),
      _, vl, hns₂, by simp [hne, h4], r4.scalar (oD_scalar dl), fun x' e => by cases e; exact ⟨t, by first | rfl | exact .head _ | exact .tail _ (.head _) | exact if_pos rfl | exact (if_neg (by decide)).trans rfl | simp⟩⟩
    have S := fun (A' : Around) (hb' : Bud 0 A') => genSit (x := x) (t := t) (A' := A') g hb' H.pB ext₂ hns₂ (by first | rfl | exact .head _ | exact .tail _ (.head _) | exact if_pos rfl | exact (if_neg (by decide)).trans rfl | simp) (by simp [hne, h4] : (if nmT 4 = nmT 5 then some (Value.int x t) else m (nmT 4)) = some vl) (r4.scalar (h' := h₂) (oD_scalar dl))
    have hsi₂ : ∀ tk, GSince L I s₀ { s with heap := h₂, toks := tk } := fun tk => hsi.step k₂
    unfold gBody
    refine seg_execs_cons (seg_If (b.ht1 _ env [L] _ { s with heap := h₂, toks := _ } _ _ _ (S _ (budFor hb)) (b.h1 _ _) fun h₃ tk₃ x₃ => ?_))
    have k₃ : ∀ b o, b ≠ L → b ≠ I → s.heap.get? b = some o → h₃.get? b = some o := fun b o hL hI' e => x₃ b o (k₂ b o hL hI' e)
    by_cases h127 : x = 127
    · simp only [h127, decide_true, if_true]
      refine seg_execs_cons (seg_stmt ?_)
      rw [exec_Return_none]
      refine wpAny_bind (wpAny_standAt (wpAny_pure ?_))
      show Seg _ A _ _ (n + 1) s₀ _ (leafOf (.ok (.ret .none))) _ _
      refine seg_leaf (.ok (.ret .none)) ?_
      rw [hk2]
      refine seg_end (.ok (.ret .none)) ⟨I, H.bI, rfl, ?_, hsi.step k₃⟩
      have := hys 0
      rw [Nat.add_zero] at this
      rw [this]; unfold gi; rw [if_pos h127]
    · simp only [h127, decide_false, Bool.false_eq_true, if_false]
      refine seg_execs_nil ?_
      show Seg _ A _ _ (n + 1) s₀ _ ((execs _ env).wrap _ _ id id) _ _
      refine seg_execs_cons (seg_If (b.ht2 _ env [L] _ { s with heap := h₃, toks := tk₃ } _ _ _ ((S _ (budFor hb)).ext x₃) (b.h2 _ _) fun h₄ tk₄ x₄ => ?_))
      have k₄ : ∀ b o, b ≠ L → b ≠ I → s.heap.get? b = some o → h₄.get? b = some o := fun b o hL hI' e => x₄ b o (k₃ b o hL hI' e)
      by_cases h0 : x = 0
      · simp only [h0, decide_true, if_true]
        have hso : dl.isSome = true := by rw [giOk_c] at hok; rw [if_neg h127, if_pos h0] at hok; exact hok
        obtain ⟨y, rfl⟩ := Option.isSome_iff_exists.mp hso
        refine seg_execs_cons (seg_If (b.ht3 _ env [L] (gSt x (some y)) { s with heap := h₄, toks := tk₄ } _ _ _ (((S _ (budFor hb)).ext x₃).ext x₄) (b.h3 _ _) fun h₅ tk₅ x₅ => ?_))
        simp only [Option.isNone_some, Bool.false_eq_true, if_false]
        refine seg_execs_nil ?_
        show Seg _ A _ _ (n + 1) s₀ _ ((execs _ env).wrap _ _ id id) _ _
        refine seg_execs_cons (seg_While fun p' => ?_)
        refine seg_W (i := i + 1) (x := x) g b hb n s₀ _ hn (fun j hj => ?_) (H₂.keep (fun b _ o e => x₅ b o (x₄ b o (x₃ b o e))) (ext₂.trans (x₃.trans (x₄.trans x₅)))) (hsi.step fun b o hL hI' e => x₅ b o (k₄ b o hL hI' e))
        obtain ⟨d, rfl⟩ : ∃ d, j = N - (n + 1) + d := ⟨j - (N - (n + 1)), by lia⟩
        rw [hys d]; unfold gi; rw [if_neg h127, if_pos h0]
      · simp only [h0, decide_false, Bool.false_eq_true, if_false]
        refine seg_execs_nil ?_
        show Seg _ A _ _ (n + 1) s₀ _ ((execs _ env).wrap _ _ id id) _ _
        refine seg_execs_cons (seg_Expr_Yield rfl rfl rfl (b.he2 _ env [L] (gSt x dl) { s with heap := h₄, toks := tk₄ } (.d (.int x)) _ _ (((S _ (budFor hb)).ext x₃).ext x₄) rfl fun v₅ h₅ tk₅ x₅ r₅ kap hk => ?_) ?_ ?_)
        · obtain ⟨t', rfl⟩ := Rd.int_inv r₅
          have hy0 : ys (N - (n + 1)) = some x := by
            have := hys 0
            rw [Nat.add_zero] at this
            rw [this]; unfold gi; rw [if_neg h127, if_neg h0]
          refine ⟨I, H.bI, ⟨x, t', by rw [← hy0]; congr 1; lia, rfl⟩, H₂.at (x₃.trans (x₄.trans x₅)), hsi.step fun b o hL hI' e => x₅ b o (k₄ b o hL hI' e), ?_⟩
          cases n with
          | zero => exact .inl rfl
          | succ n =>
            refine .inr fun s'' hk'' hB => hk .none s'' ?_
            have H'' : GenH G B L I ax items (i + 1) dl (some x) s''.heap := H₂.keep (fun b hb' o e => hk'' b hb' o (x₅ b o (x₄ b o (x₃ b o e)))) hB
            refine byC fun CC hCC => ?_
            obtain ⟨m₆, v₆, hns₆, h46, r46, h56⟩ := H''.ns
            obtain ⟨t₆, h56⟩ := h56 x rfl
            refine hCC ?_
            clear hCC
            have S₆ := fun (A' : Around) (hb' : Bud 0 A') => genSit (x := x) (t := t₆) (A' := A') g hb' H.pB hB hns₆ h56 h46 r46
            show Seg _ A _ _ (n + 1) s'' _ ((execs _ env).wrap _ _ id id) _ _
            refine seg_execs_cons (seg_stmt (wpAny_Assign_Name (b.he3 _ env [L] (gSt x dl) s'' (.d (.int x)) _ _ (S₆ _ (budFor hb)) rfl fun v₇ h₇ tk₇ x₇ r₇ => ?_) (b.hs3 env g.sc _ _)))
            obtain ⟨t₇, rfl⟩ := Rd.int_inv r₇
            have hns₇ : h₇.Ns env.locals m₆ := by rw [g.loc]; exact hns₆.keeps x₇
            refine wpAny_storeName_local (hLocal _ (.inl rfl)) hns₇ (fun h₈ hns₈ sb₈ => ?_) hcls
            rw [g.loc] at hns₈ sb₈
            refine seg_execs_nil (seg_again rfl ?_)
            have k₈ : ∀ b o, b ≠ L → s''.heap.get? b = some o → h₈.get? b = some o := fun b o hL e => (sb₈.2 b hL).trans (x₇ b o e)
            have ext₈ : Ext B h₈ := fun b o e => k₈ b o (fun q => by rw [q, H.bL] at e; cases e) (hB b o e)
            refine ih (i + 1) (some x) (some x) n s'' _ hr' hi' ?_ (by (first | assumption | exact Nat.le_refl _ | exact Nat.zero_le _ | exact Nat.lt_succ_self _ | exact Nat.le_of_lt (by assumption) | exact Nat.succ_le_of_lt (by assumption) | lia)) (fun j => ?_) ⟨H.pB, H.bL, H.bI, ext₈, H''.it.at fun o e => k₈ I o (Ne.symm g.LI) e, H''.ls.at fun o e => k₈ ax o (Ne.symm g.Lax) e, _, .int x t₇, hns₈, by first | rfl | exact .head _ | exact .tail _ (.head _) | exact if_pos rfl | exact (if_neg (by decide)).trans rfl | simp, Rd.int _ _, fun x' e => by cases e; exact ⟨t₆, by simp [Ne.symm hne, h56]⟩⟩
              ((GSince.refl L I s'' H''.cls).step fun b o hL _ e => k₈ b o hL e)
            · rw [giOk_c] at hok; rw [if_neg h127, if_neg h0] at hok; exact hok
            · have this : ys (N - (n + 1 + 1) + (j + 1)) = gi r (some x) j := by
                have q := hys (j + 1)
                unfold gi at q
                rw [if_neg h127, if_neg h0] at q
                exact q
              rw [← this]; congr 1; lia
        · show env.scope.isCoroutine = false
          rw [g.sc]; kernel_rfl
        · unfold interactive; rw [g.sc]; kernel_rfl
end
end Mine
end

section
open PySem PySem.W PyProof.Rows PySem.Calls
open Sem (wp)
namespace Mine
structure GenE0 (G : Gd) (env : Env) (L : Addr) : Prop where
  sc : env.scope = scopeAt 4
  eo : EO (scopeAt 4) env
  loc : env.locals = L
  fr : env.frame = some L
  nm : G.nm = nmT
section
variable {G : Gd} {env : Env} {L ax : Addr} {B : Heap} {items : Array Value} {A : Around} {N : Nat} {ys : Nat → Option Int}
  {t1 t2 t3 t4 e1 e2 e3 : PySem.Expr} {f1 f2 f3 f4 : St → Option Bool}
noncomputable def gFunc (t1 t2 t3 t4 e1 e2 e3 : PySem.Expr) (b3 : List Stmt) (rp p1 p3 yp1 q1 p4 p2 yp2 q2 ap q3 ap0 cp q0 tp p9 fp : Pos) (ck : Nat) : List Stmt :=
  [.Assign [.Name (nmT 4) ap0] (.Constant .none ck cp) q0, .For (.Name (nmT 5) tp) (.Name (nmT 3) p9) (gBody t1 t2 t3 t4 e1 e2 e3 b3 rp p1 p3 yp1 q1 p4 p2 yp2 q2 ap q3) [] fp]
theorem seg_G {rp p1 p3 yp1 q1 p4 p2 yp2 q2 ap q3 ap0 cp q0 tp p9 fp : Pos} {ck : Nat} {b3 : List Stmt} (g : GenE0 G env L) (b : GBody G t1 t2 t3 t4 e1 e2 e3 f1 f2 f3 f4) (hb : Bud 2 A) {xs : List Int} (hI : IntsAre items.toList xs) (hok : giOk xs none = true) {n : Nat} (hn : n + 1 ≤ N)
    (hys : ∀ j, ys (N - (n + 1) + j) = gi xs none j) {s : Shared} {m : Str → Option Value} (pB : G.P B) (bL : B.get? L = none) (ext : Ext B s.heap) (hns : s.heap.Ns L m) (h3 : m (nmT 3) = some (.ref ax)) (hls : s.heap.IsList ax items) (hLa : L ≠ ax) :
    Seg (model G.prog G.w) A (genR B L N ys) (genY B L ax N ys) (n + 1) s (.func (gFunc t1 t2 t3 t4 e1 e2 e3 b3 rp p1 p3 yp1 q1 p4 p2 yp2 q2 ap q3 ap0 cp q0 tp p9 fp ck) env) ((model G.prog G.w).den (.func (gFunc t1 t2 t3 t4 e1 e2 e3 b3 rp p1 p3 yp1 q1 p4 p2 yp2 q2 ap q3 ap0 cp q0 tp p9 fp ck) env)) [] s := by
  have hLocal : ∀ x, x = nmT 3 ∨ x = nmT 4 → env.kindOf x = some .local := fun x hx => by
    show env.scope.names.lookup _ = _
    rw [g.sc]
    rcases hx with rfl | rfl <;> kernel_rfl
  have hcls : (env.scope.kind == .class || (env.scope.kind == .module && env.locals != env.globals)) = false := by rw [g.sc]; kernel_rfl
  have hne : nmT 3 ≠ nmT 4 := fun q => by have := nmT_inj _ _ q; lia
  refine seg_func ?_
  unfold gFunc
  refine seg_execs_cons (seg_stmt (wpAny_Assign_Name (wpAny_Constant_none (wpAny_storeName_local (hLocal _ (.inr rfl)) (by rw [g.loc]; exact hns) (fun h₁ hns₁ sb₁ => ?_) hcls)) rfl))
  rw [g.loc] at hns₁ sb₁
  have ext₁ : Ext B h₁ := fun b o e => (sb₁.2 b fun q => by rw [q, bL] at e; cases e).trans (ext b o e)
  have hls₁ : h₁.IsList ax items := hls.at fun o e => (sb₁.2 ax (Ne.symm hLa)).trans e
  refine seg_execs_cons (seg_For ?_ fun _ => rfl)
  refine wpAny_Name (wpAny_loadName_local g.eo.kind (hLocal _ (.inl rfl)) (by rw [g.loc]; exact hns₁) (v := .ref ax) (by simp [hne, h3]) ?_) (nmT_dbg 3)
  refine wpAny_pyIter_list (by exact hls₁) ?_
  intro p'
  have hIL : L ≠ h₁.objs.size := by obtain ⟨o, _, _, w, _⟩ := hns₁; exact Nat.ne_of_lt (Heap.lt_size w)
  have hIa : h₁.objs.size ≠ ax := by obtain ⟨o, w, _⟩ := hls₁; exact Nat.ne_of_gt (Heap.lt_size w)
  have bI : B.get? h₁.objs.size = none := by
    cases w : B.get? h₁.objs.size with
    | none => rfl
    | some o => have := ext₁ _ _ w; rw [get_fresh] at this; cases this
  have g' : GenE G env L h₁.objs.size ax := ⟨g.sc, g.eo, g.loc, g.fr, hIL, hLa, hIa, g.nm⟩
  have H : GenH G B L h₁.objs.size ax items 0 none none (h₁.push { cls := .type "list_iterator", data := .fields #[.ref ax, .int 0 0] }) :=
    ⟨pB, bL, bI, ext₁.trans (Ext.push _ _), ⟨_, Heap.get?_push_size _ rfl, rfl, rfl⟩, hls₁.push _, _, .none, hns₁.push _, by first | rfl | exact .head _ | exact .tail _ (.head _) | exact if_pos rfl | exact (if_neg (by decide)).trans rfl | simp, Rd.none, fun x e => by cases e⟩
  refine seg_L (B := B) g' b hb hI ?_ ?_ xs 0 none none n s _ (by first | rfl | exact .head _ | exact .tail _ (.head _) | exact if_pos rfl | exact (if_neg (by decide)).trans rfl | simp) (Nat.zero_le _) hok hn hys ?_ ?_
  · rfl
  · rfl
  · exact H
  refine ⟨⟨_, _, rfl, fun b o hL _ e => Ext.push _ _ b o ((sb₁.2 b hL).trans e)⟩, fun o e => ?_⟩
  have := Heap.lt_size e
  rw [sb₁.1] at this
  exact absurd this (Nat.lt_irrefl _)
end
end Mine
end

section
open PySem PySem.W PyProof.Rows PySem.Calls
open Sem (wp)
namespace Mine
section
variable {prog : Program} {w : World} {A : Around} {E : Value → Shared → Prop} {s : Shared}
theorem gen_special {a : Addr} {g n : Nat} {gs : GenState} {R : GenEnd} {Y : Protocol} {Q : Option Value → Shared → Prop} (hh : A.handled = none)
    (hl : s.heap.NoLimit) (hroom : A.depth < recursionLimit) (hg : s.heap.IsGen a g) (hgs : s.gens[g]? = some gs)
    (hgo : gs.Goes (model prog w) A.in1 R Y n (.send .none) (s.setGen g .running))
    (hY : ∀ v s₁ gs', gs'.bare = true → Y (n - 1) (s.setGen g .running) v s₁ (fun r' s'' => match n with
        | 0 => False
        | m + 1 => gs'.Goes (model prog w) A.in1 R Y m r' s'') → Q (some v) (s₁.setGen g gs'))
    (hR : ∀ r s₁, R n (s.setGen g .running) r s₁ → match r with
      | .ok (.ret .none) => ∀ h' e, Ext s₁.heap h' → s₁.heap.get? e = none → (∃ o, h'.get? e = some o ∧ o.cls = .type "StopIteration") → E (.ref e) { s₁.setGen g .finished with heap := h' }
      | .error e => wpAny (model prog w) A.in1 (Builtin.Generator.genLeft (.ref a) e : Sem Fin) (fun _ _ => False) E (s₁.setGen g .finished)
      | _ => False) :
    wpAny (model prog w) A (callSpecial? (.ref a) "__next__") Q E s := by
  refine wpAny_callSpecial?_slot (name := Str.ofString "__next__") hg.typeIs slot_gen_next
    (wpAny_call_entry slot_gen_next hg.typeIs entry_gen_next ?_ (args_gen_next _))
  show wpAny _ A.in1 (Builtin.Generator.genWake (.ref a) (.send .none)) _ _ s
  unfold Builtin.Generator.genWake
  refine wpAny_bind (wpAny_holding (wpAny_genNumber hg (wpAny_bind (wpAny_genState hgs ?_))))
  cases gs with
  | running => exact hgo.elim
  | finished => exact hgo.elim
  | _ =>
    refine wpAny_bind (wpAny_roomToWake hl hroom ?_)
    show wpAny _ A.in1 (.resume g (.send .none) [] _) _ _ s
    refine wpAny_resumeQ hgs hgo (fun x s₁ hx => ?_) (fun v s₁ gs' hb hv => ?_)
    · have hx := hR x s₁ hx
      cases x with
      | error e => exact wpAny_mono hx (fun _ _ f => f.elim) fun _ _ y => y
      | ok f =>
        cases f with
        | next => exact hx.elim
        | brk => exact hx.elim
        | cont => exact hx.elim
        | ret v =>
          cases v <;> first | (exact hx.elim) | skip
          show wpAny _ A.in1 (newExc (.type "StopIteration") [] >>= _) _ _ _
          refine wpAny_bind ?_
          simp only [newExc, newTuple]
          refine wpAny_bind (wpAny_newObj_type ?_ (by size_fits))
          refine wpAny_bind (m := firstArgMember _ _) (wpAny_of_eq (a := Value.none) (by first | rfl | (simp only [firstArgMember]; rfl)) ?_)
          refine wpAny_newObj_type ?_ (by size_fits)
          simp only [raiseNew]
          refine wpAny_bind (wpAny_bind (wpAny_handled ?_))
          first | rw [show A.in1.handled = none from hh] | rw [hh]
          refine wpAny_throw (hx _ _ (fun b o hb => Heap.get?_push_of_some _ (Heap.get?_push_of_some _ hb)) ?_ ⟨_, Heap.get?_push_size _ rfl, rfl⟩)
          exact fresh_of_ext (h := s₁.heap) (Ext.push s₁.heap _)
    · exact wpAny_pure ⟨v, rfl, hY v s₁ gs' hb hv⟩
theorem gen_next {a : Addr} {g n : Nat} {gs : GenState} {R : GenEnd} {Y : Protocol} {Q : Option Value → Shared → Prop} (hh : A.handled = none)
    (hl : s.heap.NoLimit) (hroom : A.depth < recursionLimit) (hg : s.heap.IsGen a g) (hgs : s.gens[g]? = some gs)
    (hgo : gs.Goes (model prog w) A.in1 R Y n (.send .none) (s.setGen g .running))
    (hY : ∀ v s₁ gs', gs'.bare = true → Y (n - 1) (s.setGen g .running) v s₁ (fun r' s'' => match n with
        | 0 => False
        | m + 1 => gs'.Goes (model prog w) A.in1 R Y m r' s'') → Q (some v) (s₁.setGen g gs'))
    (hR : ∀ r s₁, R n (s.setGen g .running) r s₁ → match r with
      | .ok (.ret .none) => ∀ h', Ext s₁.heap h' → Q none { s₁.setGen g .finished with heap := h' }
      | .error e => wpAny (model prog w) A.in1 (Builtin.Generator.genLeft (.ref a) e : Sem Fin) (fun _ _ => False) (fun x s' => wpAny (model prog w) A (do if ← isInstance x (.type "StopIteration") then pure none else throw x) Q E s') (s₁.setGen g .finished)
      | _ => False) :
    wpAny (model prog w) A (pyNext (.ref a)) Q E s := by
  unfold pyNext
  refine wpAny_bind (wpAny_attempt (gen_special hh hl hroom hg hgs hgo (fun v s₁ gs' hb hv => wpAny_pure (hY v s₁ gs' hb hv)) fun r s₁ hr => ?_))
  have hr' := hR r s₁ hr
  cases r with
  | error e => exact hr'
  | ok f =>
    cases f with
    | next => exact hr'.elim
    | brk => exact hr'.elim
    | cont => exact hr'.elim
    | ret v =>
      cases v <;> first | (exact hr'.elim) | skip
      intro h' e x hn ⟨o, ho, hc⟩
      exact wpAny_bind (wpAny_isInstance (T := "StopIteration") (b := true) ⟨_, ho, hc⟩ isSubtype_stop (wpAny_pure (hr' h' x)))
end
end Mine
end

section
open PySem PySem.W PyProof.Rows PySem.Calls
open Sem (wp)
namespace Mine

structure GFn (G : Gd) (a : Addr) (fd : FuncData) : Prop where
  at' : ∀ h, G.P h → ∃ o, h.get? a = some o ∧ o.data = .func fd ∧ h.CodeRec fd.code fd.qualname
  body : fd.body = .stmts (bodyAt 4)
  scope : fd.scope = scopeAt 4
  clos : fd.closure = []
  gl : fd.globals = mainGlobals
  bl : fd.builtins = builtinsNs
  nm : G.nm = nmT
  bind : ∀ (s : Shared) (v : Value), G.P s.heap → BindsTo s fd ⟨[v], []⟩ [(nmT 3, v)]

section
variable {G : Gd} {A : Around} {s : Shared} {E : Value → Shared → Prop}
theorem gcall {a : Addr} {fd : FuncData} {v : Value} {Q : Value → Shared → Prop} (f : GFn G a fd) (hd : A.depth ≤ 800) (hp : G.P s.heap)
    (hQ : ∀ env L m h₁ tk o, GenE0 G env L → s.heap.get? L = none → Ext s.heap h₁ → h₁.Ns L m → m (nmT 3) = some v → h₁.get? L = some o → Q (.ref h₁.objs.size) { s with gens := s.gens.push (.fresh (.func (bodyAt 4) env)), toks := tk, heap := h₁.push { cls := .type "generator", data := .fields #[.int s.gens.size 0, .str fd.name (tk - 2), .str fd.qualname (tk - 2 + 1)] } }) :
    wpAny (model G.prog G.w) A (call (.ref a) [v]) Q E s := by
  obtain ⟨o, ho, hdt, hcd⟩ := f.at' s.heap hp
  have hkind : fd.scope.kind = .function := by rw [f.scope]; kernel_rfl
  refine wpAny_call (codeAny_call_generator (by show A.depth < 1000; lia) ho hdt (by rw [f.scope]; kernel_rfl) (by rw [f.scope]; kernel_rfl) f.body hcd (f.bind s v hp _ _ _ _ ?_))
  rw [f.clos]
  refine wpAny_newFunctionEnv_cells hkind (fun y hy => ?_) fun env he s' x => ?_
  · rw [List.mem_singleton.mp hy]
    left; show fd.scope.names.lookup (nmT 3) = _; rw [f.scope]; kernel_rfl
  subst he
  dsimp only [newEnv] at x ⊢
  obtain ⟨h₁, tk, rfl, _⟩ := x.done
  have hk₁ : Ext s.heap h₁ := x.toInCall.keep
  refine ⟨(G.nl hp).keeps hk₁, ?_⟩
  have hns := x.toInCall.ns
  have hL : fd.scope.names.lookup (nmT 3) = some .local := by rw [f.scope]; kernel_rfl
  refine byC fun CC hCC => ?_
  obtain ⟨oL, es, ep, hoL, hr⟩ := id hns
  refine hCC ?_
  clear hCC
  have h3 := bindL_get (fun x => fd.scope.names.lookup x) hL [(nmT 3, v)] (fun _ => Option.none) (by simp) (.head _)
  exact hQ _ s.heap.objs.size _ h₁ (tk + 1 + 1) oL ⟨f.scope, ⟨hkind, f.gl, f.bl, fun _ e => by rw [← f.scope] at e; exact e, fun y hy => by
    exfalso
    have : ∀ p ∈ (scopeAt 4).names, p.2 ≠ NameKind.cell := by decide +kernel
    exact this _ (mem_of_lookupK hy) rfl⟩, rfl, rfl, f.nm⟩ (get_fresh _) hk₁ hns h3 hoL
end
end Mine
end

section
open PySem PySem.W PyProof.Rows PySem.Calls
open Sem (wp)
namespace Mine

noncomputable def Kept (L : Addr) (B h h' : Heap) : Prop := ∀ b o, b ≠ L → (¬ LI o ∨ ∃ o', B.get? b = some o') → h.get? b = some o → h'.get? b = some o
theorem Kept.trans {L : Addr} {B h h' h'' : Heap} (a : Kept L B h h') (b : Kept L B h' h'') : Kept L B h h'' := fun x o n c e => b x o n c (a x o n c e)
theorem Kept.of {L : Addr} {B h h' : Heap} (x : Ext h h') : Kept L B h h' := fun b o _ _ e => x b o e

structure GAt (G : Gd) (A : Around) (B : Heap) (L ax : Addr) (N : Nat) (ys : Nat → Option Int) (a g n : Nat) (s : Shared) : Prop where
  gen : s.heap.IsGen a g
  aL : a ≠ L
  bL : B.get? L = none
  ext : Ext B s.heap
  pB : G.P B
  go : ∃ gs I, s.gens[g]? = some gs ∧ B.get? I = none ∧ (I = L ∨ ∃ o, s.heap.get? I = some o ∧ LI o) ∧
    ∀ s'' : Shared, (∀ b ∈ [L, I, ax], ∀ o, s.heap.get? b = some o → s''.heap.get? b = some o) → Ext B s''.heap → gs.Goes (model G.prog G.w) A (genR B L N ys) (genY B L ax N ys) n (.send .none) s''

theorem bare_set {gens : Array GenState} {g : Nat} {x : GenState} (h : AllBare gens) (hx : x.bare = true) : AllBare (gens.setIfInBounds g x) := fun y hy => by
  rcases Array.mem_or_eq_of_mem_setIfInBounds hy with m | rfl
  · exact h y m
  · exact hx

theorem GAt.keep {G : Gd} {A : Around} {B : Heap} {L ax : Addr} {N : Nat} {ys : Nat → Option Int} {a g n : Nat} {s s' : Shared} (x : GAt G A B L ax N ys a g n s) (hg : s'.gens[g]? = s.gens[g]?)
    (k : ∀ b o, (b = L ∨ b = ax ∨ b = a ∨ LI o) → s.heap.get? b = some o → s'.heap.get? b = some o) (e : Ext B s'.heap) : GAt G A B L ax N ys a g n s' := by
  refine byC fun CC hCC => ?_
  obtain ⟨gs, I, hgs, bI, cI, hgo⟩ := x.go
  obtain ⟨o, nm, qn, ho, r⟩ := x.gen
  refine hCC ?_
  clear hCC
  refine ⟨⟨o, nm, qn, k a o (.inr (.inr (.inl rfl))) ho, r⟩, x.aL, x.bL, e, x.pB, gs, I, hg.trans hgs, bI, ?_, fun s'' hs'' hB => hgo s'' (fun b hb o e => hs'' b hb o ?_) hB⟩
  · rcases cI with q | ⟨o, e, c⟩
    · exact .inl q
    · exact .inr ⟨o, k I o (.inr (.inr (.inr c))) e, c⟩
  · simp only [List.mem_cons, List.not_mem_nil, or_false] at hb
    rcases hb with rfl | rfl | rfl
    · exact k _ o (.inl rfl) e
    · rcases cI with q | ⟨o', e', c⟩
      · exact k _ o (.inl q) e
      · rw [e] at e'; cases e'; exact k _ o (.inr (.inr (.inr c))) e
    · exact k _ o (.inr (.inl rfl)) e

section
variable {G : Gd} {A : Around} {B : Heap} {L ax : Addr} {N : Nat} {ys : Nat → Option Int} {a g n : Nat} {s : Shared} {E : Value → Shared → Prop}
theorem gat_special {Q : Option Value → Shared → Prop} (hA : Bud 2 A) (H : GAt G A.in1 B L ax N ys a g (n + 1) s) (hb : AllBare s.gens)
    (hi : ∀ y t h' tk gs, ys (N - (n + 1)) = some y → Kept L B s.heap h' → AllBare gs → (n ≠ 0 → GAt G A.in1 B L ax N ys a g n { s with heap := h', toks := tk, gens := gs }) → Q (some (.int y t)) { s with heap := h', toks := tk, gens := gs })
    (he : ∀ h' tk gs e, ys (N - (n + 1)) = none → Kept L B s.heap h' → AllBare gs → (∃ o, h'.get? e = some o ∧ o.cls = .type "StopIteration") → E (.ref e) { s with heap := h', toks := tk, gens := gs }) :
    wpAny (model G.prog G.w) A (callSpecial? (.ref a) "__next__") Q E s := by
  obtain ⟨gs, I, hgs, bI, cI, hgo⟩ := H.go
  have kept : ∀ {I' : Addr} {s₁ : Shared}, B.get? I' = none → GSince L I' (s.setGen g .running) s₁ → Kept L B s.heap s₁.heap := fun {I' s₁} bI' ⟨⟨h₁, tk₁, e1, k₁⟩, c⟩ b o hb hc e => by
    subst e1
    refine k₁ b o hb (fun q => ?_) e
    subst q
    rcases hc with hc | ⟨o', hc⟩
    · exact hc (c o e)
    · exact (no_some (bI') hc).elim
  refine gen_special hA.hh (G.nl (G.mono H.ext H.pB)) (by have := hA.dp; show A.depth < 1000; lia) H.gen hgs (hgo (s.setGen g .running) (fun _ _ _ e => e) H.ext) (fun v s₁ gs' hbare hy => ?_) fun r s₁ hr => ?_
  · obtain ⟨I', bI', ⟨y, t, hy, rfl⟩, hli, hsi, kap⟩ := hy
    have hk := kept bI' hsi
    obtain ⟨⟨h₁, tk₁, rfl, k₁⟩, c₁⟩ := id hsi
    have hy' : ys (N - (n + 1)) = some y := by rw [← hy]; congr 1; lia
    refine hi y t h₁ tk₁ _ hy' hk (bare_set (bare_set hb rfl) hbare) fun hn => ?_
    refine byC fun CC hCC => ?_
    obtain ⟨o, nm, qn, ho, hc, hr⟩ := H.gen
    refine hCC ?_
    clear hCC
    have extB : Ext B h₁ := fun b o e => hk b o (fun q => by rw [q, H.bL] at e; cases e) (.inr ⟨o, e⟩) (H.ext b o e)
    refine ⟨⟨o, nm, qn, hk a o H.aL (.inl fun q => by have := q.1; rw [hc] at this; simp at this) ho, hc, hr⟩, H.aL, H.bL, extB, H.pB, gs', I', ?_, bI', .inr hli, fun s'' hs'' hB => ?_⟩
    · show ((s.setGen g .running).setGen g gs').gens[g]? = _
      exact setGen_self (gs := .running) (setGen_self hgs)
    · rcases kap with q | kap
      · exact absurd q hn
      · exact kap s'' hs'' hB
  · refine byC fun CC hCC => ?_
    obtain ⟨I', bI', rfl, hy, hsi⟩ := hr
    have hk := kept bI' hsi
    obtain ⟨⟨h₁, tk₁, rfl, k₁⟩, c₁⟩ := id hsi
    refine hCC ?_
    clear hCC
    intro h' e x hn hst
    exact he h' tk₁ _ e hy (hk.trans (.of x)) (bare_set (bare_set hb rfl) rfl) hst
theorem gat_next {Q : Option Value → Shared → Prop} (hA : Bud 2 A) (H : GAt G A.in1 B L ax N ys a g (n + 1) s) (hb : AllBare s.gens)
    (hi : ∀ y t h' tk gs, ys (N - (n + 1)) = some y → Kept L B s.heap h' → AllBare gs → (n ≠ 0 → GAt G A.in1 B L ax N ys a g n { s with heap := h', toks := tk, gens := gs }) → Q (some (.int y t)) { s with heap := h', toks := tk, gens := gs })
    (he : ∀ h' tk gs, ys (N - (n + 1)) = none → Kept L B s.heap h' → AllBare gs → Q none { s with heap := h', toks := tk, gens := gs }) :
    wpAny (model G.prog G.w) A (pyNext (.ref a)) Q E s := by
  unfold pyNext
  refine wpAny_bind (wpAny_attempt (gat_special hA H hb (fun y t h' tk gs hy hk hbare hg => wpAny_pure (hi y t h' tk gs hy hk hbare hg)) fun h' tk gs e hy hk hbare hst => ?_))
  obtain ⟨o, ho, hc⟩ := hst
  exact wpAny_bind (wpAny_isInstance (T := "StopIteration") (b := true) ⟨_, ho, hc⟩ isSubtype_stop (wpAny_pure (he h' tk gs hy hk hbare)))
end
end Mine
end

section
open PySem PySem.W PyProof.Rows PySem.Calls
open Sem (wp)
namespace Mine

inductive GShape (G : Gd) : Prop where
  | mk (t1 t2 t3 t4 e1 e2 e3 : PySem.Expr) (f1 f2 f3 f4 : St → Option Bool) (b3 : List Stmt) (rp p1 p3 yp1 q1 p4 p2 yp2 q2 ap q3 ap0 cp q0 tp p9 fp : Pos) (ck : Nat) (hbody : bodyAt 4 = gFunc t1 t2 t3 t4 e1 e2 e3 b3 rp p1 p3 yp1 q1 p4 p2 yp2 q2 ap q3 ap0 cp q0 tp p9 fp ck) (gb : GBody G t1 t2 t3 t4 e1 e2 e3 f1 f2 f3 f4) : GShape G

section
variable {G : Gd} {sc : Scope} {n : Nat}
theorem gen_made {x : Str} {a : Addr} {fd : FuncData} {e : PySem.Expr} {p pos : Pos} {f : St → Option LV} (u : UName G sc x a) (gf : GFn G a fd) (sh : GShape G) (hns : NS e) (h : EvV G sc n e f)
    {A : Around} {env : Env} {H : List Addr} {st : St} {s : Shared} {ds : List PyData} {xs : List Int} {N k : Nat} {ys : Nat → Option Int} {Q : Value → Shared → Prop} {E : Value → Shared → Prop} (S : Sit G sc n A env H st s.heap) (hb : AllBare s.gens)
    (hf : eLst f st = some ds) (hz : zsOf ds = some xs) (hok : giOk xs none = true) (hk : k + 1 ≤ N) (hys : ∀ j, ys (N - (k + 1) + j) = gi xs none j)
    (hQ : ∀ D B L ax h' tk gs, Ext s.heap B → Ext B h' → B.get? D = none → AllBare gs → (∃ o, h'.get? L = some o) → (∃ o, h'.get? ax = some o) → (∃ o, B.get? ax = some o) → (∀ A0, Bud 2 A0 → GAt G A0 B L ax N ys D s.gens.size (k + 1) { s with heap := h', toks := tk, gens := gs }) → Q (.ref D) { s with heap := h', toks := tk, gens := gs }) :
    wpAny (model G.prog G.w) A (eval (.Call (.Name x p) [e] [] pos) env) Q E s := by
  obtain ⟨la, hla, ea⟩ := lst_some hf
  refine wpAny_Call_Name_kw (Name_function_global S.eo.kind (S.eo.glob x u.sc) (loadGlobal_global (by rw [S.eo.gl]; exact G.g S.p) u.mg ?_) u.db)
  have e1 : starEach [e] env = [(false, eval e env)] := by rw [hns [] env]; rfl
  refine callWith_of (P := G.P) (by rw [e1]; rfl) (fun h hh => ?_) ?_
  · obtain ⟨o, ho, fd, hd⟩ := u.fn h hh
    exact ⟨_, .inl rfl, keeper_fn ho hd⟩
  · rw [e1]
    refine evalArgs_plain (spliced_cons (h A env H st s la _ E S hla fun v h₁ t₁ x₁ r => spliced_nil ?_))
    have p₁ := (S.ext x₁).p
    refine ⟨p₁, ?_⟩
    refine byC fun CC hCC => ?_
    obtain ⟨ax, vs, rfl, hl, ra⟩ := r.lst ea
    refine hCC ?_
    clear hCC
    have hI := zs_are ra hz
    refine gcall (s := { s with heap := h₁, toks := t₁ }) gf (by have := S.bud.dp; lia) p₁ fun env' L m h₂ tk o ge hL x₂ hns₂ h3 hoL => ?_
    obtain ⟨oa, hoa, hla'⟩ := id hl
    have hLa : L ≠ ax := fun q => by subst q; exact (no_some (hL) hoa).elim
    have hD : h₁.get? h₂.objs.size = none := fresh_of_ext x₂
    refine hQ _ h₁ L ax _ _ _ x₁ (x₂.trans (Ext.push _ _)) hD (hb.push rfl) ⟨o, Ext.push _ _ _ _ hoL⟩ ⟨oa, Ext.push _ _ _ _ (x₂ _ _ hoa)⟩ ⟨oa, hoa⟩ fun A0 hA0 => ?_
    refine ⟨⟨_, _, _, Heap.get?_push_size _ rfl, rfl, rfl, rfl⟩, Nat.ne_of_gt (Heap.lt_size hoL), hL, x₂.trans (Ext.push _ _), p₁, _, L, Array.getElem?_push_size .., hL, .inl rfl, fun s'' hs'' hB => ⟨rfl, ?_⟩⟩
    obtain ⟨t1, t2, t3, t4, e1, e2, e3, f1, f2, f3, f4, b3, rp, p1, p3, yp1, q1, p4, p2, yp2, q2, ap, q3, ap0, cp, q0, tp, p9, fp, ck, hbody, gb⟩ := sh
    rw [hbody]
    refine seg_G ge gb hA0 hI hok hk hys p₁ hL hB (m := m) (hns₂.at' fun o e => hs'' L (by first | rfl | exact .head _ | exact .tail _ (.head _) | exact if_pos rfl | exact (if_neg (by decide)).trans rfl | simp) o (Ext.push _ _ _ _ e)) h3 (hl.at fun o e => hs'' ax (by simp) o (Ext.push _ _ _ _ (x₂ _ _ e))) hLa
end
end Mine
end

section
open PySem PySem.W PyProof.Rows PySem.Calls
open Sem (wp)
namespace Mine

noncomputable def EvVG (G : Gd) (sc : Scope) (n : Nat) (pe : PySem.Expr) (f : St → Option LV) : Prop :=
  ∀ (A : Around) (env : Env) (H : List Addr) (st : St) (s : Shared) (lv : LV) (Q : Value → Shared → Prop) (E : Value → Shared → Prop), Sit G sc n A env H st s.heap → AllBare s.gens → f st = some lv →
    (∀ v h' tk gs, Ext s.heap h' → AllBare gs → RO G H h' v lv → Q v { s with heap := h', toks := tk, gens := gs }) → wpAny (model G.prog G.w) A (eval pe env) Q E s
section
variable {G : Gd} {sc : Scope} {n : Nat}

theorem Bud.in1 {A : Around} (b : Bud (n + 1) A) : Bud n A.in1 := ⟨b.hh, by show A.depth + n ≤ 800; have := b.dp; (first | assumption | exact Nat.le_refl _ | exact Nat.zero_le _ | exact Nat.lt_succ_self _ | exact Nat.le_of_lt (by assumption) | exact Nat.succ_le_of_lt (by assumption) | lia), by have := b.un; show A.units + 1 + 20 * n ≤ 9000; lia⟩
theorem comp_enter {A : Around} {env : Env} {s : Shared} {E : Value → Shared → Prop} {scope : Scope} {e : PySem.Expr} {it : Value} {RR : Value → Addr → Result → Shared → Prop} (hkind : scope.kind = .function) (hcell : ∀ y ∈ scope.names, y.2 ≠ .cell)
    (h : ∀ h₃ tk C D m, s.heap.get? D = none → s.heap.get? C = none → D ≠ C → Ext s.heap h₃ → h₃.PlainList D #[] → h₃.Ns C m → codeAny (model G.prog G.w) A (.compStart e 0 it (.ref D) (compEnvC scope [] C env)) (RR (.ref D) C) { s with heap := h₃, toks := tk }) :
    wpAny (model G.prog G.w) A (newList []) (fun acc s₃ => wpAny (model G.prog G.w) A (newFunctionEnv scope env.globals [] [] env.qual none .none (some env)) (fun cenv s₄ =>
      codeAny (model G.prog G.w) A (.compStart e 0 it acc { cenv with scope := relabel scope env }) (RR acc cenv.locals) s₄) E s₃) E s := by
  refine wpAny_newObj_type (wpAny_newFunctionEnv hcell (by intro y hy; simp at hy) (fun h₃ hns₃ sb₃ => ?_) hkind)
  dsimp only at hns₃ sb₃ ⊢
  generalize hH2 : s.heap.push { cls := .type "list", dict := none, data := .seq ([] : List Value).toArray } = H2 at hns₃ sb₃ ⊢
  have hC : H2.objs.size = s.heap.objs.size + 1 := by rw [← hH2, Heap.size_push]
  have e2 : Ext s.heap H2 := hH2 ▸ Ext.push _ _
  have x₃ : Ext s.heap h₃ := fun b o e => (sb₃.2 b (by rw [hC]; exact Nat.ne_of_lt (Nat.lt_succ_of_lt (Heap.lt_size e)))).trans (Ext.push _ _ _ _ (e2 _ _ e))
  refine h h₃ _ H2.objs.size s.heap.objs.size _ (get_fresh _) (fresh_of_ext e2) (by rw [hC]; exact Nat.ne_of_lt (Nat.lt_succ_self _)) x₃ ⟨0, (sb₃.2 _ (by rw [hC]; exact Nat.ne_of_lt (Nat.lt_succ_self _))).trans (Ext.push _ _ _ _ (hH2 ▸ Heap.get?_push_size _ rfl))⟩ hns₃

end
end Mine
end

section
open PySem PySem.W PyProof.Rows PySem.Calls
open Sem (wp)
namespace Mine
section
variable {G : Gd} {sc : Scope} {n : Nat}
theorem notLI_ns {h : Heap} {C : Addr} {m : Str → Option Value} {o : Obj} (hn : h.Ns C m) (e : h.get? C = some o) : ¬ LI o := by
  obtain ⟨o', es, ep, ho, hd, _⟩ := hn
  rw [e] at ho; cases ho
  rintro ⟨_, vs, q⟩
  rw [hd] at q; cases q
theorem notLI_cls {o : Obj} {T : String} (e : o.cls = .type T) (h : T ≠ "list_iterator") : ¬ LI o := fun q => by
  have := q.1; rw [e] at this; exact h (by injection this)
theorem li_of {h : Heap} {a : Addr} {o₀ : Obj} (e : h.get? a = some o₀) (n : ¬ LI o₀) : ∀ o, h.get? a = some o → ¬ LI o := fun o q => Option.some.inj (e.symm.trans q) ▸ n
noncomputable def eComp0 (f : St → Option LV) : St → Option LV := fun st => (eLst f st).bind fun ds => (zsOf ds).bind fun xs => cond (giOk xs none) (match gi xs none 0 with
  | none => some (.d (.list []))
  | some _ => none) none
theorem EvVG.comp0 {x y z : Str} {a : Addr} {fd : FuncData} {e : PySem.Expr} {p ipos px py pos : Pos} {f : St → Option LV} {scope : Scope} (u : UName G sc x a) (gf : GFn G a fd) (sh : GShape G) (hns : NS e) (h : EvV G sc (n + 4) e f)
    (hkind : scope.kind = .function) (hfree : ∀ y ∈ scope.names, y.2 ≠ .free) (hcell : ∀ y ∈ scope.names, y.2 ≠ .cell) (hnames : ∀ y ∈ scope.names, y.2 = .local → scope.names.lookup y.1 = some .local) :
    EvVG G sc (n + 4) (.ListComp (.Name z py) [⟨.Name y px, .Call (.Name x p) [e] [] ipos, [], 0⟩] scope pos) (eComp0 f) := fun A env H st s lv Q E S hb q hQ => by
  unfold eComp0 at q
  refine bind_some (q) fun ds hds q => ?_
  refine bind_some (q) fun xs hxs q => ?_
  refine cond_elim (c := giOk xs none) q fun hok q => ?_
  cases hg0 : gi xs none 0 with
  | some _ => rw [hg0] at q; cases q
  | none =>
    rw [hg0] at q; cases q
    have hclos : closureFor scope env = pure [] := closureFor_none hfree
    rw [eval_ListComp]
    refine wpAny_comprehension_free (use := none) rfl (fun _ => rfl) hclos hkind hnames ?_
    refine gen_made (N := 1) (k := 0) (ys := gi xs none) u gf sh hns h S hb hds hxs hok (Nat.le_refl _) (fun j => by congr 1; lia) fun I B L ax h₁ t₁ gs₁ xB x₁ hI hb₁ hL hax haxB hG => ?_
    have b2 : Bud 2 A := S.bud.less (by lia)
    have H₁ := hG A.in1 (Bud.in1 (S.bud.less (by lia)))
    refine wpAny_pyIter_gen H₁.gen ?_
    refine comp_enter (s := { s with heap := h₁, toks := t₁, gens := gs₁ }) (RR := fun acc C => compPost (model G.prog G.w) A E none Q acc C) hkind hcell fun h₃ t₃ C D m hD hC hDC x₃ hDl hns₃ => ?_
    dsimp only at hD hC x₃
    have H₃ : GAt G A.in1 B L ax 1 (gi xs none) I s.gens.size (0 + 1) { s with heap := h₃, toks := t₃, gens := gs₁ } := H₁.keep rfl (fun b o _ e => x₃ b o e) (x₁.trans x₃)
    have loop : codeAny (model G.prog G.w) A (.compLoop (.ListComp (.Name z py) [⟨.Name y px, .Call (.Name x p) [e] [] ipos, [], 0⟩] scope pos) 0 (.ref I) (.ref D) (compEnvC scope [] C env))
          (compPost (model G.prog G.w) A E none Q (.ref D) C) { s with heap := h₃, toks := t₃, gens := gs₁ } := by
      refine codeAny_compLoop_tests (fun _ s' => s' = { s with heap := h₃, toks := t₃, gens := gs₁ }) ?_ 0 rfl
      rintro k s' rfl
      refine gat_next b2 H₃ hb₁ (fun y t h' tk gs hy => ?_) fun h' tk gs hy hk hbare => ?_
      · have : gi xs none 0 = some y := hy
        exact (no_some (hg0) this).elim
      · refine byC fun CC hCC => ?_
        obtain ⟨oL, hoL⟩ := hL
        have hCL : C ≠ L := fun q => by rw [q, hoL] at hC; cases hC
        have hDL : D ≠ L := fun q => by rw [q, hoL] at hD; cases hD
        obtain ⟨oC, es, ep, hoC, hr⟩ := id hns₃
        have hns' : h'.Ns C m := ⟨oC, es, ep, hk C oC hCL (.inl (notLI_ns hns₃ hoC)) hoC, hr⟩
        obtain ⟨j, hDl⟩ := hDl
        refine hCC ?_
        clear hCC
        have hD' := hk D _ hDL (.inl (notLI_cls rfl (by decide))) hDl
        refine ⟨m, hns', fun h'' sb => ?_⟩
        have Cs : ∀ b o, s.heap.get? b = some o → b ≠ C := fun b o e q => by rw [q] at e; have := x₁ _ _ (xB _ _ e); exact (no_some (hC) this).elim
        have xx : Ext s.heap h'' := fun b o e => by
          have eB := xB _ _ e
          exact (sb.2 b (Cs b o e)).trans (hk b o (fun q => by rw [q, H₁.bL] at eB; cases eB) (.inr ⟨o, eB⟩) (x₃ _ _ (x₁ _ _ eB)))
        have nD : s.heap.get? D = none := by
          cases w : s.heap.get? D with
          | none => rfl
          | some o => have := x₁ _ _ (xB _ _ w); exact (no_some (hD) this).elim
        exact hQ _ h'' tk gs xx hbare (Rd.list0 (hideAll_get H ((sb.2 D hDC).trans hD') (S.hok.not_mem nD)) .nil)
    exact codeAny_compStart_list loop (wpAny_pyIter_gen H₃.gen loop)
end
end Mine
end

section
open PySem PySem.W PyProof.Rows PySem.Calls
open Sem (wp)
namespace Mine

section
variable {G : Gd} {A : Around} {B : Heap} {L ax : Addr} {N : Nat} {ys : Nat → Option Int} {a g n : Nat} {s : Shared}
theorem GAt.touch (x : GAt G A B L ax N ys a g n s) {c : Addr} {h' : Heap} {tk : Nat} (sb : Heap.SameBut c s.heap h') (cL : c ≠ L) (cx : c ≠ ax) (ca : c ≠ a) (cI : ∀ o, s.heap.get? c = some o → ¬ LI o) (cB : B.get? c = none) : GAt G A B L ax N ys a g n { s with heap := h', toks := tk } :=
  x.keep rfl (fun b o hb e => (sb.2 b fun q => by
    subst q
    rcases hb with q | q | q | q
    · exact cL q
    · exact cx q
    · exact ca q
    · exact cI o e q).trans e) fun b o e => (sb.2 b fun q => by rw [q, cB] at e; cases e).trans (x.ext b o e)
theorem GAt.more (x : GAt G A B L ax N ys a g n s) {h' : Heap} {tk : Nat} (e : Ext s.heap h') : GAt G A B L ax N ys a g n { s with heap := h', toks := tk } :=
  x.keep rfl (fun b o _ q => e b o q) (x.ext.trans e)
end

structure ZAp (B : Heap) (L ax z TI TO r1 D : Addr) : Prop where
  zTI : z ≠ TI
  zTO : z ≠ TO
  zr : z ≠ r1
  zL : z ≠ L
  zx : z ≠ ax
  zD : z ≠ D
  TIO : TI ≠ TO
  TIr : TI ≠ r1
  TIL : TI ≠ L
  TOr : TO ≠ r1
  TOL : TO ≠ L
  TOx : TO ≠ ax
  TOD : TO ≠ D
  rL : r1 ≠ L
  rx : r1 ≠ ax
  rD : r1 ≠ D
  zB : B.get? z = none
  TOB : B.get? TO = none
  rB : B.get? r1 = none
  LB : B.get? L = none

noncomputable def KeptZ (B : Heap) (L z TO r1 : Addr) (h h' : Heap) : Prop := ∀ b o, b ≠ z → b ≠ TO → b ≠ r1 → b ≠ L → (¬ LI o ∨ ∃ o', B.get? b = some o') → h.get? b = some o → h'.get? b = some o

section
variable {G : Gd} {A : Around} {B : Heap} {L ax z TI TO r1 D : Addr} {N : Nat} {ys : Nat → Option Int} {g k : Nat} {s : Shared} {E : Value → Shared → Prop} {j : Nat} {a b : Value}
theorem range_special {it : Addr} {x left step : Int} {Q : Option Value → Shared → Prop} (hit : IsRangeIter s.heap it x left step) (hleft : 0 < left)
    (hQ : ∀ h', IsRangeIter h' it (x + step) (left - 1) step → Heap.SameBut it s.heap h' → Q (some (.int x s.toks)) { s with heap := h', toks := s.toks + 1 }) :
    wpAny (model G.prog G.w) A (callSpecial? (.ref it) "__next__") Q E s := by
  have hT : s.TypeIs (.ref it) "range_iterator" := ⟨_, hit, rfl⟩
  refine wpAny_callSpecial?_slot (name := Str.ofString "__next__") hT F.slot_range_iterator_next
    (call_meets F.slot_range_iterator_next hT F.entry_range_iterator_next (F.args_range_iterator_next_1 _) (AutoRange.range_iterator___next___range_iterator_1 it x left step (by lia)) ⟨hit, ?_⟩)
  exact hQ _ (Heap.get?_update_self _ (Heap.get?_update_self _ hit rfl) rfl) ((Heap.SameBut.update ..).trans (Heap.SameBut.update ..))
theorem zipg_item {Q : Value → Shared → Prop} (hA : Bud 2 A) (P : ZAp B L ax z TI TO r1 D) (hz : IsZip s.heap z TI TO .none) (hTI : IsPair s.heap TI (.ref r1) (.ref D)) (hTO : IsPair s.heap TO a b) (hr : IsRangeIter s.heap r1 j (8 - (j : Int)) 1) (hj : j < 8)
    (H : GAt G A.in1 B L ax N ys D g (k + 1) s) (hb : AllBare s.gens)
    (hi : ∀ (y : Int) (t u : Tok) (h' : Heap) (tk : Nat) (gs : Array GenState) (T : Addr), ys (N - (k + 1)) = some y → KeptZ B L z TO r1 s.heap h' → AllBare gs → IsZip h' z TI TO (rawInt T) → IsPair h' T (.int j u) (.int y t) → (∃ a b, IsPair h' TO a b) → IsRangeIter h' r1 ((j + 1 : Nat) : Int) (8 - ((j + 1 : Nat) : Int)) 1 →
      (k ≠ 0 → GAt G A.in1 B L ax N ys D g k { s with heap := h', toks := tk, gens := gs }) → Q (.ref T) { s with heap := h', toks := tk, gens := gs })
    (he : ∀ h' tk gs e, ys (N - (k + 1)) = none → KeptZ B L z TO r1 s.heap h' → AllBare gs → (∃ o, h'.get? e = some o ∧ o.cls = .type "StopIteration") → E (.ref e) { s with heap := h', toks := tk, gens := gs }) :
    wpAny (model G.prog G.w) A (Builtin.«zip.__next__» ⟨[.ref z], []⟩) (fun fin s' => ∃ v, fin = .done (.ret v) ∧ Q v s') E s := by
  show wpAny _ _ (field (.ref z) 2 >>= _) _ _ _
  refine wpAny_bind (wpAny_field hz rfl (x := .bool false) rfl ?_)
  show wpAny _ _ (field (.ref z) 3 >>= _) _ _ _
  refine wpAny_bind (wpAny_field hz rfl (x := .ref TI) rfl ?_)
  refine wpAny_bind (wpAny_seqItems hTI rfl ?_)
  show wpAny _ _ (Builtin.SmallTypes.ownedTupleIsFree (.ref z) >>= _) _ _ _
  refine wpAny_bind ?_
  unfold Builtin.SmallTypes.ownedTupleIsFree
  refine wpAny_bind (wpAny_field hz rfl (x := .none) rfl (wpAny_pure ?_))
  simp only [if_true]
  refine wpAny_bind (wpAny_rule ?_)
  refine wpAny_bind (wpAny_field hz rfl (x := .ref TO) rfl ?_)
  refine wpAny_bind (wpAny_setField_rec hz (by simp) fun h₁ hz₁ hs₁ => ?_)
  replace hz₁ : IsZip h₁ z TI TO .ellipsis := hz₁
  refine wpAny_bind ?_
  simp only [List.zipIdx_cons, List.zipIdx_nil, List.forIn_cons, List.forIn_nil]
  refine wpAny_bind (wpAny_bind (wpAny_onRaise ?_))
  show wpAny _ _ (Builtin.SmallTypes.nextOf (.ref r1) >>= _) _ _ _
  unfold Builtin.SmallTypes.nextOf
  have hr₁ : IsRangeIter h₁ r1 j (8 - (j : Int)) 1 := (hs₁.2 r1 (Ne.symm P.zr)).trans hr
  refine wpAny_bind (wpAny_bind (range_special (s := { s with heap := h₁ }) hr₁ (by lia) fun h₂ hr₂ hs₂ => wpAny_pure (wpAny_pure ?_)))
  have hTO₂ : IsPair h₂ TO a b := (hs₂.2 TO P.TOr).trans ((hs₁.2 TO (Ne.symm P.zTO)).trans hTO)
  refine wpAny_bind (wpAny_seqItems hTO₂ rfl ?_)
  refine wpAny_bind (wpAny_updateSeq_pair hTO₂ fun h₃ hTO₃ hs₃ => ?_)
  replace hTO₃ : IsPair h₃ TO (.int j s.toks) b := hTO₃
  refine wpAny_bind (wpAny_letGo (wpAny_pure ?_))
  refine wpAny_bind (wpAny_bind (wpAny_onRaise ?_))
  show wpAny _ _ (Builtin.SmallTypes.nextOf (.ref D) >>= _) _ _ _
  unfold Builtin.SmallTypes.nextOf
  have k₁ : ∀ c o, c ≠ z → s.heap.get? c = some o → h₁.get? c = some o := fun c o n e => (hs₁.2 c n).trans e
  have k₂ : ∀ c o, c ≠ r1 → h₁.get? c = some o → h₂.get? c = some o := fun c o n e => (hs₂.2 c n).trans e
  have k₃ : ∀ c o, c ≠ TO → h₂.get? c = some o → h₃.get? c = some o := fun c o n e => (hs₃.2 c n).trans e
  have H₁ := H.touch (tk := s.toks) hs₁ P.zL P.zx P.zD (li_of hz (notLI_cls rfl (by decide))) P.zB
  have H₂ := H₁.touch (tk := s.toks + 1) hs₂ P.rL P.rx P.rD (li_of hr₁ (notLI_cls rfl (by decide))) P.rB
  have H₃ := H₂.touch (tk := s.toks + 1) hs₃ P.TOL P.TOx P.TOD (li_of hTO₂ (notLI_cls rfl (by decide))) P.TOB
  have hz₃ : IsZip h₃ z TI TO .ellipsis := k₃ z _ P.zTO (k₂ z _ P.zr hz₁)
  refine wpAny_bind (wpAny_bind (gat_special hA H₃ hb (fun y t h₄ tk₄ gs₄ hy hk₄ hb₄ hG₄ => wpAny_pure (wpAny_pure ?_)) fun h₄ tk₄ gs₄ e hy hk₄ hb₄ hst => ?_))
  · have hTO₄ : IsPair h₄ TO (.int j s.toks) b := hk₄ TO _ P.TOL (.inl (notLI_cls rfl (by decide))) hTO₃
    refine wpAny_bind (wpAny_seqItems hTO₄ rfl ?_)
    refine wpAny_bind (wpAny_updateSeq_pair hTO₄ fun h₅ hTO₅ hs₅ => ?_)
    replace hTO₅ : IsPair h₅ TO (.int j s.toks) (.int y t) := hTO₅
    refine wpAny_bind (wpAny_letGo (wpAny_pure (wpAny_pure ?_)))
    refine wpAny_bind (wpAny_seqItems hTO₅ rfl ?_)
    refine wpAny_bind (wpAny_newTuple ?_)
    have k₅ : ∀ c o, c ≠ TO → h₄.get? c = some o → h₅.get? c = some o := fun c o n e => (hs₅.2 c n).trans e
    have hz₅ : IsZip h₅ z TI TO .ellipsis := k₅ z _ P.zTO (hk₄ z _ P.zL (.inl (notLI_cls rfl (by decide))) hz₃)
    have hr₅ : IsRangeIter h₅ r1 ((j : Int) + 1) (8 - (j : Int) - 1) 1 := k₅ r1 _ (Ne.symm P.TOr) (hk₄ r1 _ P.rL (.inl (notLI_cls rfl (by decide))) (k₃ r1 _ (Ne.symm P.TOr) hr₂))
    show wpAny _ _ (Builtin.SmallTypes.ownedTupleHandOut (.ref z) (.ref h₅.objs.size) >>= _) _ _ _
    refine wpAny_bind ?_
    unfold Builtin.SmallTypes.ownedTupleHandOut
    have hz₆ : IsZip (h₅.push { cls := .type "tuple", data := .seq #[.int j s.toks, .int y t] }) z TI TO .ellipsis := Heap.get?_push_of_some _ hz₅
    refine wpAny_bind (wpAny_setField_rec hz₆ (by simp) fun h₇ hz₇ hs₇ => ?_)
    replace hz₇ : IsZip h₇ z TI TO (rawInt h₅.objs.size) := hz₇
    refine wpAny_setField_rec hz₇ (by simp) fun h₈ hz₈ hs₈ => ?_
    replace hz₈ : IsZip h₈ z TI TO (rawInt h₅.objs.size) := hz₈
    have up : ∀ c o, c ≠ z → (h₅.push { cls := .type "tuple", data := .seq #[.int j s.toks, .int y t] }).get? c = some o → h₈.get? c = some o := fun c o c1 e => hs₈.extBut _ _ c1 (hs₇.extBut _ _ c1 e)
    have hTz : h₅.objs.size ≠ z := Nat.ne_of_gt (Heap.lt_size hz₅)
    have kk : KeptZ B L z TO r1 s.heap h₅ := fun c o c1 c2 c3 c4 c5 e => k₅ c o c2 (hk₄ c o c4 c5 (k₃ c o c2 (k₂ c o c3 (k₁ c o c1 e))))
    refine wpAny_pure ⟨_, rfl, ?_⟩
    refine hi y t _ h₈ tk₄ gs₄ h₅.objs.size hy (fun c o c1 c2 c3 c4 c5 e => up c o c1 (Heap.get?_push_of_some _ (kk c o c1 c2 c3 c4 c5 e))) hb₄ hz₈ (up _ _ hTz (Heap.get?_push_size _ rfl)) ⟨_, _, up TO _ (Ne.symm P.zTO) (Heap.get?_push_of_some _ hTO₅)⟩ ?_ fun hk0 => ?_
    · have := up r1 _ (Ne.symm P.zr) (Heap.get?_push_of_some { cls := .type "tuple", data := .seq #[.int j s.toks, .int y t] } hr₅)
      have e1 : ((j + 1 : Nat) : Int) = (j : Int) + 1 := by lia
      have e2 : 8 - ((j + 1 : Nat) : Int) = 8 - (j : Int) - 1 := by lia
      rw [e2, e1]; exact this
    · have H₄ := hG₄ hk0
      have H₅ := H₄.touch (tk := tk₄) hs₅ P.TOL P.TOx P.TOD (li_of hTO₄ (notLI_cls rfl (by decide))) P.TOB
      have H₆ := H₅.more (tk := tk₄) (Ext.push _ { cls := .type "tuple", data := .seq #[.int j s.toks, .int y t] })
      have H₇ := H₆.touch (tk := tk₄) hs₇ P.zL P.zx P.zD (li_of hz₆ (notLI_cls rfl (by decide))) P.zB
      exact H₇.touch (tk := tk₄) hs₈ P.zL P.zx P.zD (li_of hz₇ (notLI_cls rfl (by decide))) P.zB
  · obtain ⟨oe, hoe, hce⟩ := hst
    have hz₄ : IsZip h₄ z TI TO .ellipsis := hk₄ z _ P.zL (.inl (notLI_cls rfl (by decide))) hz₃
    have hez : e ≠ z := fun x => by subst x; rw [hz₄] at hoe; cases hoe; simp at hce
    refine wpAny_setField_rec hz₄ (by simp) fun h₅ _ hs₅ => he h₅ tk₄ gs₄ e hy (fun c o c1 c2 c3 c4 c5 x => hs₅.extBut _ _ c1 (hk₄ c o c4 c5 (k₃ c o c2 (k₂ c o c3 (k₁ c o c1 x))))) hb₄ ⟨oe, hs₅.extBut _ _ hez hoe, hce⟩
end
end Mine
end

section
open PySem PySem.W PyProof.Rows PySem.Calls
open Sem (wp)
namespace Mine
section
variable {G : Gd} {A : Around} {B : Heap} {L ax z TI TO r1 D : Addr} {N : Nat} {ys : Nat → Option Int} {g k : Nat} {s : Shared} {E : Value → Shared → Prop} {j : Nat} {a b : Value}
theorem range_stop {it : Addr} {x left step : Int} {Q : Option Value → Shared → Prop} (hh : A.handled = none) (hit : IsRangeIter s.heap it x left step) (hleft : left ≤ 0)
    (hE : ∀ h' e, Ext s.heap h' → (∃ o, h'.get? e = some o ∧ o.cls = .type "StopIteration") → E (.ref e) { s with heap := h' }) :
    wpAny (model G.prog G.w) A (callSpecial? (.ref it) "__next__") Q E s := by
  have hT : s.TypeIs (.ref it) "range_iterator" := ⟨_, hit, rfl⟩
  refine wpAny_callSpecial?_slot (name := Str.ofString "__next__") hT F.slot_range_iterator_next
    (wpAny_call_entry F.slot_range_iterator_next hT F.entry_range_iterator_next ?_ (F.args_range_iterator_next_1 _))
  show wpAny _ _ (field (.ref it) 0 >>= _) _ _ s
  refine wpAny_bind (wpAny_field hit rfl (x := rawInt x) rfl ?_)
  show wpAny _ _ (field (.ref it) 1 >>= _) _ _ s
  refine wpAny_bind (wpAny_field hit rfl (x := rawInt left) rfl ?_)
  show wpAny _ _ (field (.ref it) 2 >>= _) _ _ s
  refine wpAny_bind (wpAny_field hit rfl (x := rawInt step) rfl ?_)
  show wpAny _ _ (if left ≤ 0 then _ else _) _ _ s
  rw [if_pos hleft]
  refine wpAny_bind (wpAny_rule ?_)
  refine wpAny_bind ?_
  show wpAny _ _ (newExc (.type "StopIteration") [] >>= _) _ _ _
  refine wpAny_bind ?_
  simp only [newExc, newTuple]
  refine wpAny_bind (wpAny_newObj_type ?_ (by size_fits))
  refine wpAny_bind (m := firstArgMember _ _) (wpAny_of_eq (a := Value.none) (by first | rfl | (simp only [firstArgMember]; rfl)) ?_)
  refine wpAny_newObj_type ?_ (by size_fits)
  simp only [raiseNew]
  refine wpAny_bind (wpAny_handled ?_)
  first | rw [show A.in1.handled = none from hh] | rw [hh]
  refine wpAny_bind (wpAny_pure (wpAny_throw ?_))
  exact hE _ _ ((Ext.push _ _).trans (Ext.push _ _)) ⟨_, Heap.get?_push_size _ rfl, rfl⟩
theorem zipg_end {Q : Fin → Shared → Prop} (hA : Bud 2 A) (P : ZAp B L ax z TI TO r1 D) (hz : IsZip s.heap z TI TO .none) (hTI : IsPair s.heap TI (.ref r1) (.ref D)) (hr : IsRangeIter s.heap r1 j (8 - (j : Int)) 1) (hj : 8 ≤ j)
    (he : ∀ h' e, (∀ b o, b ≠ z → s.heap.get? b = some o → h'.get? b = some o) → (∃ o, h'.get? e = some o ∧ o.cls = .type "StopIteration") → E (.ref e) { s with heap := h' }) :
    wpAny (model G.prog G.w) A (Builtin.«zip.__next__» ⟨[.ref z], []⟩) Q E s := by
  show wpAny _ _ (field (.ref z) 2 >>= _) _ _ _
  refine wpAny_bind (wpAny_field hz rfl (x := .bool false) rfl ?_)
  show wpAny _ _ (field (.ref z) 3 >>= _) _ _ _
  refine wpAny_bind (wpAny_field hz rfl (x := .ref TI) rfl ?_)
  refine wpAny_bind (wpAny_seqItems hTI rfl ?_)
  show wpAny _ _ (Builtin.SmallTypes.ownedTupleIsFree (.ref z) >>= _) _ _ _
  refine wpAny_bind ?_
  unfold Builtin.SmallTypes.ownedTupleIsFree
  refine wpAny_bind (wpAny_field hz rfl (x := .none) rfl (wpAny_pure ?_))
  simp only [if_true]
  refine wpAny_bind (wpAny_rule ?_)
  refine wpAny_bind (wpAny_field hz rfl (x := .ref TO) rfl ?_)
  refine wpAny_bind (wpAny_setField_rec hz (by simp) fun h₁ hz₁ hs₁ => ?_)
  replace hz₁ : IsZip h₁ z TI TO .ellipsis := hz₁
  refine wpAny_bind ?_
  simp only [List.zipIdx_cons, List.zipIdx_nil, List.forIn_cons, List.forIn_nil]
  refine wpAny_bind (wpAny_bind (wpAny_onRaise ?_))
  show wpAny _ _ (Builtin.SmallTypes.nextOf (.ref r1) >>= _) _ _ _
  unfold Builtin.SmallTypes.nextOf
  have hr₁ : IsRangeIter h₁ r1 j (8 - (j : Int)) 1 := (hs₁.2 r1 (Ne.symm P.zr)).trans hr
  refine wpAny_bind (wpAny_bind (range_stop (s := { s with heap := h₁ }) hA.hh hr₁ (by lia) fun h₂ e hx hst => ?_))
  obtain ⟨oe, hoe, hce⟩ := hst
  have hz₂ : IsZip h₂ z TI TO .ellipsis := hx _ _ hz₁
  have hez : e ≠ z := fun x => by subst x; rw [hz₂] at hoe; cases hoe; simp at hce
  refine wpAny_setField_rec hz₂ (by simp) fun h₃ _ hs₃ => he h₃ e (fun c o c1 x => hs₃.extBut _ _ c1 (hx _ _ ((hs₁.2 c c1).trans x))) ⟨oe, hs₃.extBut _ _ hez hoe, hce⟩

structure ZSt (G : Gd) (A : Around) (B : Heap) (L ax z TI TO r1 D : Addr) (N : Nat) (ys : Nat → Option Int) (g k j : Nat) (s : Shared) : Prop where
  z : IsZip s.heap z TI TO .none
  ti : IsPair s.heap TI (.ref r1) (.ref D)
  to : ∃ a b, IsPair s.heap TO a b
  r : IsRangeIter s.heap r1 j (8 - (j : Int)) 1
  g : j < 8 → GAt G A.in1.in1 B L ax N ys D g (k + 1) s
  b : AllBare s.gens
theorem zip_next {Q : Option Value → Shared → Prop} (hA : Bud 3 A) (P : ZAp B L ax z TI TO r1 D) (Z : ZSt G A B L ax z TI TO r1 D N ys g k j s)
    (hi : ∀ (y : Int) (t u : Tok) (h' : Heap) (tk : Nat) (gs : Array GenState) (T : Addr), j < 8 → ys (N - (k + 1)) = some y → KeptZ B L z TO r1 s.heap h' → AllBare gs → IsZip h' z TI TO (rawInt T) → IsPair h' T (.int j u) (.int y t) → (∃ a b, IsPair h' TO a b) → IsRangeIter h' r1 ((j + 1 : Nat) : Int) (8 - ((j + 1 : Nat) : Int)) 1 →
      (k ≠ 0 → GAt G A.in1.in1 B L ax N ys D g k { s with heap := h', toks := tk, gens := gs }) → Q (some (.ref T)) { s with heap := h', toks := tk, gens := gs })
    (he : ∀ h' tk gs, (8 ≤ j ∨ ys (N - (k + 1)) = none) → KeptZ B L z TO r1 s.heap h' → AllBare gs → Q none { s with heap := h', toks := tk, gens := gs }) :
    wpAny (model G.prog G.w) A (pyNext (.ref z)) Q E s := by
  have hT : s.TypeIs (.ref z) "zip" := ⟨_, Z.z, rfl⟩
  obtain ⟨a, b, hTO⟩ := Z.to
  unfold pyNext
  refine wpAny_bind (wpAny_attempt (wpAny_callSpecial?_slot (name := Str.ofString "__next__") hT F.slot_zip_next (wpAny_call_entry F.slot_zip_next hT F.entry_zip_next ?_ (F.args_zip_next_1 _))))
  by_cases hj : j < 8
  · refine zipg_item (Bud.in1 hA) P Z.z Z.ti hTO Z.r hj (Z.g hj) Z.b (fun y t u h' tk gs T hy hk hb hz hp hto hr hG => ?_) fun h' tk gs e hy hk hb hst => ?_
    · exact wpAny_pure (hi y t u h' tk gs T hj hy hk hb hz hp hto hr hG)
    · obtain ⟨o, ho, hc⟩ := hst
      exact wpAny_bind (wpAny_isInstance (T := "StopIteration") (b := true) ⟨_, ho, hc⟩ isSubtype_stop (wpAny_pure (he h' tk gs (.inr hy) hk hb)))
  · refine zipg_end (Bud.in1 hA) P Z.z Z.ti Z.r (by lia) fun h' e hk hst => ?_
    obtain ⟨o, ho, hc⟩ := hst
    exact wpAny_bind (wpAny_isInstance (T := "StopIteration") (b := true) ⟨_, ho, hc⟩ isSubtype_stop (wpAny_pure (he h' s.toks s.gens (.inl (by lia)) (fun c o c1 _ _ _ _ e => hk c o c1 e) Z.b)))
end

section
variable {prog : Program} {w : World} {A : Around} {R : Result → Shared → Prop} {s : Shared}
theorem compLoop_own {elt target iter : PySem.Expr} {ifs : List PySem.Expr} {scope : Scope} {pos : Pos} {it acc : Value} {env : Env} (I : Nat → Shared → Prop)
    (turn : ∀ n s, I n s → wpAny (model prog w) A (pyNext it) (fun r s₁ => match r with
      | none => R (.ok .next) s₁
      | some v => wpAny (model prog w) A (letOwnedTupleGo target it v) (fun _ s₁' => wpAny (model prog w) A (assign target env v) (fun _ s₂ =>
          wpAny (model prog w) A (forIn ifs true fun c r => if r = true then do let ok ← isTrue c env (eval c env); pure (ForInStep.yield ok) else pure (ForInStep.yield r)) (fun ok s₃ =>
            if ok = true then wpAny (model prog w) A (eval elt env) (fun x s₄ =>
              wpAny (model prog w) A (call (.builtin "list.append") [acc, x]) (fun _ s₅ => ∃ m, m < n ∧ I m s₅) (notedBy (model prog w) A env fun e s' => R (.error e) s') s₄) (notedBy (model prog w) A env fun e s' => R (.error e) s') s₃
            else ∃ m, m < n ∧ I m s₃) (notedBy (model prog w) A env fun e s' => R (.error e) s') s₂) (notedBy (model prog w) A env fun e s' => R (.error e) s') s₁') (notedBy (model prog w) A env fun e s' => R (.error e) s') s₁) (notedBy (model prog w) A env fun e s' => R (.error e) s') s)
    (n : Nat) (h : I n s) : codeAny (model prog w) A (.compLoop (.ListComp elt [⟨target, iter, ifs, 0⟩] scope pos) 0 it acc env) R s := by
  refine codeAny_loop rfl I (fun n s hI => ?_) n h
  show wpAny _ A ((compTurn (.ListComp elt [⟨target, iter, ifs, 0⟩] scope pos) 0 it acc env).onRaise (fun x => do noteFrame x env; theTreesLotGoes x)) _ _ s
  refine wpAny_noted ?_
  rw [compTurn_list]
  refine wpAny_bind (wpAny_standAt (wpAny_bind (wpAny_mono (turn n s hI) (fun r s₁ h₁ => ?_) fun _ _ h' => h')))
  cases r with
  | none => exact wpAny_pure h₁
  | some v =>
    refine wpAny_bind (wpAny_mono h₁ (fun _ s₁' h₁' => ?_) fun _ _ h' => h')
    refine wpAny_bind (wpAny_mono h₁' (fun _ s₂ h₂ => wpAny_bind (wpAny_mono h₂ (fun ok s₃ h₃ => ?_) fun _ _ h' => h')) fun _ _ h' => h')
    cases ok with
    | false => exact wpAny_pure ⟨rfl, h₃⟩
    | true =>
      exact wpAny_bind (wpAny_bind (wpAny_mono h₃ (fun x s₄ h₄ => wpAny_bind (wpAny_mono h₄ (fun _ s₅ h₅ => wpAny_pure (wpAny_pure ⟨rfl, h₅⟩)) fun _ _ h' => h')) fun _ _ h' => h'))
end
end Mine
end

section
open PySem PySem.W PyProof.Rows PySem.Calls
open Sem (wp)
namespace Mine
noncomputable def zTake (ys : Nat → Option Int) : Nat → Nat → List Int
  | 0, _ => []
  | r + 1, j => match ys j with
    | none => []
    | some y => y :: zTake ys r (j + 1)
theorem zTake_some {ys : Nat → Option Int} {r j : Nat} {y : Int} (h : ys j = some y) : zTake ys (r + 1) j = y :: zTake ys r (j + 1) := by
  show (match ys j with | none => [] | some y => y :: zTake ys r (j + 1)) = _
  rw [h]
theorem ints_snoc {vs : List Value} {ns : List Int} (h : IntsAre vs ns) (y : Int) (t : Tok) : IntsAre (vs ++ [.int y t]) (ns ++ [y]) := IntsAre.rec (motive := fun vs ns _ => IntsAre (vs ++ [.int y t]) (ns ++ [y])) (.cons y t .nil) (fun n u _ _ _ ih => .cons n u ih) h
structure CAp (B : Heap) (L ax z TI TO r1 D C V : Addr) : Prop where
  cz : C ≠ z
  cTI : C ≠ TI
  cTO : C ≠ TO
  cr : C ≠ r1
  cL : C ≠ L
  cx : C ≠ ax
  cD : C ≠ D
  vz : V ≠ z
  vTI : V ≠ TI
  vTO : V ≠ TO
  vr : V ≠ r1
  vL : V ≠ L
  vx : V ≠ ax
  vD : V ≠ D
  cV : C ≠ V
  cB : B.get? C = none
  vB : B.get? V = none

section
variable {G : Gd} {A : Around} {B : Heap} {L ax z TI TO r1 D C V : Addr} {g : Nat} {ys : Nat → Option Int} {R : Result → Shared → Prop}
inductive ZInv (G : Gd) (A : Around) (B : Heap) (L ax z TI TO r1 D C V : Addr) (ys : Nat → Option Int) (g : Nat) (fin : List Int) (s₀ : Shared) (n : Nat) (s : Shared) : Prop where
  | mk (j : Nat) (acc : List Int) (vs : Array Value) (m : Str → Option Value) (e : ∃ h' tk gs, s = { s₀ with heap := h', toks := tk, gens := gs }) (hj : j ≤ 8) (Z : ZSt G A B L ax z TI TO r1 D 9 ys g (8 - j) j s) (hB : Ext B s.heap) (hns : s.heap.Ns C m) (hV : s.heap.PlainList V vs)
      (hI : IntsAre vs.toList acc) (hlen : acc.length ≤ j) (hfin : acc ++ zTake ys (8 - j) j = fin) (hn : n = 8 - j) : ZInv G A B L ax z TI TO r1 D C V ys g fin s₀ n s
theorem z8 {j : Nat} (h : j < 8) : 8 - j = (8 - (j + 1)) + 1 := by lia
theorem z9 {j : Nat} (h : j ≤ 8) : 9 - (8 - j + 1) = j := by lia
theorem zTake_end {ys : Nat → Option Int} {j : Nat} (hj : j ≤ 8) (h : 8 ≤ j ∨ ys (9 - (8 - j + 1)) = none) : zTake ys (8 - j) j = [] := by
  rcases h with q | q
  · rw [Nat.sub_eq_zero_of_le q]; rfl
  · rw [z9 hj] at q
    cases 8 - j with
    | zero => rfl
    | succ r => show (match ys j with | none => [] | some y => y :: zTake ys r (j + 1)) = _; rw [q]
theorem zip_loop {cenv : Env} {kx sx : Str} {pk ps tp py pos : Pos} {x1 : Nat} {iter : PySem.Expr} {scope : Scope} (hA : Bud 3 A) (P : ZAp B L ax z TI TO r1 D) (P2 : CAp B L ax z TI TO r1 D C V) (hC : cenv.locals = C) (hk : cenv.kindOf kx = some .local) (hs : cenv.kindOf sx = some .local) (hkind : cenv.scope.kind = .function)
    (hdb : (sx == ("__debug__" : Str)) = false) {fin : List Int} {s₀ : Shared}
    (hR : ∀ h' tk gs m vs, Ext B h' → AllBare gs → h'.Ns C m → h'.PlainList V vs → IntsAre vs.toList fin → R (.ok .next) { s₀ with heap := h', toks := tk, gens := gs }) :
    ∀ (j : Nat) (acc : List Int) (vs : Array Value) (m : Str → Option Value) (s : Shared), (∃ h' tk gs, s = { s₀ with heap := h', toks := tk, gens := gs }) → j ≤ 8 → ZSt G A B L ax z TI TO r1 D 9 ys g (8 - j) j s → Ext B s.heap → s.heap.Ns C m → s.heap.PlainList V vs → IntsAre vs.toList acc → acc.length ≤ j → acc ++ zTake ys (8 - j) j = fin →
      codeAny (model G.prog G.w) A (.compLoop (.ListComp (.Name sx py) [⟨.Tuple [.Name kx pk, .Name sx ps] x1 tp, iter, [], 0⟩] scope pos) 0 (.ref z) (.ref V) cenv) R s := by
  intro j acc vs m s hs₀ hj Z hB hns hV hI hlen hfin
  have hcls : (cenv.scope.kind == .class || (cenv.scope.kind == .module && cenv.locals != cenv.globals)) = false := by rw [hkind]; rfl
  refine compLoop_own (ZInv G A B L ax z TI TO r1 D C V ys g fin s₀) ?_ (8 - j) ⟨j, acc, vs, m, hs₀, hj, Z, hB, hns, hV, hI, hlen, hfin, rfl⟩
  clear hs₀ hj Z hB hns hV hI hlen hfin
  intro n s' hZZ
  refine byC fun CC hCC => ?_
  obtain ⟨j, acc, vs, m, ⟨h₀, t₀, g₀, rfl⟩, hj, Z, hB, hns, hV, hI, hlen, hfin, rfl⟩ := hZZ
  obtain ⟨oC, esC, epC, hoC, hrC⟩ := id hns
  have hCn : ¬ LI oC := notLI_ns hns hoC
  obtain ⟨jv, hV⟩ := hV
  refine hCC ?_
  clear hCC
  have bNot : ∀ b o, B.get? b = some o → b ≠ z ∧ b ≠ TO ∧ b ≠ r1 ∧ b ≠ L ∧ b ≠ C ∧ b ≠ V := fun b o e => ⟨ne_none P.zB e, ne_none P.TOB e, ne_none P.rB e, ne_none P.LB e, ne_none P2.cB e, ne_none P2.vB e⟩
  refine zip_next hA P Z (fun y t u h₁ t₁ g₁ T hj8 hy hk₁ hb₁ hz₁ hT₁ hTO₁ hr₁ hG₁ => ?_) fun h₁ t₁ g₁ hend hk₁ hb₁ => ?_
  · have x₁ : Ext B h₁ := fun b o e => by
      have n := bNot b o e
      exact hk₁ b o n.1 n.2.1 n.2.2.1 n.2.2.2.1 (.inr ⟨o, e⟩) (hB b o e)
    have C₁ : h₁.get? C = some oC := hk₁ C oC P2.cz P2.cTO P2.cr P2.cL (.inl hCn) hoC
    have V₁ := hk₁ V _ P2.vz P2.vTO P2.vr P2.vL (.inl (notLI_cls rfl (by decide))) hV
    have TI₁ := hk₁ TI _ (Ne.symm P.zTI) P.TIO P.TIr P.TIL (.inl (notLI_cls rfl (by decide))) Z.ti
    have hT0 : T ≠ z := fun q => by
      have e := hT₁
      rw [q] at e
      exact absurd (congrArg Obj.cls (Option.some.inj ((show h₁.get? z = _ from e).symm.trans hz₁))) (show ¬ (Value.type "tuple" = Value.type "zip") by decide)
    have hTC : T ≠ C := fun q => by
      have e := hT₁
      rw [q] at e
      have e := (show h₁.get? C = _ from e).symm.trans C₁
      cases e
      obtain ⟨hd, _⟩ := hrC
      cases hd
    refine wpAny_letOwnedTupleGo_zip hz₁ fun h₂ hz₂ sb₂ => ?_
    dsimp only at sb₂
    refine wpAny_assign_Tuple hA.hh (items := #[.int j u, .int y t]) ⟨_, (sb₂.2 T hT0).trans hT₁, rfl, _, rfl⟩ rfl rfl fun h₃ x₃ => ?_
    have x₃ : Ext h₂ h₃ := fun b o e => x₃ b o (Nat.ne_of_lt (Heap.lt_size e)) e
    show wpAny _ A (do holding [_] (assign (.Name kx pk) cenv (.int j u)); do holding [] (assign (.Name sx ps) cenv (.int y t)); pure ()) _ _ _
    have n₃ : h₃.Ns cenv.locals m := by rw [hC]; exact ⟨oC, esC, epC, x₃ _ _ ((sb₂.2 C P2.cz).trans C₁), hrC⟩
    refine wpAny_bind (wpAny_holding (wpAny_assign_Name (wpAny_storeName_local hk n₃ (fun h₄ n₄ sb₄ => ?_) hcls)))
    refine wpAny_bind (wpAny_holding (wpAny_assign_Name (wpAny_storeName_local hs n₄ (fun h₅ n₅ sb₅ => wpAny_pure ?_) hcls)))
    rw [hC] at sb₄ sb₅ n₅
    rw [List.forIn_nil]
    refine wpAny_pure ?_
    simp only [if_true]
    refine wpAny_Name (wpAny_loadName_local hkind hs (by rw [hC]; exact n₅) (v := .int y t) (by first | rfl | exact .head _ | exact .tail _ (.head _) | exact if_pos rfl | exact (if_neg (by decide)).trans rfl | simp) ?_) hdb
    have V₅ := (sb₅.2 V (Ne.symm P2.cV)).trans ((sb₄.2 V (Ne.symm P2.cV)).trans (x₃ _ _ ((sb₂.2 V P2.vz).trans V₁)))
    have hvs : acc.length = vs.size := by have := (rdA_of_ints (h := {}) hI).length; simpa using this.symm
    have hsz : vs.size ≤ sizeLine := Nat.le_trans (hvs ▸ Nat.le_trans hlen hj) (by decide)
    refine wpAny_list_append_plain ⟨jv, V₅⟩ (fun h₆ hV₆ sb₆ => ?_) hsz
    have up : ∀ b o, b ≠ C → b ≠ V → h₂.get? b = some o → h₆.get? b = some o := fun b o n1 n2 e => (sb₆.2 b n2).trans ((sb₅.2 b n1).trans ((sb₄.2 b n1).trans (x₃ _ _ e)))
    refine ⟨8 - (j + 1), z8 hj8 ▸ Nat.lt_succ_self _, j + 1, acc ++ [y], vs.push (.int y t), _, ⟨h₆, _, g₁, rfl⟩, hj8, ⟨up z _ (Ne.symm P2.cz) (Ne.symm P2.vz) hz₂, up TI _ (Ne.symm P2.cTI) (Ne.symm P2.vTI) ((sb₂.2 TI (Ne.symm P.zTI)).trans TI₁), ?_, up r1 _ (Ne.symm P2.cr) (Ne.symm P2.vr) ((sb₂.2 r1 (Ne.symm P.zr)).trans hr₁), fun hj9 => ?_, hb₁⟩, ?_, n₅.sameBut sb₆ P2.cV, hV₆, ?_, by simp; omega, ?_, rfl⟩
    · obtain ⟨a, b, e⟩ := hTO₁
      exact ⟨a, b, up TO _ (Ne.symm P2.cTO) (Ne.symm P2.vTO) ((sb₂.2 TO (Ne.symm P.zTO)).trans e)⟩
    · have G₁ := hG₁ (by lia)
      rw [z8 hj8] at G₁
      have G₂ := G₁.touch (tk := t₁) sb₂ P.zL P.zx P.zD (li_of hz₁ (notLI_cls rfl (by decide))) P.zB
      have G₃ := G₂.more (tk := t₁) x₃
      have G₄ := G₃.touch (tk := t₁) sb₄ P2.cL P2.cx P2.cD (li_of (x₃ _ _ ((sb₂.2 C P2.cz).trans C₁)) hCn) P2.cB
      have G₅ := G₄.touch (tk := t₁) sb₅ P2.cL P2.cx P2.cD (fun o e => notLI_ns (by rw [hC] at n₄; exact n₄) e) P2.cB
      exact G₅.touch sb₆ P2.vL P2.vx P2.vD (li_of V₅ (notLI_cls rfl (by decide))) P2.vB
    · intro b o e
      refine byC fun CC hCC => ?_
      obtain ⟨n1, _, _, _, n5, n6⟩ := bNot b o e
      refine hCC ?_
      clear hCC
      exact up b o n5 n6 ((sb₂.2 b n1).trans (x₁ b o e))
    · rw [Array.toList_push]
      exact ints_snoc hI y t
    · rw [← hfin]
      rw [z9 hj] at hy
      rw [z8 hj8, zTake_some hy, List.append_assoc]
      rfl
  · have x₁ : Ext B h₁ := fun b o e => by
      have n := bNot b o e
      exact hk₁ b o n.1 n.2.1 n.2.2.1 n.2.2.2.1 (.inr ⟨o, e⟩) (hB b o e)
    have C₁ : h₁.get? C = some oC := hk₁ C oC P2.cz P2.cTO P2.cr P2.cL (.inl hCn) hoC
    have V₁ := hk₁ V _ P2.vz P2.vTO P2.vr P2.vL (.inl (notLI_cls rfl (by decide))) hV
    have hz0 := zTake_end hj hend
    rw [hz0, List.append_nil] at hfin
    exact hR h₁ t₁ g₁ m vs x₁ hb₁ ⟨oC, esC, epC, C₁, hrC⟩ ⟨jv, V₁⟩ (hfin ▸ hI)
end
end Mine
end

section
open PySem PySem.W PyProof.Rows PySem.Calls
open Sem (wp)
namespace Mine
noncomputable abbrev zg1 (h : Heap) : Heap := h.push { cls := .type "range_iterator", data := .fields #[rawInt 0, rawInt (Builtin.Range.rangeSize 0 8 1), rawInt 1] }
noncomputable abbrev zg2 (h : Heap) (D : Addr) : Heap := (zg1 h).push { cls := .type "tuple", data := .seq #[.ref h.objs.size, .ref D] }
noncomputable abbrev zg3 (h : Heap) (D : Addr) : Heap := (zg2 h D).push { cls := .type "tuple", data := .seq #[.none, .none] }
noncomputable abbrev zg4 (h : Heap) (D : Addr) : Heap := (zg3 h D).push { cls := .type "zip", data := .fields #[.none, .bool false, .bool false, .ref (zg1 h).objs.size, .ref (zg2 h D).objs.size] }
theorem meets_zipg (r D : Addr) (t u v : Tok) (gn : Nat) :
    Meets (Builtin.«zip.__new__» ⟨[.type "zip", .ref r, .ref D], []⟩) (fun _ R s => IsRange s.heap r 0 8 1 t u v ∧ s.heap.IsGen D gn ∧
      R (.ok (.ret (.ref (zg3 s.heap D).objs.size))) { s with heap := zg4 s.heap D }) :=
  .of_wp fun prog w A R s h => by
    obtain ⟨hp, g, d, tk, os⟩ := s; obtain ⟨hr, hg, h⟩ := h
    have hsub := sub_zip
    have hr1 : IsRange (Shared.heap ⟨hp, g, d, tk, os⟩) r 0 8 1 t u v := hr
    have hg1 : Heap.IsGen (Shared.heap ⟨hp.push { cls := .type "range_iterator", data := .fields #[rawInt 0, rawInt (Builtin.Range.rangeSize 0 8 1), rawInt 1] }, g, d, tk, os⟩) D gn := hg.push _
    wp_walk using wpAny_pyIter_range hr1 rfl, wpAny_pyIter_gen hg1
    exact ⟨_, rfl, h⟩
end Mine
end

section
open PySem PySem.W PyProof.Rows PySem.Calls
open Sem (wp)
namespace Mine
section
variable {G : Gd} {sc : Scope} {n : Nat}
theorem zap_new {B : Heap} {L ax D n : Nat} (hL : L < n) (hx : ax < n) (hD : D < n) (hB : ∀ b : Nat, n ≤ b → B.get? b = none) (bL : B.get? L = none) : ZAp B L ax (n + 3) (n + 1) (n + 2) n D where
  zTI := Nat.ne_of_gt (Nat.add_lt_add_left (by decide) n)
  zTO := Nat.ne_of_gt (Nat.add_lt_add_left (by decide) n)
  zr := Nat.ne_of_gt (Nat.lt_add_of_pos_right (by decide))
  zL := Nat.ne_of_gt (Nat.lt_of_lt_of_le hL (Nat.le_add_right n 3))
  zx := Nat.ne_of_gt (Nat.lt_of_lt_of_le hx (Nat.le_add_right n 3))
  zD := Nat.ne_of_gt (Nat.lt_of_lt_of_le hD (Nat.le_add_right n 3))
  TIO := Nat.ne_of_lt (Nat.add_lt_add_left (by decide) n)
  TIr := Nat.ne_of_gt (Nat.lt_add_of_pos_right (by decide))
  TIL := Nat.ne_of_gt (Nat.lt_of_lt_of_le hL (Nat.le_add_right n 1))
  TOr := Nat.ne_of_gt (Nat.lt_add_of_pos_right (by decide))
  TOL := Nat.ne_of_gt (Nat.lt_of_lt_of_le hL (Nat.le_add_right n 2))
  TOx := Nat.ne_of_gt (Nat.lt_of_lt_of_le hx (Nat.le_add_right n 2))
  TOD := Nat.ne_of_gt (Nat.lt_of_lt_of_le hD (Nat.le_add_right n 2))
  rL := Nat.ne_of_gt hL
  rx := Nat.ne_of_gt hx
  rD := Nat.ne_of_gt hD
  zB := hB _ (Nat.le_add_right n 3)
  TOB := hB _ (Nat.le_add_right n 2)
  rB := hB _ (Nat.le_refl n)
  LB := bL
noncomputable def eCompZ (f : St → Option LV) : St → Option LV := fun st => (eLst f st).bind fun ds => (zsOf ds).bind fun xs => cond (giOk xs none) (some (.d (.list ((zTake (gi xs none) 8 0).map .int)))) none
theorem EvVG.compZ {zn rn gn kx sx : Str} {a : Addr} {fd : FuncData} {e : PySem.Expr} {zp rp cp rpos gp gpos zpos pk ps tp py pos : Pos} {ck x1 : Nat} {f : St → Option LV} {scope : Scope} (bz : BName G sc zn (.type "zip")) (br : BName G sc rn (.type "range")) (u : UName G sc gn a) (gf : GFn G a fd) (sh : GShape G) (hns : NS e) (h : EvV G sc (n + 5) e f)
    (hkind : scope.kind = .function) (hfree : ∀ y ∈ scope.names, y.2 ≠ .free) (hcell : ∀ y ∈ scope.names, y.2 ≠ .cell) (hnames : ∀ y ∈ scope.names, y.2 = .local → scope.names.lookup y.1 = some .local) (hkx : scope.names.lookup kx = some .local) (hsx : scope.names.lookup sx = some .local) (hdb : (sx == ("__debug__" : Str)) = false) :
    EvVG G sc (n + 5) (.ListComp (.Name sx py) [⟨.Tuple [.Name kx pk, .Name sx ps] x1 tp, .Call (.Name zn zp) [.Call (.Name rn rp) [.Constant (.int 8) ck cp] [] rpos, .Call (.Name gn gp) [e] [] gpos] [] zpos, [], 0⟩] scope pos) (eCompZ f) := fun A env H st s lv Q E S hb q hQ => by
  unfold eCompZ at q
  refine bind_some (q) fun ds hds q => ?_
  refine bind_some (q) fun xs hxs q => ?_
  refine cond_elim (c := giOk xs none) q fun hok q => ?_
  cases q
  have hclos : closureFor scope env = pure [] := closureFor_none hfree
  rw [eval_ListComp]
  refine wpAny_comprehension_free (use := none) rfl (fun _ => rfl) hclos hkind hnames ?_
  refine wpAny_Call_Name_kw (bz.load S ?_)
  refine callWith_type1 ?_ rfl rfl
  show wpAny _ _ (spliced [(false, eval _ env), (false, eval _ env)]) _ _ _
  refine spliced_cons (wpAny_Call_Name_kw (br.load S (callWith_type1 ?_ rfl rfl)))
  show wpAny _ _ (spliced [(false, eval _ env)]) _ _ _
  refine spliced_cons (wpAny_Constant_int (spliced_nil (call_range_1 (spliced_cons ?_))))
  dsimp only
  have eR := Ext.push s.heap { cls := .type "range", data := .fields #[.int 0 (s.toks + 1), .int 8 s.toks, .int 1 (s.toks + 1 + 1)] }
  refine gen_made (s := { s with heap := s.heap.push { cls := .type "range", data := .fields #[.int 0 (s.toks + 1), .int 8 s.toks, .int 1 (s.toks + 1 + 1)] }, toks := s.toks + 1 + 1 + 1 }) (N := 9) (k := 8) (ys := gi xs none) u gf sh hns h (S.ext eR) hb hds hxs hok (Nat.le_refl _) (fun j => by congr 1; lia) fun D B L ax h₁ t₁ gs₁ xB x₁ hD hb₁ hL hax haxB hG => spliced_nil ?_
  dsimp only at xB hG ⊢
  have hr : IsRange h₁ s.heap.objs.size 0 8 1 (s.toks + 1) s.toks (s.toks + 1 + 1) := x₁ _ _ (xB _ _ (IsRange.new ..))
  have b4 : Bud 4 A := S.bud.less (by lia)
  have H₁ := hG A.in1.in1 (Bud.in1 (Bud.in1 b4))
  obtain ⟨oL, hoL⟩ := hL
  obtain ⟨ox, hox⟩ := hax
  have lL := Heap.lt_size hoL
  have lx := Heap.lt_size hox
  have lD : D < h₁.objs.size := by obtain ⟨o, _, _, e, _⟩ := H₁.gen; exact Heap.lt_size e
  refine callType_new F.called_zip (by decide) (F.typeCall_zip_2 _ _) (F.newCall_zip_2 _ _) (fun obj => F.args_object_init_3 obj _ _) F.entry_zip_new (meets_zipg s.heap.objs.size D (s.toks + 1) s.toks (s.toks + 1 + 1) s.gens.size) ⟨hr, H₁.gen, ?_⟩
  have z1 : (zg1 h₁).objs.size = h₁.objs.size + 1 := Heap.size_push ..
  have z2 : (zg2 h₁ D).objs.size = h₁.objs.size + 2 := by rw [Heap.size_push, z1]
  have z3 : (zg3 h₁ D).objs.size = h₁.objs.size + 3 := by rw [Heap.size_push, z2]
  have g4 : (zg4 h₁ D).get? (zg3 h₁ D).objs.size = some _ := Heap.get?_push_size _ rfl
  have g3 : (zg4 h₁ D).get? (zg2 h₁ D).objs.size = some _ := Heap.get?_push_of_some _ (Heap.get?_push_size _ rfl)
  have g2 : (zg4 h₁ D).get? (zg1 h₁).objs.size = some _ := Heap.get?_push_of_some _ (Heap.get?_push_of_some _ (Heap.get?_push_size _ rfl))
  have g1 : (zg4 h₁ D).get? h₁.objs.size = some _ := Heap.get?_push_of_some _ (Heap.get?_push_of_some _ (Heap.get?_push_of_some _ (Heap.get?_push_size _ rfl)))
  have xz : Ext h₁ (zg4 h₁ D) := (Ext.push _ _).trans ((Ext.push _ _).trans ((Ext.push _ _).trans (Ext.push _ _)))
  refine ⟨⟨_, g4, rfl⟩, ?_⟩
  refine wpAny_pyIter_zip (by exact g4) ?_
  refine comp_enter (s := { s with heap := zg4 h₁ D, toks := t₁, gens := gs₁ }) (RR := fun acc C => compPost (model G.prog G.w) A E none Q acc C) hkind hcell fun h₃ t₃ C V m hV hC hVC x₃ hVl hns₃ => ?_
  dsimp only at hV hC x₃
  have ex : ∀ {b o}, (zg4 h₁ D).get? b = some o → C ≠ b ∧ V ≠ b := fun {b o} e => ⟨fun q => (by rw [q, e] at hC; cases hC), fun q => (by rw [q, e] at hV; cases hV)⟩
  have none₁ : ∀ b, h₁.objs.size ≤ b → B.get? b = none := fun b hb' => by
    cases w : B.get? b with
    | none => rfl
    | some o => exact absurd (Heap.lt_size (x₁ _ _ w)) (Nat.not_lt.mpr hb')
  have noneC : ∀ b, (zg4 h₁ D).get? b = none → B.get? b = none := fun b hb' => by
    cases w : B.get? b with
    | none => rfl
    | some o => have := xz _ _ (x₁ _ _ w); exact (no_some (hb') this).elim
  have P : ZAp B L ax (zg3 h₁ D).objs.size (zg1 h₁).objs.size (zg2 h₁ D).objs.size h₁.objs.size D := by
    rw [z1, z2, z3]
    exact zap_new lL lx lD none₁ H₁.bL
  refine byC fun CC hCC => ?_
  obtain ⟨oD, _, _, hoD, _⟩ := H₁.gen
  refine hCC ?_
  clear hCC
  have P2 : CAp B L ax (zg3 h₁ D).objs.size (zg1 h₁).objs.size (zg2 h₁ D).objs.size h₁.objs.size D C V :=
    ⟨(ex g4).1, (ex g2).1, (ex g3).1, (ex g1).1, (ex (xz _ _ hoL)).1, (ex (xz _ _ hox)).1, (ex (xz _ _ hoD)).1, (ex g4).2, (ex g2).2, (ex g3).2, (ex g1).2, (ex (xz _ _ hoL)).2, (ex (xz _ _ hox)).2, (ex (xz _ _ hoD)).2, Ne.symm hVC, noneC _ hC, noneC _ hV⟩
  have Z : ZSt G A B L ax (zg3 h₁ D).objs.size (zg1 h₁).objs.size (zg2 h₁ D).objs.size h₁.objs.size D 9 (gi xs none) s.gens.size (8 - 0) 0 { s with heap := h₃, toks := t₃, gens := gs₁ } :=
    ⟨x₃ _ _ g4, x₃ _ _ g2, ⟨_, _, x₃ _ _ g3⟩, x₃ _ _ g1, fun _ => H₁.keep rfl (fun b o _ e => x₃ _ _ (xz _ _ e)) (x₁.trans (xz.trans x₃)), hb₁⟩
  have nV : s.heap.get? V = none := by
    cases w : s.heap.get? V with
    | none => rfl
    | some o => have := xz _ _ (x₁ _ _ (xB _ _ (eR _ _ w))); exact (no_some (hV) this).elim
  have nC : s.heap.get? C = none := by
    cases w : s.heap.get? C with
    | none => rfl
    | some o => have := xz _ _ (x₁ _ _ (xB _ _ (eR _ _ w))); exact (no_some (hC) this).elim
  have loop := zip_loop (G := G) (A := A) (R := compPost (model G.prog G.w) A E none Q (.ref V) C) (cenv := compEnvC scope [] C env) (kx := kx) (sx := sx) (pk := pk) (ps := ps) (tp := tp) (py := py) (pos := pos) (x1 := x1) (iter := .Call (.Name zn zp) [.Call (.Name rn rp) [.Constant (.int 8) ck cp] [] rpos, .Call (.Name gn gp) [e] [] gpos] [] zpos) (scope := scope)
    (b4.less (by lia)) P P2 rfl (lookup_relabel_local hkx) (lookup_relabel_local hsx) (by simp [compEnvC, relabel, hkind]) hdb (fin := zTake (gi xs none) 8 0) (s₀ := s) (fun h' tk gs m vs hB' hb' hns' hV' hI' => by
      obtain ⟨j, hV'⟩ := hV'
      refine ⟨m, hns', fun h'' sb => ?_⟩
      have xx : Ext s.heap h'' := fun b o e => (sb.2 b fun q => by rw [q, nC] at e; cases e).trans (hB' _ _ (xB _ _ (eR _ _ e)))
      exact hQ _ h'' tk gs xx hb' (Rd.list0 (hideAll_get H ((sb.2 V hVC).trans hV') (S.hok.not_mem nV)) (rdA_of_ints hI')))
    0 [] #[] m { s with heap := h₃, toks := t₃, gens := gs₁ } ⟨h₃, t₃, gs₁, rfl⟩ (by decide) Z (x₁.trans (xz.trans x₃)) hns₃ hVl .nil (by simp) (by simp)
  exact codeAny_compStart_list loop (wpAny_pyIter_zip (x₃ _ _ g4) loop)
end
end Mine
end

section
open PySem PySem.W PyProof.Rows PySem.Calls
open Sem (wp)
namespace Mine
section
variable {M : Model} {A : Around} {E : Value → Shared → Prop} {s : Shared}
theorem looks_made {base h : Heap} {env : Env} {outer : List Env} {L e : Addr} {cls : Value} {args : List Value} {Q : Unit → Shared → Prop}
    (hfr : A.frames = some (env :: outer)) (hf : env.frame = some L) (hkb : base.StaysIn h) (hl : h.FunFrames base (env :: outer)) (hx : Heap.MadeExcOf h s.heap e cls args)
    (hQ : ∀ h' t, Heap.HeldW base (env :: outer) e cls (.ref t) L h' → s.heap.UpToSlots h' → Q () { s with heap := h' }) : wpAny M A (noteFrame (.ref e) env) Q E s := by
  obtain ⟨t, he, htn, ht⟩ := hx.there
  have fresh : ∀ b, h.get? b = none → base.get? b = none := fun b hb => by
    cases hq : base.get? b with
    | none => rfl
    | some o' => have := hkb b o' hq; exact (no_some (hb) this).elim
  unfold noteFrame
  simp only [hf]
  refine wpAny_bind (wpAny_field he rfl (x := .none) rfl ?_)
  rw [if_neg (by decide)]
  refine wpAny_entryW (a0 := .ref t) hfr (hl.of_keeps fun b o hb _ => ⟨o, hx.keeps b o hb, rfl⟩) hf he (fun b o hb => hx.keeps b o (hkb b o hb)) (fresh e hx.new) rfl (by simp) rfl fun h' hN => ?_
  obtain ⟨k1, k2, k3, k4⟩ := hN
  exact hQ h' t ⟨k1, fresh e hx.new, k2, k3⟩ k4
end
end Mine
end

section
open PySem PySem.W PyProof.Rows PySem.Calls
open Sem (wp)
namespace Mine
noncomputable def genX (BB : Heap) (outer : List Env) (L : Addr) : GenEnd := fun _ s₀ r s => ∃ e a0, r = .error (.ref e) ∧ Heap.FlyingW BB outer e (.type "ValueError") a0 s.heap ∧ s.gens = s₀.gens ∧ s.os = s₀.os ∧ s.drawn = s₀.drawn ∧
  ∀ b o, b ≠ L → s₀.heap.get? b = some o → (∀ vs, o.data ≠ .fields vs) → ∃ sl, s.heap.get? b = some { o with slots := sl }
structure RaiseOk (G : Gd) (b3 : List Stmt) : Prop where
  run : ∀ (A : Around) (env : Env) (s : Shared) (Q : Flow → Shared → Prop) (E : Value → Shared → Prop), A.handled = none → EO (scopeAt 4) env → G.P s.heap →
    (∀ h' tk e args, Heap.MadeExcOf s.heap h' e (.type "ValueError") args → E (.ref e) { s with heap := h', toks := tk }) → wpAny (model G.prog G.w) A (execs b3 env) Q E s
section
variable {G : Gd}
theorem RaiseOk.of {vn : Str} {np cpos pos cp : Pos} {k : Nat} {x : Str} (hs : (scopeAt 4).names.lookup vn = some .globalImplicit) (hm : G.mg vn = none) (hb : G.mb vn = some (.type "ValueError")) (hd : (vn == ("__debug__" : Str)) = false) :
    RaiseOk G [.Raise (some (.Call (.Name vn np) [.Constant (.str x) k cp] [] cpos)) none pos] := ⟨fun A env s Q E hh eo hp hE => by
  refine wpAny_execs_cons (wpAny_Raise_call F.excCall_ValueError F.excRaise_ValueError hh rfl ?_)
  refine Name_function_global eo.kind (eo.glob vn hs) (loadGlobal_builtin (by rw [eo.gl]; exact G.g hp) hm (by rw [eo.bl]; exact G.b hp) hb ⟨rfl, ?_⟩) hd
  show wpAny _ _ (evalArgs _ true [(false, eval (.Constant (.str x) k cp) env)] []) _ _ _
  refine evalArgs_plain (spliced_cons (wpAny_Constant_str (k := k) (pos := cp) (spliced_nil ⟨rfl, (show 1 ≤ sizeLine by decide), fun h' e hx => ?_⟩)))
  exact hE h' _ e _ (Heap.MadeExc.of hx)⟩
end
end Mine
end

section
open PySem PySem.W PyProof.Rows PySem.Calls
open Sem (wp)
namespace Mine
section
variable {M : Model} {A : Around} {E : Value → Shared → Prop} {s : Shared}
theorem flight_some {base : Heap} {l : List Env} {e L : Addr} {cls a0 : Value} {Q : Unit → Shared → Prop} (hw : Heap.HeldW base l e cls a0 L s.heap)
    (h : ∀ h', Heap.HeldW base l e cls a0 L h' → s.heap.UpToSlots h' → Q () { s with heap := h' }) : wpAny M A (setFlight (.ref e) (some L)) Q E s := by
  refine byC fun CC hCC => ?_
  obtain ⟨hkb, hne, hl, oe, vs, T, oT, ts, he, hcls, hd, h1, hnT, hTe, hT, hdT, h3⟩ := hw
  refine hCC ?_
  clear hCC
  have hsz3 : 3 < ts.size := (Array.getElem?_eq_some_iff.mp h3).1
  have other : ∀ b, b ≠ T → (s.heap.update T (Obj.mapFields (·.setIfInBounds 3 ((some L : Option Addr).elim Value.none fun f => rawInt f)))).get? b = s.heap.get? b :=
    fun b hb => Heap.get?_update_other _ _ (Ne.symm hb)
  have noRecord : ∀ b o, s.heap.get? b = some o → (∀ vs, o.data ≠ .fields vs) → b ≠ T := fun b o hb hnf q => by
    rw [q, hT] at hb; injection hb with hb; subst hb; exact hnf ts hdT
  unfold setFlight
  refine wpAny_bind (wpAny_field he hd h1 ?_)
  rw [if_pos (show (Value.ref T != Value.none) = true from by first | rfl | exact .head _ | exact .tail _ (.head _) | exact if_pos rfl | exact (if_neg (by decide)).trans rfl | simp)]
  refine wpAny_setField hT hdT hsz3 (h _ ⟨fun b o hbo => (other b fun q => by rw [q, hnT] at hbo; cases hbo).trans (hkb b o hbo), hne,
    hl.of_keeps fun b o hb hnf => ⟨o, (other b (noRecord b o hb hnf)).trans hb, rfl⟩, ?_⟩ fun b o hb hnf => ⟨o.slots, (other b (noRecord b o hb hnf)).trans hb⟩)
  exact ⟨oe, vs, T, _, _, (other e (Ne.symm hTe)).trans he, hcls, hd, h1, hnT, hTe, Heap.get?_update_self _ hT (Obj.isFreed_of_fields (Obj.data_mapFields hdT _)), Obj.data_mapFields hdT _, by simp [hsz3]⟩
theorem own_flight {base : Heap} {l : List Env} {env : Env} {e L : Addr} {cls a0 : Value} {Q : Unit → Shared → Prop} (hf : env.frame = some L) (hw : Heap.HeldW base l e cls a0 L s.heap)
    (h : ∀ h', Heap.HeldW base l e cls a0 L h' → s.heap.UpToSlots h' → Q () { s with heap := h' }) :
    wpAny M A (do if (← field (.ref e) 1) == Value.none then unsupported "frame.own-activation:exception-without-traceback"
                  setFlight (.ref e) env.frame) Q E s := by
  refine byC fun CC hCC => ?_
  obtain ⟨oe, vs, T, oT, ts, he, hcls, hd, h1, hnT, hTe, hT, hdT, h3⟩ := hw.2.2.2
  refine hCC ?_
  clear hCC
  refine wpAny_bind (wpAny_field he hd h1 ?_)
  rw [if_neg (show ¬ ((Value.ref T == Value.none) = true) from by simp), hf]
  exact flight_some hw h
end
end Mine
end

section
open PySem PySem.W PyProof.Rows PySem.Calls
open Sem (wp)
namespace Mine
section
variable {M : Model} {A : Around} {E : Value → Shared → Prop} {s : Shared}
theorem leaves_held_up {base : Heap} {env : Env} {outer : List Env} {L e : Addr} {cls a0 : Value} {Q : Unit → Shared → Prop} (hf : env.frame = some L)
    (hh : Heap.HeldW base (env :: outer) e cls a0 L s.heap) (hQ : ∀ h', Heap.FlyingW base outer e cls a0 h' → s.heap.UpToSlots h' → Q () { s with heap := h' }) : wpAny M A (leaving env (.ref e)) Q E s := by
  unfold leaving
  refine wpAny_bind (wpAny_noteFrame_againW hf hh.2.2.2 ?_)
  refine wpAny_landsW hh fun h' hfl hu => ?_
  refine byC fun CC hCC => ?_
  obtain ⟨k1, k2, ⟨_, _, k3⟩, k4⟩ := hfl
  refine hCC ?_
  clear hCC
  exact hQ h' ⟨k1, k2, k3, k4⟩ hu
end
theorem funFrames_keep {h h' base : Heap} (k : ∀ b o, h.get? b = some o → (∀ vs, o.data ≠ .fields vs) → ∃ o', h'.get? b = some o' ∧ ∀ vs, o'.data ≠ .fields vs) : ∀ {l : List Env}, h.FunFrames base l → h'.FunFrames base l := by
  intro l
  induction l with
  | nil => exact fun _ => trivial
  | cons e l ih =>
    intro F
    obtain ⟨hk, ⟨L, o, hf, hn, ho, hd⟩, hr⟩ := F
    obtain ⟨o', ho', hd'⟩ := k L o ho hd
    exact ⟨hk, ⟨L, o', hf, hn, ho', hd'⟩, ih hr⟩
section
variable {G : Gd} {env : Env} {L ax : Addr} {B BB : Heap} {items : Array Value} {A : Around} {Y : Protocol} {outer : List Env}
  {t1 t2 t3 t4 e1 e2 e3 : PySem.Expr} {f1 f2 f3 f4 : St → Option Bool}
theorem seg_raise {rp p1 p3 yp1 q1 p4 p2 yp2 q2 ap q3 ap0 cp q0 tp p9 fp : Pos} {ck : Nat} {b3 : List Stmt} (g : GenE0 G env L) (b : GBody G t1 t2 t3 t4 e1 e2 e3 f1 f2 f3 f4) (ro : RaiseOk G b3) (hb : Bud 2 A) (hfr : A.frames = some outer) {x0 : Int} {xs : List Int} (hx0 : x0 = 0) (hI : IntsAre items.toList (x0 :: xs))
    {s : Shared} {m : Str → Option Value} (pB : G.P B) (bL : B.get? L = none) (ext : Ext B s.heap) (hns : s.heap.Ns L m) (h3 : m (nmT 3) = some (.ref ax)) (hls : s.heap.IsList ax items) (hLa : L ≠ ax)
    (hBB : Ext BB s.heap) (bbL : BB.get? L = none) (hff : s.heap.FunFrames BB outer) :
    Seg (model G.prog G.w) A (genX BB outer L) Y 0 s (.func (gFunc t1 t2 t3 t4 e1 e2 e3 b3 rp p1 p3 yp1 q1 p4 p2 yp2 q2 ap q3 ap0 cp q0 tp p9 fp ck) env) ((model G.prog G.w).den (.func (gFunc t1 t2 t3 t4 e1 e2 e3 b3 rp p1 p3 yp1 q1 p4 p2 yp2 q2 ap q3 ap0 cp q0 tp p9 fp ck) env)) [] s := by
  have hLocal : ∀ x, x = nmT 3 ∨ x = nmT 4 ∨ x = nmT 5 → env.kindOf x = some .local := fun x hx => by
    show env.scope.names.lookup _ = _
    rw [g.sc]
    rcases hx with rfl | rfl | rfl <;> kernel_rfl
  have hcls : (env.scope.kind == .class || (env.scope.kind == .module && env.locals != env.globals)) = false := by rw [g.sc]; kernel_rfl
  have hmod : env.scope.kind ≠ .module := by rw [g.eo.kind]; decide
  have hne : nmT 3 ≠ nmT 4 := fun q => by have := nmT_inj _ _ q; lia
  have hne2 : nmT 4 ≠ nmT 5 := fun q => by have := nmT_inj _ _ q; lia
  refine seg_func ?_
  unfold gFunc
  refine seg_execs_cons (seg_stmt (wpAny_Assign_Name (wpAny_Constant_none (wpAny_storeName_local (hLocal _ (.inr (.inl rfl))) (by rw [g.loc]; exact hns) (fun h₁ hns₁ sb₁ => ?_) hcls)) rfl))
  rw [g.loc] at hns₁ sb₁
  have ext₁ : Ext B h₁ := fun b o e => (sb₁.2 b fun q => by rw [q, bL] at e; cases e).trans (ext b o e)
  have hls₁ : h₁.IsList ax items := hls.at fun o e => (sb₁.2 ax (Ne.symm hLa)).trans e
  refine seg_execs_cons (seg_For ?_ fun _ => rfl)
  refine wpAny_Name (wpAny_loadName_local g.eo.kind (hLocal _ (.inl rfl)) (by rw [g.loc]; exact hns₁) (v := .ref ax) (by simp [hne, h3]) ?_) (nmT_dbg 3)
  refine wpAny_pyIter_list (by exact hls₁) ?_
  intro p'
  have hIL : L ≠ h₁.objs.size := by obtain ⟨o, _, _, w, _⟩ := hns₁; exact Nat.ne_of_lt (Heap.lt_size w)
  have hIa : h₁.objs.size ≠ ax := by obtain ⟨o, w, _⟩ := hls₁; exact Nat.ne_of_gt (Heap.lt_size w)
  have bI : B.get? h₁.objs.size = none := by
    cases w : B.get? h₁.objs.size with
    | none => rfl
    | some o => have := ext₁ _ _ w; rw [get_fresh] at this; cases this
  have g' : GenE G env L h₁.objs.size ax := ⟨g.sc, g.eo, g.loc, g.fr, hIL, hLa, hIa, g.nm⟩
  generalize hHH : h₁.push { cls := .type "list_iterator", data := .fields #[.ref ax, .int 0 0] } = h₂
  have hit : h₂.IsListIter h₁.objs.size ax 0 := hHH ▸ ⟨_, Heap.get?_push_size _ rfl, rfl, rfl⟩
  have x₂ : Ext h₁ h₂ := hHH ▸ Ext.push _ _
  have hls₂ : h₂.IsList ax items := hls₁.at fun o e => x₂ _ _ e
  have k₂ : ∀ b o, b ≠ L → s.heap.get? b = some o → h₂.get? b = some o := fun b o hL e => x₂ _ _ ((sb₁.2 b hL).trans e)
  refine byC fun CC hCC => ?_
  obtain ⟨v, hv, rv⟩ := (rdA_of_ints (h := h₂) hI).get (i := 0) (d := .int x0) (by first | rfl | exact .head _ | exact .tail _ (.head _) | exact if_pos rfl | exact (if_neg (by decide)).trans rfl | simp)
  obtain ⟨t, rfl⟩ := rv.int_inv
  refine hCC ?_
  clear hCC
  have hv' : items[0]? = some (.int x0 t) := by simpa using hv
  refine seg_forLoop (fun _ => rfl) (wpAny_pyNext_list_item hit hls₂ hv' fun h₃ hit₃ sb₃ => ?_)
  have hns₃ : h₃.Ns env.locals (fun y => if y = nmT 4 then some Value.none else m y) := by rw [g.loc]; exact (hns₁.keeps x₂).sameBut sb₃ hIL
  refine wpAny_assign_Name (wpAny_storeName_local (hLocal _ (.inr (.inr rfl))) hns₃ (fun h₄ hns₄ sb₄ => ?_) hcls)
  rw [g.loc] at hns₄ sb₄
  have old : ∀ b o, s.heap.get? b = some o → b ≠ L → b ≠ h₁.objs.size := fun b o e hL q => by
    have := (sb₁.2 b hL).trans e
    rw [q, get_fresh] at this; cases this
  have k₄ : ∀ b o, b ≠ L → s.heap.get? b = some o → h₄.get? b = some o := fun b o hL e => (sb₄.2 b hL).trans ((sb₃.2 b (old b o e hL)).trans (k₂ b o hL e))
  have ext₄ : Ext B h₄ := fun b o e => k₄ b o (fun q => by rw [q, bL] at e; cases e) (ext b o e)
  have S := fun (A' : Around) (hb' : Bud 0 A') => genSit (x := x0) (t := t) (dl := Option.none) (v := .none) (A' := A') g' hb' pB ext₄ hns₄ (by first | rfl | exact .head _ | exact .tail _ (.head _) | exact if_pos rfl | exact (if_neg (by decide)).trans rfl | simp) (by simp [hne2]) .none
  unfold gBody
  refine seg_execs_cons (seg_If (b.ht1 _ env [L] _ { s with heap := h₄, toks := _ } _ _ _ (S _ (budFor hb)) (b.h1 _ _) fun h₅ tk₅ x₅ => ?_))
  simp only [show decide (x0 = 127) = false from by rw [hx0]; rfl, Bool.false_eq_true, if_false]
  refine seg_execs_nil ?_
  show Seg _ A _ _ 0 s _ ((execs _ env).wrap _ _ id id) _ _
  refine seg_execs_cons (seg_If (b.ht2 _ env [L] _ { s with heap := h₅, toks := tk₅ } _ _ _ ((S _ (budFor hb)).ext x₅) (b.h2 _ _) fun h₆ tk₆ x₆ => ?_))
  simp only [show decide (x0 = 0) = true from by rw [hx0]; rfl, if_true]
  refine seg_execs_cons (seg_If (b.ht3 _ env [L] _ { s with heap := h₆, toks := tk₆ } _ _ _ (((S _ (budFor hb)).ext x₅).ext x₆) (b.h3 _ _) fun h₇ tk₇ x₇ => ?_))
  simp only [Option.isNone_none, if_true]
  have ext₇ : Ext B h₇ := ext₄.trans (x₅.trans (x₆.trans x₇))
  have k₇ : ∀ b o, b ≠ L → s.heap.get? b = some o → h₇.get? b = some o := fun b o hL e => x₇ _ _ (x₆ _ _ (x₅ _ _ (k₄ b o hL e)))
  have bb₇ : Ext BB h₇ := fun b o e => k₇ b o (fun q => by rw [q, bbL] at e; cases e) (hBB b o e)
  have hfr' : (A.over (.forLoop (.Name (nmT 5) tp) (.ref h₁.objs.size) (gBody t1 t2 t3 t4 e1 e2 e3 b3 rp p1 p3 yp1 q1 p4 p2 yp2 q2 ap q3) [] env) [.ret (fun r => (ownR env r).wrap (fun a => (execs [] env).wrap (fun f => .pure (.done (.ret (match f with | .ret v => v | _ => .none)))) (fun e => (leaving env e).wrap (fun _ => .raise e) .raise id id) id id) (fun e => (leaving env e).wrap (fun _ => .raise e) .raise id id) id id) none (id false) (id []) (.func (gFunc t1 t2 t3 t4 e1 e2 e3 b3 rp p1 p3 yp1 q1 p4 p2 yp2 q2 ap q3 ap0 cp q0 tp p9 fp ck) env) p' []]).frames = some (env :: outer) := by
    show pushEnvs [] (pushEnvs [env] A.frames) = _
    rw [hfr]; rfl
  have hffL : h₇.FunFrames BB (env :: outer) := by
    refine byC fun CC hCC => ?_
    obtain ⟨o, es, ep, ho, hd, _⟩ := hns₄.keeps (x₅.trans (x₆.trans x₇))
    refine hCC ?_
    clear hCC
    refine ⟨hmod, ⟨L, o, g.fr, bbL, ho, fun vs q => by rw [hd] at q; cases q⟩, funFrames_keep (fun b o' ho' hd' => ?_) hff⟩
    by_cases hL : b = L
    · subst hL
      exact ⟨o, ho, fun vs q => by rw [hd] at q; cases q⟩
    · exact ⟨o', k₇ b o' hL ho', hd'⟩
  refine seg_wrap (ro.run _ env { s with heap := h₇, toks := tk₇ } _ _ (by exact hb.hh) g.eo (G.mono ext₇ pB) fun h₈ tk₈ e args hx => ?_)
  dsimp only at hx
  show Seg _ A _ _ 0 s _ ((do noteFrame (.ref e) env; theTreesLotGoes (.ref e) : Sem Unit) >>= fun _ => .raise (.ref e)) _ _
  refine seg_bind (wpAny_bind (looks_made (s := { s with heap := h₈, toks := tk₈ }) hfr' g.fr bb₇ hffL hx fun h₉ t₉ hH₉ u₉ => wpAny_theTreesLotGoes ?_))
  refine seg_leaf (.error (.ref e)) ?_
  refine seg_wrap ?_
  refine wpAny_onRaise (wpAny_throw ?_)
  refine own_flight (s := { s with heap := h₉, toks := tk₈ }) g.fr hH₉ fun h₁₀ hH₁₀ u₁₀ => ?_
  refine seg_wrap (leaves_held_up (s := { s with heap := h₁₀, toks := tk₈ }) g.fr hH₁₀ fun h₁₁ hF u₁₁ => ?_)
  refine seg_end (.error (.ref e)) ⟨e, _, rfl, hF, rfl, rfl, rfl, fun b o hL e' hd => ?_⟩
  exact (u₉.trans (u₁₀.trans u₁₁)) b o (hx.keeps _ _ (k₇ b o hL e')) hd
end
end Mine
end

section
open PySem PySem.W PyProof.Rows PySem.Calls
open Sem (wp)
namespace Mine
theorem value_not_stop : isSubtype (.type "ValueError") (.type "StopIteration") = pure false := by rw [isSubtype_type]; kernel_rfl
section
variable {prog : Program} {w : World} {A : Around} {E : Value → Shared → Prop} {s : Shared}
theorem genx_next {BB : Heap} {outer : List Env} {L a : Addr} {g : Nat} {c : Code} {Q : Option Value → Shared → Prop} (hA : Bud 2 A) (hl : s.heap.NoLimit) (hga : BB.IsGen a g) (hB : Ext BB s.heap) (hgs : s.gens[g]? = some (.fresh c)) (hbare : AllBare s.gens)
    (hgo : Seg (model prog w) A.in1 (genX BB outer L) (fun _ _ _ _ _ => False) 0 (s.setGen g .running) c ((model prog w).den c) [] (s.setGen g .running))
    (hE : ∀ e a0 h' tk gs, Heap.FlyingW BB outer e (.type "ValueError") a0 h' → AllBare gs → (∀ b o, b ≠ L → s.heap.get? b = some o → (∀ vs, o.data ≠ .fields vs) → ∃ sl, h'.get? b = some { o with slots := sl }) → E (.ref e) { s with heap := h', toks := tk, gens := gs }) :
    wpAny (model prog w) A (pyNext (.ref a)) Q E s := by
  refine gen_next (R := genX BB outer L) (Y := fun _ _ _ _ _ => False) (n := 0) hA.hh hl (by have := hA.dp; show A.depth < 1000; lia) (hga.keeps hB) hgs ⟨rfl, hgo⟩ (fun _ _ _ _ f => f.elim) fun r s₁ hr => ?_
  refine byC fun CC hCC => ?_
  obtain ⟨e, a0, rfl, hF, hg, hos, hdr, hk⟩ := hr
  obtain ⟨o, nm, qn, ho, hc, hd, hsl⟩ := hga
  obtain ⟨oe, hoe, hce⟩ := hF.there
  refine hCC ?_
  clear hCC
  have fin : E (.ref e) (s₁.setGen g .finished) := by
    obtain ⟨h₁, g₁, d₁, tk₁, os₁⟩ := s₁
    dsimp only [Shared.setGen] at hg hos hdr
    subst hg hos hdr
    exact hE e a0 h₁ tk₁ _ hF (bare_set (bare_set hbare rfl) rfl) hk
  show wpAny _ A.in1 (Builtin.Generator.genLeft (.ref a) (.ref e) : Sem Fin) _ _ _
  unfold Builtin.Generator.genLeft Builtin.Generator.madeByALambda Builtin.Generator.genEscaped
  have ho' : (s₁.setGen g .finished).heap.get? a = some o := hF.1 a o ho
  have hte : (s₁.setGen g .finished).TypeIs (.ref e) "ValueError" := ⟨oe, hoe, hce⟩
  refine wpAny_bind (wpAny_bind (wpAny_load ho' (wpAny_pure ?_)))
  refine wpAny_bind (wpAny_isInstance (b := false) hte value_not_stop ?_)
  rw [hc, hd]
  rw [if_neg (by simp)]
  refine wpAny_bind (wpAny_isInstance (b := false) hte value_not_stop ?_)
  rw [if_pos (by rfl)]
  refine wpAny_bind (wpAny_throw ?_)
  refine wpAny_bind (wpAny_isInstance (b := false) hte value_not_stop ?_)
  rw [if_neg (by decide)]
  exact wpAny_throw fin
end
end Mine
end

section
open PySem PySem.W PyProof.Rows PySem.Calls
open Sem (wp)
namespace Mine
noncomputable def refBody (gx vx : Str) (tp gp rp cp fp c1 r1 vp c2 r2 hp tp2 c3 r3 : Pos) (k1 k2 k3 : Nat) : List Stmt :=
  [.Try [.For (.Name (nmT 15) tp) (.Call (.Name gx gp) [.Name (nmT 14) rp] [] cp) [.Return (some (.Constant (.bool false) k1 c1)) r1] [] fp] [.ExceptHandler (some (.Name vx vp)) none [.Return (some (.Constant (.bool true) k2 c2)) r2] hp] [] [] tp2,
   .Return (some (.Constant (.bool false) k3 c3)) r3]
inductive GShapeX (G : Gd) : Prop where
  | mk (t1 t2 t3 t4 e1 e2 e3 : PySem.Expr) (f1 f2 f3 f4 : St → Option Bool) (b3 : List Stmt) (rp p1 p3 yp1 q1 p4 p2 yp2 q2 ap q3 ap0 cp q0 tp p9 fp : Pos) (ck : Nat) (hbody : bodyAt 4 = gFunc t1 t2 t3 t4 e1 e2 e3 b3 rp p1 p3 yp1 q1 p4 p2 yp2 q2 ap q3 ap0 cp q0 tp p9 fp ck) (gb : GBody G t1 t2 t3 t4 e1 e2 e3 f1 f2 f3 f4) (ro : RaiseOk G b3) : GShapeX G
theorem GShapeX.base {G : Gd} (x : GShapeX G) : GShape G := by
  obtain ⟨t1, t2, t3, t4, e1, e2, e3, f1, f2, f3, f4, b3, rp, p1, p3, yp1, q1, p4, p2, yp2, q2, ap, q3, ap0, cp, q0, tp, p9, fp, ck, h, gb, _⟩ := x
  exact ⟨t1, t2, t3, t4, e1, e2, e3, f1, f2, f3, f4, b3, rp, p1, p3, yp1, q1, p4, p2, yp2, q2, ap, q3, ap0, cp, q0, tp, p9, fp, ck, h, gb⟩
structure RFn (G : Gd) (a : Addr) (fd : FuncData) : Prop where
  fn : FnAt G a fd (bodyAt 61)
  scope : fd.scope = scopeAt 61
  bind : ∀ (s : Shared) (v : Value), G.P s.heap → BindsTo s fd ⟨[v], []⟩ [(nmT 14, v)]
theorem funFrames_base {h base base' : Heap} {l : List Env} : h.FunFrames base l → (∀ b ∈ l.filterMap (·.frame), base'.get? b = none) → h.FunFrames base' l := by
  induction l with
  | nil => exact fun _ _ => trivial
  | cons env rest ih =>
    intro F hb
    obtain ⟨hk, ⟨L, o, hf, hn, ho, hd⟩, hr⟩ := F
    rw [List.filterMap_cons, hf] at hb
    exact ⟨hk, ⟨L, o, hf, hb L (.head _), ho, hd⟩, ih hr fun b m => hb b (.tail _ m)⟩
theorem value_exc : isSubtype (.type "ValueError") (.type "BaseException") = pure true := by rw [isSubtype_type]; kernel_rfl
theorem value_meta : isSubtype (.type ((Manifest.find? "ValueError").elim "type" fun y => y.metatype)) (.type "tuple") = pure false := by rw [isSubtype_type]; kernel_rfl
theorem value_value : isSubtype (.type "ValueError") (.type "ValueError") = pure true := by rw [isSubtype_type]; kernel_rfl
section
variable {G : Gd} {A : Around} {s : Shared} {E : Value → Shared → Prop}
theorem refused_body {gx vx : Str} {tp gp rp cp fp c1 r1 vp c2 r2 hp tp2 c3 r3 : Pos} {k1 k2 k3 : Nat} {a4 ax L : Addr} {fd4 : FuncData} {outer : List Env} {env : Env} {m : Str → Option Value} {BB : Heap} {items : Array Value} {x0 : Int} {xs : List Int} {Q : Flow → Shared → Prop}
    (he : EO (scopeAt 61) env) (hes : env.scope = scopeAt 61) (hloc : env.locals = L) (hefr : env.frame = some L) (hns : s.heap.Ns L m) (h14 : m (nmT 14) = some (.ref ax)) (hbL : BB.get? L = none)
    (gf : GFn G a4 fd4) (u : UName G (scopeAt 61) gx a4) (hvs : (scopeAt 61).names.lookup vx = some .globalImplicit) (hvm : G.mg vx = none) (hvb : G.mb vx = some (.type "ValueError")) (hvd : (vx == ("__debug__" : Str)) = false)
    (sh : GShapeX G) (bud : Bud 5 A) (hfr : A.frames = some (env :: outer)) (hP : G.P s.heap) (hb : AllBare s.gens) (hB : Ext BB s.heap) (pBB : G.P BB) (hff : s.heap.FunFrames BB outer) (hl : s.heap.IsList ax items) (hx0 : x0 = 0) (hI : IntsAre items.toList (x0 :: xs))
    (hQ : ∀ h' tk gs, Ext BB h' → s.heap.UpToSlots h' → AllBare gs → Q (.ret (.bool true)) { s with heap := h', toks := tk, gens := gs }) :
    wpAny (model G.prog G.w) A (execs (refBody gx vx tp gp rp cp fp c1 r1 vp c2 r2 hp tp2 c3 r3 k1 k2 k3) env) Q E s := by
  have kl : env.kindOf (nmT 14) = some .local := by show env.scope.names.lookup _ = _; rw [hes]; kernel_rfl
  have hmod : env.scope.kind ≠ .module := by rw [he.kind]; decide
  obtain ⟨oL, esL, epL, hoL, hdL, hrL⟩ := id hns
  have hffe : s.heap.FunFrames BB (env :: outer) := ⟨hmod, ⟨L, oL, hefr, hbL, hoL, fun vs q => by rw [hdL] at q; cases q⟩, hff⟩
  unfold refBody
  refine wpAny_execs_cons (wpAny_Try_except ?_)
  refine wpAny_execs_cons (wpAny_For ?_ fun _ => rfl)
  refine wpAny_Call_Name_kw (Name_function_global he.kind (he.glob gx u.sc) (loadGlobal_global (by rw [he.gl]; exact G.g hP) u.mg ?_) u.db)
  refine callWith_of (P := G.P) rfl (fun h hh => ?_) ?_
  · obtain ⟨o, ho, fd, hd⟩ := u.fn h hh
    exact ⟨_, .inl rfl, keeper_fn ho hd⟩
  show wpAny _ _ (evalArgs _ true [(false, eval _ env)] []) _ _ _
  refine evalArgs_plain (spliced_cons (wpAny_Name (wpAny_loadName_local he.kind kl (by rw [hloc]; exact hns) h14 (spliced_nil ⟨hP, ?_⟩)) (nmT_dbg 14)))
  refine gcall gf (by have := bud.dp; lia) hP fun env' L' m' h₂ tk o ge hL' x₂ hns₂ h3 hoL' => ?_
  generalize hHH : h₂.push { cls := .type "generator", data := .fields #[.int s.gens.size 0, .str fd4.name (tk - 2), .str fd4.qualname (tk - 2 + 1)] } = h₃
  have hg : h₃.IsGen h₂.objs.size s.gens.size := hHH ▸ ⟨_, _, _, Heap.get?_push_size _ rfl, rfl, rfl, rfl⟩
  have x₃ : Ext h₂ h₃ := hHH ▸ Ext.push _ _
  have x23 : Ext s.heap h₃ := x₂.trans x₃
  refine wpAny_pyIter_gen hg ?_
  obtain ⟨t1, t2, t3, t4, e1, e2, e3, f1, f2, f3, f4, b3, rp', p1, p3, yp1, q1, p4, p2, yp2, q2, ap, q3, ap0, cp', q0, tp', p9, fp', ck, hbody, gb, ro⟩ := sh
  -- what is kept: all but the frames' objects
  generalize hHid : L' :: (env :: outer).filterMap (·.frame) = W
  have hffe₃ : h₃.FunFrames (hideAll h₃ W) (env :: outer) := funFrames_base (hffe.of_keeps fun b o hb _ => ⟨o, x23 _ _ hb, rfl⟩) fun b hb => hideAll_none _ (hHid ▸ .tail _ hb)
  have bbx : Ext BB (hideAll h₃ W) := fun b o e => hideAll_get _ (x23 _ _ (hB _ _ e)) fun hm => by
    rw [← hHid] at hm
    rcases List.mem_cons.mp hm with rfl | hm
    · have := hB _ _ e; exact (no_some (hL') this).elim
    · exact (no_some ((hffe.mem hm).1) e).elim
  have hgW : (hideAll h₃ W).IsGen h₂.objs.size s.gens.size := by
    obtain ⟨o, nm, qn, ho, r⟩ := hg
    refine ⟨o, nm, qn, hideAll_get _ ho fun hm => ?_, r⟩
    rw [← hHid] at hm
    rcases List.mem_cons.mp hm with q | hm
    · rw [← q] at hoL'
      exact absurd (Heap.lt_size hoL') (Nat.lt_irrefl _)
    · obtain ⟨_, o', ho', _⟩ := hffe.mem hm
      exact absurd (Heap.lt_size (x₂ _ _ ho')) (Nat.lt_irrefl _)
  have hWL : (hideAll h₃ W).get? L' = none := hideAll_none _ (hHid ▸ .head _)
  generalize bodyAt 4 = bd at hbody ⊢
  refine codeAny_forLoop (fun n s' => n = 0 ∧ s' = { s with gens := s.gens.push (.fresh (.func bd env')), toks := tk, heap := h₃ }) ?_ 0 ⟨rfl, rfl⟩ fun _ => rfl
  rintro _ _ ⟨rfl, rfl⟩
  refine genx_next (BB := hideAll h₃ W) (outer := env :: outer) (L := L') (c := .func bd env') (g := s.gens.size) (bud.less (by lia)) ((G.nl hP).keeps x23) hgW (hide_le _ _) (Array.getElem?_push_size ..) (hb.push rfl) ?_ fun e a0 h₄ tk₄ gs₄ hF hb₄ hk₄ => ?_
  · subst hbody
    refine seg_raise ge gb ro (Bud.in1 (bud.less (by lia))) hfr hx0 hI hP hL' x23 (hns₂.keeps x₃) h3 (hl.at fun o e => x23 _ _ e) ?_ (hide_le _ _) hWL hffe₃
    intro q
    obtain ⟨o, ho, _⟩ := hl
    rw [q, ho] at hL'; cases hL'
  dsimp only at hk₄ ⊢
  have up₄ : s.heap.UpToSlots h₄ := fun b o hb hd => hk₄ b o (fun q => by rw [q, hL'] at hb; cases hb) (x23 _ _ hb) hd
  refine wpAny_looks_onW (s := { s with heap := h₄, toks := tk₄, gens := gs₄ }) hfr hefr hF fun h₅ hH₅ u₅ => ?_
  refine own_flight (s := { s with heap := h₅, toks := tk₄, gens := gs₄ }) hefr hH₅ fun h₆ hH₆ u₆ => ?_
  refine wpAny_noteFrame_againW hefr hH₆.2.2.2 ?_
  refine wpAny_landsW (s := { s with heap := h₆, toks := tk₄, gens := gs₄ }) hH₆ fun h₇ hF₇ u₇ => ?_
  have p₇ : G.P h₇ := G.mono (fun b o e => hF₇.1 b o (bbx b o e)) pBB
  obtain ⟨oe, hoe, hce⟩ := hF₇.there
  refine wpAny_handleBy_builtin (X := "ValueError") (T := "ValueError") (b := true) value_exc value_meta value_value ?_
  refine Name_function_global he.kind (he.glob vx hvs) (loadGlobal_builtin (by rw [he.gl]; exact G.g p₇) hvm (by rw [he.bl]; exact G.b p₇) hvb ⟨rfl, ⟨oe, hoe, hce⟩, ?_⟩) hvd
  rw [if_pos rfl]
  refine lands_againW (s := { s with heap := h₇, toks := tk₄, gens := gs₄ }) hF₇ fun h₈ hF₈ u₈ => ?_
  refine wpAny_execs_cons (wpAny_Return_some (wpAny_Constant_bool ?_))
  exact hQ h₈ tk₄ gs₄ (fun b o e => hF₈.1 b o (bbx b o e)) (up₄.trans (u₅.trans (u₆.trans (u₇.trans u₈)))) hb₄
end
end Mine
end

section
open PySem PySem.W PyProof.Rows PySem.Calls
open Sem (wp)
namespace Mine
section
variable {G : Gd} {A : Around} {s : Shared} {E : Value → Shared → Prop}
theorem refused_call {gx vx : Str} {tp gp rp cp fp c1 r1 vp c2 r2 hp tp2 c3 r3 : Pos} {k1 k2 k3 : Nat} {a a4 ax : Addr} {fd fd4 : FuncData} {outer : List Env} {BB : Heap} {items : Array Value} {x0 : Int} {xs : List Int} {Q : Value → Shared → Prop}
    (hbody : bodyAt 61 = refBody gx vx tp gp rp cp fp c1 r1 vp c2 r2 hp tp2 c3 r3 k1 k2 k3) (rf : RFn G a fd) (gf : GFn G a4 fd4) (u : UName G (scopeAt 61) gx a4) (hvs : (scopeAt 61).names.lookup vx = some .globalImplicit) (hvm : G.mg vx = none) (hvb : G.mb vx = some (.type "ValueError")) (hvd : (vx == ("__debug__" : Str)) = false)
    (sh : GShapeX G) (bud : Bud 6 A) (hfr : A.frames = some outer) (hP : G.P s.heap) (hb : AllBare s.gens) (hB : Ext BB s.heap) (pBB : G.P BB) (hff : s.heap.FunFrames BB outer) (hl : s.heap.IsList ax items) (hx0 : x0 = 0) (hI : IntsAre items.toList (x0 :: xs))
    (hQ : ∀ h' tk gs, Ext BB h' → s.heap.UpToSlots h' → AllBare gs → Q (.bool true) { s with heap := h', toks := tk, gens := gs }) :
    wpAny (model G.prog G.w) A (call (.ref a) [.ref ax]) Q E s := by
  obtain ⟨o, ho, hd, hcd⟩ := rf.fn.at' s.heap hP
  refine wpAny_call (codeAny_call_function (by have := bud.dp; show A.depth < 1000; lia) ho hd rf.fn.co rf.fn.gen rf.fn.body hcd (rf.bind s (.ref ax) hP _ _ _ _ ?_))
  rw [rf.fn.clos]
  refine wpAny_newFunctionEnv_cells rf.fn.kind (fun y hy => ?_) fun env he s' x => ?_
  · rw [List.mem_singleton.mp hy]
    left; show fd.scope.names.lookup (nmT 14) = _; rw [rf.scope]; kernel_rfl
  subst he
  dsimp only [newEnv] at x ⊢
  obtain ⟨h₁, tk, rfl, _⟩ := x.done
  have hk₁ : Ext s.heap h₁ := x.toInCall.keep
  refine ⟨(G.nl hP).keeps hk₁, codeAny_func ?_⟩
  have hns := x.toInCall.ns
  have hL : fd.scope.names.lookup (nmT 14) = some .local := by rw [rf.scope]; kernel_rfl
  have h14 := bindL_get (fun x => fd.scope.names.lookup x) hL [(nmT 14, Value.ref ax)] (fun _ => Option.none) (by simp) (.head _)
  have bbL : BB.get? s.heap.objs.size = none := by
    cases w : BB.get? s.heap.objs.size with
    | none => rfl
    | some o => have := hB _ _ w; rw [get_fresh] at this; cases this
  rw [hbody]
  refine refused_body (s := { s with heap := h₁, toks := tk }) ?_ rf.scope rfl rfl hns h14 bbL gf u hvs hvm hvb hvd sh (bud.deeper _) (Around.frames_deeper hfr) (G.mono hk₁ hP) hb (hB.trans hk₁) pBB (hff.of_keeps fun b o e _ => ⟨o, hk₁ b o e, rfl⟩) (hl.at fun o e => hk₁ _ _ e) hx0 hI fun h' tk' gs x' up hb' => ?_
  · exact ⟨rf.fn.kind, rf.fn.gl, rf.fn.bl, fun _ e => by rw [← rf.scope] at e; exact e, fun y hy => by
      exfalso
      have : ∀ p ∈ (scopeAt 61).names, p.2 ≠ NameKind.cell := by decide +kernel
      exact this _ (mem_of_lookupK hy) rfl⟩
  · exact hQ h' tk' gs x' (fun b o e hd => up b o (hk₁ _ _ e) hd) hb'
end
end Mine
end

section
open PySem PySem.W PyProof.Rows PySem.Calls
open Sem (wp)
namespace Mine
section
variable {G : Gd} {sc : Scope} {n : Nat} {A : Around} {X : List Addr} {B : Heap} {env : Env} {α : Nat → Addr} {H : List Addr} {st : St} {h h' : Heap}
theorem Rep.slots (R : Rep G sc n A X B env α H st h) (k : ∀ b o, b ≠ env.locals → h.get? b = some o → h'.get? b = some o) (u : h.UpToSlots h') : Rep G sc n A X B env α H st h' := by
  have ns' : ∀ m, h.Ns env.locals m → h'.Ns env.locals m := fun m q => u.ns q
  have cell' : ∀ c ∈ env.cells.map (·.2), ∀ v, h.IsCell c v → h'.IsCell c v := fun c hc v q => by
    obtain ⟨o, e, r⟩ := q
    exact ⟨o, k c o (R.cB c hc).2.2.1 e, r⟩
  refine { R with keep := ?_, hok := ?_, ns := ?_, cB := ?_, vars := ?_ }
  · intro b o q
    exact k b o (fun w => by rw [w, R.lB] at q; cases q) (R.keep b o q)
  · intro a ha
    obtain ⟨o, q⟩ := R.hok a ha
    by_cases w : a = env.locals
    · refine byC fun CC hCC => ?_
      obtain ⟨m, hm⟩ := R.ns
      obtain ⟨o', _, _, q', _⟩ := ns' m hm
      refine hCC ?_
      clear hCC
      exact ⟨o', w ▸ q'⟩
    · exact ⟨o, k a o w q⟩
  · obtain ⟨m, hm⟩ := R.ns
    exact ⟨m, ns' m hm⟩
  · intro d hd
    refine byC fun CC hCC => ?_
    obtain ⟨h1, h2, h3, v, h4⟩ := R.cB d hd
    refine hCC ?_
    clear hCC
    exact ⟨h1, h2, h3, v, cell' d hd v h4⟩
  · intro y lv q
    obtain ⟨v, sto, r, o⟩ := R.vars y lv q
    refine ⟨v, ?_, r.touchE k R.hL fun xs w e => ?_, o⟩
    · rcases sto with ⟨hk, m, hm, e⟩ | ⟨hk, c, hc, hi⟩
      · exact .inl ⟨hk, m, ns' m hm, e⟩
      · exact .inr ⟨hk, c, hc, cell' c (lookup_mem hc) _ hi⟩
    · subst w
      rw [o xs rfl] at e
      exact (R.oB y xs q).2.2.2.1 (by injection e)
end

noncomputable def ExSG (G : Gd) (sc : Scope) (n : Nat) (ps : Stmt) (f : St → Option (Fl × St)) : Prop :=
  ∀ (A : Around) (B : Heap) (env : Env) (α : Nat → Addr) (H : List Addr) (st : St) (s : Shared) (fl : Fl) (st' : St) (Q : Flow → Shared → Prop) (E : Value → Shared → Prop), Rep G sc n A [] B env α H st s.heap → AllBare s.gens → A.frames = some [env] → env.frame = some env.locals → f st = some (fl, st') →
    (∀ α' H' h' tk gs fw, Rep G sc n A [] B env α' H' st' h' → AllBare gs → FlR [] h' fl fw → Q fw { s with heap := h', toks := tk, gens := gs }) → wpAny (model G.prog G.w) A (exec ps env) Q E s
noncomputable def ExLG (G : Gd) (sc : Scope) (n : Nat) (ps : List Stmt) (f : St → Option (Fl × St)) : Prop :=
  ∀ (A : Around) (B : Heap) (env : Env) (α : Nat → Addr) (H : List Addr) (st : St) (s : Shared) (fl : Fl) (st' : St) (Q : Flow → Shared → Prop) (E : Value → Shared → Prop), Rep G sc n A [] B env α H st s.heap → AllBare s.gens → A.frames = some [env] → env.frame = some env.locals → f st = some (fl, st') →
    (∀ α' H' h' tk gs fw, Rep G sc n A [] B env α' H' st' h' → AllBare gs → FlR [] h' fl fw → Q fw { s with heap := h', toks := tk, gens := gs }) → wpAny (model G.prog G.w) A (execs ps env) Q E s
section
variable {G : Gd} {sc : Scope} {n : Nat}
theorem ExS.toG {p : Stmt} {f : St → Option (Fl × St)} (h : ExS G sc n p f) : ExSG G sc n p f := fun A B env α H st s fl st' Q E R hb _ _ e hQ => h A [] B env α H st s fl st' Q E R e fun α' H' h' tk fw R' hf => hQ α' H' h' tk s.gens fw R' hb hf
theorem ExL.toG {ps : List Stmt} {f : St → Option (Fl × St)} (h : ExL G sc n ps f) : ExLG G sc n ps f := fun A B env α H st s fl st' Q E R hb _ _ e hQ => h A [] B env α H st s fl st' Q E R e fun α' H' h' tk fw R' hf => hQ α' H' h' tk s.gens fw R' hb hf
theorem ExLG.cons {p : Stmt} {ps : List Stmt} {f g : St → Option (Fl × St)} (h : ExSG G sc n p f) (hs : ExLG G sc n ps g) : ExLG G sc n (p :: ps) (sSeq f g) := fun A B env α H st s fl st' Q E R hb hfr hf0 e hQ => by
  unfold sSeq at e
  refine bind_some2 (e) fun fl₁ st₁ h1 e => ?_
  refine wpAny_execs_cons (h A B env α H st s fl₁ st₁ _ E R hb hfr hf0 h1 fun α' H' h' tk gs fw R' hb' hf => ?_)
  cases fl₁ with
  | next => cases hf; exact hs A B env α' H' st₁ _ fl st' Q E R' hb' hfr hf0 e fun α'' H'' h'' tk' gs' fw R'' hb'' hf => hQ α'' H'' h'' tk' gs' fw R'' hb'' hf
  | brk => cases hf; cases e; exact hQ _ _ _ _ _ _ R' hb' rfl
  | cont => cases hf; cases e; exact hQ _ _ _ _ _ _ R' hb' rfl
  | ret p => obtain ⟨v, rfl, r⟩ := hf; cases e; exact hQ _ _ _ _ _ _ R' hb' ⟨v, rfl, r⟩

noncomputable def EvTG (G : Gd) (sc : Scope) (n : Nat) (pe : PySem.Expr) (f : St → Option Bool) : Prop :=
  ∀ (A : Around) (env : Env) (H : List Addr) (st : St) (s : Shared) (b : Bool) (Q : Bool → Shared → Prop) (E : Value → Shared → Prop), Sit G sc n A env H st s.heap → AllBare s.gens → f st = some b →
    (∀ h' tk gs, Ext s.heap h' → AllBare gs → Q b { s with heap := h', toks := tk, gens := gs }) → wpAny (model G.prog G.w) A (isTrue pe env (eval pe env)) Q E s
theorem EvTG.cmp {l r : PySem.Expr} {o : CmpOp} {pos : Pos} {f g : St → Option LV} {op : PyData → PyData → Option LV} (hl : EvVG G sc n l f) (hr : EvV G sc n r g) (ho : Op2 G (compareOp o) op) (hm : behindInMarks o r = false) :
    EvTG G sc n (.Compare l [o] [r] pos) (tOf truth (e2 op f g)) := fun A env H st s b Q E S hb q hQ => by
  unfold tOf at q
  refine byC fun CC hCC => ?_
  refine bind_some (q) fun lv hlv q => ?_
  unfold e2 at hlv
  refine bind_some (hlv) fun x hx e => ?_
  refine bind_some (e) fun y hy e => ?_
  obtain ⟨la, hla, da⟩ := dat_some hx
  obtain ⟨lb, hlb, db⟩ := dat_some hy
  refine hCC ?_
  clear hCC
  refine wpAny_isTrue_Compare1 (hl A env H st s la _ E S hb hla fun va h₁ t₁ gs x₁ hb₁ ra => ?_) hm
  have S₁ : Sit G sc n A env H st h₁ := S.ext x₁
  refine hr A env H st _ lb _ E S₁ hlb fun vb h₂ t₂ x₂ rb => ?_
  have S₂ : Sit G sc n A env H st h₂ := S₁.ext x₂
  refine ho n A H _ va vb x y lv _ E S₂.bud S₂.p S₂.hok ((ra.ext x₂).rd da) (rb.rd db) e fun v h₃ t₃ x₃ r => ?_
  exact truth_ok r q fun tk => hQ h₃ tk gs (x₁.trans (x₂.trans x₃)) hb₁
noncomputable def sIfF (t : St → Option Bool) : St → Option (Fl × St) := fun st => (t st).bind fun b => cond b none (some (.next, st))
theorem ExSG.ifF {c : PySem.Expr} {b : List Stmt} {pos : Pos} {t : St → Option Bool} (hc : EvTG G sc n c t) : ExSG G sc n (.If c b [] pos) (sIfF t) := fun A B env α H st s fl st' Q E R hb hfr hf0 q hQ => by
  unfold sIfF at q
  refine bind_some (q) fun k hk q => ?_
  cases k with
  | true => cases q
  | false =>
    cases q
    exact wpAny_If (hc A env H st s false _ E R.sit hb hk fun h₁ t₁ gs x₁ hb₁ => wpAny_execs_nil (hQ α H h₁ t₁ gs .next (R.ext x₁) hb₁ rfl))
noncomputable def tRef (fe : St → Option LV) (t : St → Option Bool) : St → Option Bool := fun st => (eLst fe st).bind fun ds => (zsOf ds).bind fun xs => match xs with
  | 0 :: _ => t st
  | _ => none
theorem ExSG.refused {gx vx fx : Str} {tp gp rp cp fp c1 r1 vp c2 r2 hp tp2 c3 r3 : Pos} {k1 k2 k3 : Nat} {a a4 : Addr} {fd fd4 : FuncData} {e c : PySem.Expr} {xp cpos npos opos pos : Pos} {b : List Stmt} {fe : St → Option LV} {t : St → Option Bool} (hn : 6 ≤ n) (hsc : sc.kind = .function)
    (hbody : bodyAt 61 = refBody gx vx tp gp rp cp fp c1 r1 vp c2 r2 hp tp2 c3 r3 k1 k2 k3) (rf : RFn G a fd) (gf : GFn G a4 fd4) (u4 : UName G (scopeAt 61) gx a4) (hvs : (scopeAt 61).names.lookup vx = some .globalImplicit) (hvm : G.mg vx = none) (hvb : G.mb vx = some (.type "ValueError")) (hvd : (vx == ("__debug__" : Str)) = false) (sh : GShapeX G)
    (u : UName G sc fx a) (hns : NS e) (he : EvV G sc n e fe) (hc : EvTG G sc n c t) :
    ExSG G sc n (.If (.BoolOp .Or [.UnaryOp .Not (.Call (.Name fx xp) [e] [] cpos) npos, c] opos) b [] pos) (sIfF (tRef fe t)) := fun A B env α H st s fl st' Q E R hb hfr hf0 q hQ => by
  unfold sIfF at q
  refine bind_some (q) fun k hk q => ?_
  cases k with
  | true => cases q
  | false =>
    refine byC fun CC hCC => ?_
    cases q
    unfold tRef at hk
    refine bind_some (hk) fun ds hds hk => ?_
    refine bind_some (hk) fun xs hxs hk => ?_
    obtain ⟨ys, rfl, hk⟩ : ∃ ys, xs = 0 :: ys ∧ t st = some false := by
      split at hk
      · exact ⟨_, rfl, hk⟩
      · cases hk
    obtain ⟨la, hla, ea⟩ := lst_some hds
    refine hCC ?_
    clear hCC
    have S := R.sit
    refine wpAny_If (isTrue_or (PyProof.Rows.isTrue_not (isTrue_plain ?_ rfl)))
    refine wpAny_Call_Name_kw (Name_function_global S.eo.kind (S.eo.glob fx u.sc) (loadGlobal_global (by rw [S.eo.gl]; exact G.g S.p) u.mg ?_) u.db)
    have e1 : starEach [e] env = [(false, eval e env)] := by rw [hns [] env]; rfl
    refine callWith_of (P := G.P) (by rw [e1]; rfl) (fun h hh => ?_) ?_
    · obtain ⟨o, ho, fd, hd⟩ := u.fn h hh
      exact ⟨_, .inl rfl, keeper_fn ho hd⟩
    rw [e1]
    refine evalArgs_plain (spliced_cons (he A env H st s la _ E S hla fun v h₁ t₁ x₁ r => spliced_nil ?_))
    have R₁ := R.ext x₁
    have p₁ := R₁.sit.p
    refine ⟨p₁, ?_⟩
    refine byC fun CC hCC => ?_
    obtain ⟨ax, vs, rfl, hl, ra⟩ := r.lst ea
    have hI := zs_are ra hxs
    have bbL : (hideAll h₁ [env.locals]).get? env.locals = none := hideAll_none _ (.head _)
    have pBB : G.P (hideAll h₁ [env.locals]) := G.mono (fun b o e => hideAll_get _ (R₁.keep b o e) fun m => by rw [List.mem_singleton.mp m, R.lB] at e; cases e) R.pB
    obtain ⟨m, hm⟩ := R₁.ns
    obtain ⟨oL, esL, epL, hoL, hdL, _⟩ := id hm
    refine hCC ?_
    clear hCC
    refine refused_call (s := { s with heap := h₁, toks := t₁ }) (BB := hideAll h₁ [env.locals]) hbody rf gf u4 hvs hvm hvb hvd sh (R.bud.less hn) hfr p₁ hb (hide_le _ _) pBB ⟨by rw [R.se, hsc]; decide, ⟨_, oL, hf0, bbL, hoL, fun vs q => by rw [hdL] at q; cases q⟩, trivial⟩ hl rfl hI fun h₂ t₂ gs x₂ up hb₂ => ?_
    have R₂ : Rep G sc n A [] B env α H st h₂ := R₁.slots (fun b o hbL e => x₂ b o (hideAll_get _ e fun m => hbL (List.mem_singleton.mp m))) up
    refine wpAny_truthy_bool ?_
    refine isTrue_or (hc A env H st { s with heap := h₂, toks := t₂, gens := gs } false _ E R₂.sit hb₂ hk fun h₃ t₃ gs₃ x₃ hb₃ => isTrue_or_nil ?_)
    exact wpAny_execs_nil (hQ α H h₃ t₃ gs₃ .next (R₂.ext x₃) hb₃ rfl)
end
end Mine
end

section
open PySem PySem.W PyProof.Rows PySem.Calls
open Sem (wp)
namespace Mine
structure LawX {G : Gd} (L : LawG G) : Prop where
  sh : GShapeX G
  gf : GFn G (L.adr 4) (L.fd 4)
  rf : RFn G (L.adr 61) (L.fd 61)
  vm : G.mg "ValueError" = none
  vb : G.mb "ValueError" = some (.type "ValueError")
theorem refBody_ex : ∃ (tp gp rp cp fp c1 r1 vp c2 r2 hp tp2 c3 r3 : Pos) (k1 k2 k3 : Nat), bodyAt 61 = refBody ("_grouping_intervals" : Str) ("ValueError" : Str) tp gp rp cp fp c1 r1 vp c2 r2 hp tp2 c3 r3 k1 k2 k3 :=
  ⟨_, _, _, _, _, _, _, _, _, _, _, _, _, _, _, _, _, rfl⟩
section
variable {G : Gd} {sc : Scope} {n : Nat}
theorem ExSG.refusedX (L : LawG G) (X : LawX L) {fx : Str} {e c : PySem.Expr} {xp cpos npos opos pos : Pos} {b : List Stmt} {fe : St → Option LV} {t : St → Option Bool} (hn : 6 ≤ n) (hsc : sc.kind = .function) (hfx : nameAt 61 = fx)
    (hs : sc.names.lookup fx = some .globalImplicit) (hns : NS e) (he : EvV G sc n e fe) (hc : EvTG G sc n c t) :
    ExSG G sc n (.If (.BoolOp .Or [.UnaryOp .Not (.Call (.Name fx xp) [e] [] cpos) npos, c] opos) b [] pos) (sIfF (tRef fe t)) := by
  refine byC fun CC hCC => ?_
  obtain ⟨tp, gp, rp, cp, fp, c1, r1, vp, c2, r2, hp, tp2, c3, r3, k1, k2, k3, hbody⟩ := refBody_ex
  refine hCC ?_
  clear hCC
  exact ExSG.refused hn hsc hbody X.rf X.gf (L.u 4 (by decide) (by kernel_rfl) (by kernel_rfl)) (by kernel_rfl) X.vm X.vb (by kernel_rfl) X.sh (L.u 61 (by decide) hfx hs) hns he hc
end
noncomputable def stL (k : Nat) : Stmt := match (bodyAt 68)[k]? with
  | some s => s
  | none => .Pass default
noncomputable def s_law0 : St → Option (Fl × St) := (sAssignF 44 (eList (lCons (eC (.int 100211)) (lCons (eC (.int 513724)) (lCons (eC (.int 4)) lNil)))))
theorem d_law0 {G : Gd} (L : LawG G) : ExSG G (scopeAt 68) 10 (stL 0) (s_law0) := (ExS.toG (ExS.assignF (L.nmi 44) (.inr (by kernel_rfl)) (EvF.list (EvL.cons (fun _ _ => rfl) EvV.int (EvL.cons (fun _ _ => rfl) EvV.int (EvL.cons (fun _ _ => rfl) EvV.int EvL.nil)))) (fun _ _ => rfl)))
noncomputable def s_law1 : St → Option (Fl × St) := (sFor 25 (iRange (lCons (eN oLen (lCons (eVar 43) lNil)) lNil)) (sSeq (sAugIdx 44 oIadd (e2 oMod (eVar 25) (eC (.int 3))) (eIdx (eVar 43) (eVar 25))) sNil))
theorem d_law1 {G : Gd} (L : LawG G) : ExSG G (scopeAt 68) 10 (stL 1) (s_law1) := (ExS.toG (ExS.for (L.nmi 25) (.inl (by kernel_rfl)) (EvI.range (L.bn (v := .type "range") (by simp) (by kernel_rfl)) (ns_cons (fun _ _ => rfl) ns_nil) (EvL.cons (fun _ _ => rfl) (EvV.bcall (L.bn (v := .builtin "len") (by simp) (by kernel_rfl)) (ns_cons (fun _ _ => rfl) ns_nil) (EvL.cons (fun _ _ => rfl) (EvV.name (L.nmi 43)) EvL.nil) op_len) EvL.nil)) (ExL.cons (ExS.augIdx (L.nmi 44) (EvV.binop (EvV.name (L.nmi 25)) EvV.int op_mod) (EvV.idx (EvV.name (L.nmi 43)) (EvV.name (L.nmi 25)) (fun _ _ => rfl)) op_iadd (fun _ _ _ => rfl)) ExL.nil) (fun _ _ => rfl)))
noncomputable def s_law2 : St → Option (Fl × St) := (sAssign 23 (e2 oAdd (eC (.int 5)) (e2 oMod (eCall (f_figure) (lCons (eIdx (eVar 44) (eC (.int 0))) (lCons (eC (.int 0)) lNil))) (eC (.int 3)))))
theorem d_law2 {G : Gd} (L : LawG G) : ExSG G (scopeAt 68) 10 (stL 2) (s_law2) := (ExS.toG (ExS.assign (L.nmi 23) (.inr (by kernel_rfl)) (EvV.binop EvV.int (EvV.binop (EvV.ucall (L.u 59 (by decide) (by kernel_rfl) (by kernel_rfl)) (ns_cons (fun _ _ => rfl) (ns_cons (fun _ _ => rfl) ns_nil)) (EvL.cons (fun _ _ => rfl) (EvV.idx (EvV.name (L.nmi 44)) EvV.int (fun _ _ => rfl)) (EvL.cons (fun _ _ => rfl) EvV.int EvL.nil)) (c_figure L (by decide))) EvV.int op_mod) op_add) (fun _ _ => rfl)))
noncomputable def s_law3 : St → Option (Fl × St) := (sAssignF 45 (eList (lCons (fzF (eList (lCons (eC (.int 8)) (lCons (eC (.str ("" : Str))) lNil)))) (lCons (fzF (eList (lCons (eC (.int 7)) (lCons (eC (.str (" " : Str))) lNil)))) (lCons (fzF (eList (lCons (eC (.int 6)) (lCons (eC (.str ("A" : Str))) lNil)))) (lCons (fzF (eList (lCons (eC (.int 5)) (lCons (eC (.str ("Aa" : Str))) lNil)))) (lCons (fzF (eList (lCons (eC (.int 4)) (lCons (eC (.str ("B" : Str))) lNil)))) (lCons (fzF (eList (lCons (eC (.int 3)) (lCons (eC (.str ("a" : Str))) lNil)))) (lCons (fzF (eList (lCons (eC (.int 2)) (lCons (eC (.str ("aB" : Str))) lNil)))) (lCons (fzF (eList (lCons (eC (.int 1)) (lCons (eC (.str ("f" : Str))) lNil)))) (lCons (fzF (eList (lCons (eC (.int 0)) (lCons (eC (.str ("é" : Str))) lNil)))) lNil)))))))))))
theorem d_law3 {G : Gd} (L : LawG G) : ExSG G (scopeAt 68) 10 (stL 3) (s_law3) := (@ExS.toG _ _ _ _ _ (@ExS.assignF _ _ _ _ _ _ _ _ _ (L.nmi 45) (.inl (by kernel_rfl)) (@EvF.list _ _ _ _ _ _ (@EvL.cons _ _ _ _ _ _ _ (fun _ _ => rfl) (@EvF.toV _ _ _ _ _ (@EvF.list _ _ _ _ _ _ (@EvL.cons _ _ _ _ _ _ _ (fun _ _ => rfl) EvV.int (@EvL.cons _ _ _ _ _ _ _ (fun _ _ => rfl) EvV.str EvL.nil)))) (@EvL.cons _ _ _ _ _ _ _ (fun _ _ => rfl) (@EvF.toV _ _ _ _ _ (@EvF.list _ _ _ _ _ _ (@EvL.cons _ _ _ _ _ _ _ (fun _ _ => rfl) EvV.int (@EvL.cons _ _ _ _ _ _ _ (fun _ _ => rfl) EvV.str EvL.nil)))) (@EvL.cons _ _ _ _ _ _ _ (fun _ _ => rfl) (@EvF.toV _ _ _ _ _ (@EvF.list _ _ _ _ _ _ (@EvL.cons _ _ _ _ _ _ _ (fun _ _ => rfl) EvV.int (@EvL.cons _ _ _ _ _ _ _ (fun _ _ => rfl) EvV.str EvL.nil)))) (@EvL.cons _ _ _ _ _ _ _ (fun _ _ => rfl) (@EvF.toV _ _ _ _ _ (@EvF.list _ _ _ _ _ _ (@EvL.cons _ _ _ _ _ _ _ (fun _ _ => rfl) EvV.int (@EvL.cons _ _ _ _ _ _ _ (fun _ _ => rfl) EvV.str EvL.nil)))) (@EvL.cons _ _ _ _ _ _ _ (fun _ _ => rfl) (@EvF.toV _ _ _ _ _ (@EvF.list _ _ _ _ _ _ (@EvL.cons _ _ _ _ _ _ _ (fun _ _ => rfl) EvV.int (@EvL.cons _ _ _ _ _ _ _ (fun _ _ => rfl) EvV.str EvL.nil)))) (@EvL.cons _ _ _ _ _ _ _ (fun _ _ => rfl) (@EvF.toV _ _ _ _ _ (@EvF.list _ _ _ _ _ _ (@EvL.cons _ _ _ _ _ _ _ (fun _ _ => rfl) EvV.int (@EvL.cons _ _ _ _ _ _ _ (fun _ _ => rfl) EvV.str EvL.nil)))) (@EvL.cons _ _ _ _ _ _ _ (fun _ _ => rfl) (@EvF.toV _ _ _ _ _ (@EvF.list _ _ _ _ _ _ (@EvL.cons _ _ _ _ _ _ _ (fun _ _ => rfl) EvV.int (@EvL.cons _ _ _ _ _ _ _ (fun _ _ => rfl) EvV.str EvL.nil)))) (@EvL.cons _ _ _ _ _ _ _ (fun _ _ => rfl) (@EvF.toV _ _ _ _ _ (@EvF.list _ _ _ _ _ _ (@EvL.cons _ _ _ _ _ _ _ (fun _ _ => rfl) EvV.int (@EvL.cons _ _ _ _ _ _ _ (fun _ _ => rfl) EvV.str EvL.nil)))) (@EvL.cons _ _ _ _ _ _ _ (fun _ _ => rfl) (@EvF.toV _ _ _ _ _ (@EvF.list _ _ _ _ _ _ (@EvL.cons _ _ _ _ _ _ _ (fun _ _ => rfl) EvV.int (@EvL.cons _ _ _ _ _ _ _ (fun _ _ => rfl) EvV.str EvL.nil)))) EvL.nil)))))))))) (fun _ _ => rfl)))
noncomputable def s_law4 : St → Option (Fl × St) := (sAssignF 46 (eList lNil))
theorem d_law4 {G : Gd} (L : LawG G) : ExSG G (scopeAt 68) 10 (stL 4) (s_law4) := (ExS.toG (ExS.assignF (L.nmi 46) (.inl (by kernel_rfl)) (EvF.list EvL.nil) (fun _ _ => rfl)))
noncomputable def s_law5 : St → Option (Fl × St) := (sFor 25 (iRange (lCons (eVar 23) lNil)) (sSeq (sAssignM 13 (mPop 45 (e2 oMod (eCall (f_figure) (lCons (eIdx (eVar 44) (eC (.int 1))) (lCons (eVar 25) lNil))) (eN oLen (lCons (eVar 45) lNil))))) (sSeq (sAssign 47 (fzF (eList (lCons (eVar 13) (lCons (fzF (eList (lCons (e2 oAdd (eIdx (eVar 13) (eC (.int 0))) (eC (.int 9))) (lCons (eIdx (eVar 13) (eC (.int 1))) lNil)))) lNil))))) (sSeq (sFor 48 (iLst (eVar 47)) (sSeq (sIfNN (mInsort 46 f_insort (eVar 48)) (sSeq (sRetV (eC (.bool false))) sNil) sNil) sNil)) (sSeq (sAssign 49 (eCallK f_bleftK eFn (lCons (eVar 46) (lCons (eCall (f_key) (lCons (eVar 13) lNil)) lNil)))) (sSeq (sIf (tOf truth (e2 oNe (fzF (eSlice (eVar 46) (pSome (eVar 49)) (pSome (eCallK f_brightK eFn (lCons (eVar 46) (lCons (eIdx (eVar 13) (eC (.int 1))) lNil)))) pNone)) (eVar 47))) (sSeq (sRetV (eC (.bool false))) sNil) sNil) sNil))))))
theorem d_law5 {G : Gd} (L : LawG G) : ExSG G (scopeAt 68) 10 (stL 5) (s_law5) := (ExS.toG (ExS.for (L.nmi 25) (.inl (by kernel_rfl)) (EvI.range (L.bn (v := .type "range") (by simp) (by kernel_rfl)) (ns_cons (fun _ _ => rfl) ns_nil) (EvL.cons (fun _ _ => rfl) (EvV.name (L.nmi 23)) EvL.nil)) (ExL.cons (ExS.assignM (L.nmi 13) (.inl (by kernel_rfl)) (EvM.pop (L.nmi 45) (fun _ _ => rfl) rfl (EvV.binop (EvV.ucall (L.u 59 (by decide) (by kernel_rfl) (by kernel_rfl)) (ns_cons (fun _ _ => rfl) (ns_cons (fun _ _ => rfl) ns_nil)) (EvL.cons (fun _ _ => rfl) (EvV.idx (EvV.name (L.nmi 44)) EvV.int (fun _ _ => rfl)) (EvL.cons (fun _ _ => rfl) (EvV.name (L.nmi 25)) EvL.nil)) (c_figure L (by decide))) (EvV.bcall (L.bn (v := .builtin "len") (by simp) (by kernel_rfl)) (ns_cons (fun _ _ => rfl) ns_nil) (EvL.cons (fun _ _ => rfl) (EvV.name (L.nmi 45)) EvL.nil) op_len) op_mod)) (fun _ _ => rfl)) (ExL.cons (ExS.assign (L.nmi 47) (.inl (by kernel_rfl)) (EvF.toV (EvF.list (EvL.cons (fun _ _ => rfl) (EvV.name (L.nmi 13)) (EvL.cons (fun _ _ => rfl) (EvF.toV (EvF.list (EvL.cons (fun _ _ => rfl) (EvV.binop (EvV.idx (EvV.name (L.nmi 13)) EvV.int (fun _ _ => rfl)) EvV.int op_add) (EvL.cons (fun _ _ => rfl) (EvV.idx (EvV.name (L.nmi 13)) EvV.int (fun _ _ => rfl)) EvL.nil)))) EvL.nil)))) (fun _ _ => rfl)) (ExL.cons (ExS.for (L.nmi 48) (.inl (by kernel_rfl)) (EvI.list (EvV.name (L.nmi 47))) (ExL.cons (ExS.ifNN (EvM.insort (L.u 6 (by decide) (by kernel_rfl) (by kernel_rfl)) (L.nmi 46) (fun _ _ => rfl) (fun _ _ => rfl) (EvV.name (L.nmi 48)) (EvV.fnName (by kernel_rfl) (L.mgKey (by kernel_rfl)) (by kernel_rfl)) (c_insort L (by decide))) (ExL.cons (ExS.ret EvV.bool) ExL.nil) ExL.nil) ExL.nil) (fun _ _ => rfl)) (ExL.cons (ExS.assign (L.nmi 49) (.inl (by kernel_rfl)) (EvV.ucallKN (L.u 8 (by decide) (by kernel_rfl) (by kernel_rfl)) (ns_cons (fun _ _ => rfl) (ns_cons (fun _ _ => rfl) ns_nil)) (EvL.cons (fun _ _ => rfl) (EvV.name (L.nmi 46)) (EvL.cons (fun _ _ => rfl) (EvV.ucall (L.u 60 (by decide) (by kernel_rfl) (by kernel_rfl)) (ns_cons (fun _ _ => rfl) ns_nil) (EvL.cons (fun _ _ => rfl) (EvV.name (L.nmi 13)) EvL.nil) (c_key L (by decide))) EvL.nil)) (EvV.fnName (by kernel_rfl) (L.mgKey (by kernel_rfl)) (by kernel_rfl)) (c_bleftK L (by decide))) (fun _ _ => rfl)) (ExL.cons (ExS.if (EvT.cmp (EvF.toV (EvF.slice (EvV.name (L.nmi 46)) (EvP.some (EvV.name (L.nmi 49))) (EvP.some (EvV.ucallKN (L.u 7 (by decide) (by kernel_rfl) (by kernel_rfl)) (ns_cons (fun _ _ => rfl) (ns_cons (fun _ _ => rfl) ns_nil)) (EvL.cons (fun _ _ => rfl) (EvV.name (L.nmi 46)) (EvL.cons (fun _ _ => rfl) (EvV.idx (EvV.name (L.nmi 13)) EvV.int (fun _ _ => rfl)) EvL.nil)) (EvV.fnName (by kernel_rfl) (L.mgKey (by kernel_rfl)) (by kernel_rfl)) (c_brightK L (by decide)))) EvP.none)) (EvV.name (L.nmi 47)) op_ne rfl) (ExL.cons (ExS.ret EvV.bool) ExL.nil) ExL.nil) ExL.nil))))) (fun _ _ => rfl)))
noncomputable def s_law6 : St → Option (Fl × St) := (sAssign 39 (fzF (eSlice (eVar 46) pNone pNone (pSome (eC (.int 2))))))
theorem d_law6 {G : Gd} (L : LawG G) : ExSG G (scopeAt 68) 10 (stL 6) (s_law6) := (ExS.toG (ExS.assign (L.nmi 39) (.inl (by kernel_rfl)) (EvF.toV (EvF.slice (EvV.name (L.nmi 46)) EvP.none EvP.none (EvP.some EvV.int))) (fun _ _ => rfl)))
noncomputable def s_law7 : St → Option (Fl × St) := (sAssignC 50 (eComp 13 [] (iLst (eVar 39)) tTrue (eIdx (eVar 13) (eC (.int 0)))))
theorem d_law7 {G : Gd} (L : LawG G) : ExSG G (scopeAt 68) 10 (stL 7) (s_law7) := (ExS.toG (ExS.assignC (L.nmi 50) (.inl (by kernel_rfl)) ⟨L.nmi 13, (by kernel_rfl), (by decide +kernel), (by decide +kernel), (by kernel_rfl), (by decide +kernel), (by intro i hi; rw [L.nm]; revert i; decide +kernel)⟩ (EvI.list (EvV.name (L.nmi 39))) EvIfs.nil (EvV.idx (EvV.name (L.nmi 13)) EvV.int (fun _ _ => rfl)) (fun _ _ => rfl) (fun _ h => swaps_true h (by kernel_rfl) (by kernel_rfl) (by kernel_rfl) (by kernel_rfl))))
noncomputable def s_law8 : St → Option (Fl × St) := (sIf (tOr (tOf truth (e2 oNe (eN oLen (lCons (eVar 39) lNil)) (eVar 23))) (tOf truth (e2 oNe (eVar 50) (fzF (eSlice (fzF (eSorted (eVar 50))) pNone pNone (pSome (e1 oNeg (eC (.int 1))))))))) (sSeq (sRetV (eC (.bool false))) sNil) sNil)
theorem d_law8 {G : Gd} (L : LawG G) : ExSG G (scopeAt 68) 10 (stL 8) (s_law8) := (ExS.toG (ExS.if (EvT.or (EvT.cmp (EvV.bcall (L.bn (v := .builtin "len") (by simp) (by kernel_rfl)) (ns_cons (fun _ _ => rfl) ns_nil) (EvL.cons (fun _ _ => rfl) (EvV.name (L.nmi 39)) EvL.nil) op_len) (EvV.name (L.nmi 23)) op_ne rfl) (EvT.cmp (EvV.name (L.nmi 50)) (EvF.toV (EvF.slice (EvF.toV (EvF.sorted (L.bn (v := .builtin "sorted") (by simp) (by kernel_rfl)) (fun _ _ => rfl) (EvV.name (L.nmi 50)))) EvP.none EvP.none (EvP.some (EvV.neg EvV.int)))) op_ne rfl)) (ExL.cons (ExS.ret EvV.bool) ExL.nil) ExL.nil))
noncomputable def s_law9 : St → Option (Fl × St) := (sAssignC 51 (eComp 25 [44] (iRange (lCons (e2 oAdd (eC (.int 1)) (e2 oMod (eCall (f_figure) (lCons (eIdx (eVar 44) (eC (.int 0))) (lCons (eC (.int 1)) lNil))) (eC (.int 3)))) lNil)) tTrue (e2 oAdd (eC (.int 1)) (e2 oMod (eCall (f_figure) (lCons (eIdx (eVar 44) (eC (.int 0))) (lCons (e2 oAdd (eC (.int 2)) (eVar 25)) lNil))) (eC (.int 3))))))
theorem d_law9 {G : Gd} (L : LawG G) : ExSG G (scopeAt 68) 10 (stL 9) (s_law9) := (ExS.toG (ExS.assignC (L.nmi 51) (.inl (by kernel_rfl)) ⟨L.nmi 25, (by kernel_rfl), (by decide +kernel), (by decide +kernel), (by kernel_rfl), (by decide +kernel), (by intro i hi; rw [L.nm]; revert i; decide +kernel)⟩ (EvI.range (L.bn (v := .type "range") (by simp) (by kernel_rfl)) (ns_cons (fun _ _ => rfl) ns_nil) (EvL.cons (fun _ _ => rfl) (EvV.binop EvV.int (EvV.binop (EvV.ucall (L.u 59 (by decide) (by kernel_rfl) (by kernel_rfl)) (ns_cons (fun _ _ => rfl) (ns_cons (fun _ _ => rfl) ns_nil)) (EvL.cons (fun _ _ => rfl) (EvV.idx (EvV.name (L.nmi 44)) EvV.int (fun _ _ => rfl)) (EvL.cons (fun _ _ => rfl) EvV.int EvL.nil)) (c_figure L (by decide))) EvV.int op_mod) op_add) EvL.nil)) EvIfs.nil (EvV.binop EvV.int (EvV.binop (EvV.ucall (L.u 59 (by decide) (by kernel_rfl) (by kernel_rfl)) (ns_cons (fun _ _ => rfl) (ns_cons (fun _ _ => rfl) ns_nil)) (EvL.cons (fun _ _ => rfl) (EvV.idx (EvV.name (L.nmi 44)) EvV.int (fun _ _ => rfl)) (EvL.cons (fun _ _ => rfl) (EvV.binop EvV.int (EvV.name (L.nmi 25)) op_add) EvL.nil)) (c_figure L (by decide))) EvV.int op_mod) op_add) (fun _ _ => rfl) (fun _ h => swaps_true h (by kernel_rfl) (by kernel_rfl) (by kernel_rfl) (by kernel_rfl))))
noncomputable def s_law10 : St → Option (Fl × St) := (sAssign 52 (e2 oMod (eCall (f_figure) (lCons (eIdx (eVar 44) (eC (.int 0))) (lCons (eC (.int 5)) lNil))) (eC (.int 5))))
theorem d_law10 {G : Gd} (L : LawG G) : ExSG G (scopeAt 68) 10 (stL 10) (s_law10) := (ExS.toG (ExS.assign (L.nmi 52) (.inl (by kernel_rfl)) (EvV.binop (EvV.ucall (L.u 59 (by decide) (by kernel_rfl) (by kernel_rfl)) (ns_cons (fun _ _ => rfl) (ns_cons (fun _ _ => rfl) ns_nil)) (EvL.cons (fun _ _ => rfl) (EvV.idx (EvV.name (L.nmi 44)) EvV.int (fun _ _ => rfl)) (EvL.cons (fun _ _ => rfl) EvV.int EvL.nil)) (c_figure L (by decide))) EvV.int op_mod) (fun _ _ => rfl)))
noncomputable def s_law11 : St → Option (Fl × St) := (sAssign 53 (eIdxT (eTuple (lCons (fzF (eList lNil)) (lCons (fzF (eList (lCons (eC (.int 0)) lNil))) (lCons (fzF (eList (lCons (eC (.int 0)) (lCons (eC (.int 5)) lNil)))) (lCons (fzF (eList (lCons (eC (.int 127)) lNil))) (lCons (fzF (eList (lCons (eC (.int 127)) (lCons (eC (.int 2)) lNil)))) lNil)))))) (eVar 52)))
theorem d_law11 {G : Gd} (L : LawG G) : ExSG G (scopeAt 68) 10 (stL 11) (s_law11) := (@ExS.toG _ _ _ _ _ (@ExS.assign _ _ _ _ _ _ _ _ _ (L.nmi 53) (.inl (by kernel_rfl)) (@EvV.idxT _ _ _ _ _ _ _ _ (@EvV.tuple _ _ _ _ _ _ _ (@EvL.cons _ _ _ _ _ _ _ (fun _ _ => rfl) (@EvF.toV _ _ _ _ _ (@EvF.list _ _ _ _ _ _ EvL.nil)) (@EvL.cons _ _ _ _ _ _ _ (fun _ _ => rfl) (@EvF.toV _ _ _ _ _ (@EvF.list _ _ _ _ _ _ (@EvL.cons _ _ _ _ _ _ _ (fun _ _ => rfl) EvV.int EvL.nil))) (@EvL.cons _ _ _ _ _ _ _ (fun _ _ => rfl) (@EvF.toV _ _ _ _ _ (@EvF.list _ _ _ _ _ _ (@EvL.cons _ _ _ _ _ _ _ (fun _ _ => rfl) EvV.int (@EvL.cons _ _ _ _ _ _ _ (fun _ _ => rfl) EvV.int EvL.nil)))) (@EvL.cons _ _ _ _ _ _ _ (fun _ _ => rfl) (@EvF.toV _ _ _ _ _ (@EvF.list _ _ _ _ _ _ (@EvL.cons _ _ _ _ _ _ _ (fun _ _ => rfl) EvV.int EvL.nil))) (@EvL.cons _ _ _ _ _ _ _ (fun _ _ => rfl) (@EvF.toV _ _ _ _ _ (@EvF.list _ _ _ _ _ _ (@EvL.cons _ _ _ _ _ _ _ (fun _ _ => rfl) EvV.int (@EvL.cons _ _ _ _ _ _ _ (fun _ _ => rfl) EvV.int EvL.nil)))) EvL.nil)))))) (EvV.name (L.nmi 52)) (fun _ _ => rfl)) (fun _ _ => rfl)))
noncomputable def s_law12 : St → Option (Fl × St) := (sIfF (tRef (fzF (eCat (fzF (eCat (fzF (eList (lCons (eC (.int 0)) lNil))) (eVar 51))) (eVar 53))) (tOf truth (e2 oNe (eComp0 (fzF (eCat (fzF (eList (lCons (eC (.int 127)) lNil))) (eVar 51)))) (fzF (eList lNil))))))
theorem d_law12 {G : Gd} (L : LawG G) (X : LawX L) : ExSG G (scopeAt 68) 10 (stL 12) (s_law12) := (ExSG.refusedX L X (by decide) (by kernel_rfl) (by kernel_rfl) (by kernel_rfl) (fun _ _ => rfl) (EvF.toV (EvF.cat (EvF.toV (EvF.cat (EvF.toV (EvF.list (EvL.cons (fun _ _ => rfl) EvV.int EvL.nil))) (EvV.name (L.nmi 51)))) (EvV.name (L.nmi 53)))) (EvTG.cmp (EvVG.comp0 (n := 6) (L.u 4 (by decide) (by kernel_rfl) (by kernel_rfl)) X.gf X.sh.base (fun _ _ => rfl) (EvF.toV (EvF.cat (EvF.toV (EvF.list (EvL.cons (fun _ _ => rfl) EvV.int EvL.nil))) (EvV.name (L.nmi 51)))) (by kernel_rfl) (by decide +kernel) (by decide +kernel) (by decide +kernel)) (EvF.toV (EvF.list EvL.nil)) op_ne rfl))
noncomputable def s_law13 : St → Option (Fl × St) := (sAssign 54 (eIf (tOf truth (e2 oInT (eVar 52) (eTuple (lCons (eC (.int 1)) (lCons (eC (.int 2)) lNil))))) (fzF (eSlice (fzF (eCat (eVar 51) (fzF (eRep (fzF (eList (lCons (eIdx (eVar 51) (e1 oNeg (eC (.int 1)))) lNil))) (eC (.int 8)))))) pNone (pSome (eC (.int 8))) pNone)) (eVar 51)))
theorem d_law13 {G : Gd} (L : LawG G) : ExSG G (scopeAt 68) 10 (stL 13) (s_law13) := (ExS.toG (ExS.assign (L.nmi 54) (.inr (by kernel_rfl)) (EvV.ite (EvT.cmp (EvV.name (L.nmi 52)) (EvV.tuple (EvL.cons (fun _ _ => rfl) EvV.int (EvL.cons (fun _ _ => rfl) EvV.int EvL.nil))) op_inT rfl) (EvF.toV (EvF.slice (EvF.toV (EvF.cat (EvV.name (L.nmi 51)) (EvF.toV (EvF.rep (EvF.toV (EvF.list (EvL.cons (fun _ _ => rfl) (EvV.idx (EvV.name (L.nmi 51)) (EvV.neg EvV.int) (fun _ _ => rfl)) EvL.nil))) EvV.int)))) EvP.none (EvP.some EvV.int) EvP.none)) (EvV.name (L.nmi 51))) (fun _ _ => rfl)))
noncomputable def s_law14 : St → Option (Fl × St) := (sIfF (tOf truth (e2 oNe (eCompZ (fzF (eCat (eVar 51) (eVar 53)))) (eVar 54))))
theorem d_law14 {G : Gd} (L : LawG G) (X : LawX L) : ExSG G (scopeAt 68) 10 (stL 14) (s_law14) := (ExSG.ifF (EvTG.cmp (EvVG.compZ (n := 5) (L.bn (v := .type "zip") (by simp) (by kernel_rfl)) (L.bn (v := .type "range") (by simp) (by kernel_rfl)) (L.u 4 (by decide) (by kernel_rfl) (by kernel_rfl)) X.gf X.sh.base (fun _ _ => rfl) (EvF.toV (EvF.cat (EvV.name (L.nmi 51)) (EvV.name (L.nmi 53)))) (by kernel_rfl) (by decide +kernel) (by decide +kernel) (by decide +kernel) (by kernel_rfl) (by kernel_rfl) (by kernel_rfl)) (EvV.name (L.nmi 54)) op_ne rfl))
noncomputable def s_law15 : St → Option (Fl × St) := (sAssign 22 (fzF (eComp 25 [54, 23] (iRange (lCons (eN oLen (lCons (eVar 54) lNil)) lNil)) (tOf truth (e2 oLt (eN oSum (lCons (fzF (eSlice (eVar 54) pNone (pSome (e2 oAdd (eVar 25) (eC (.int 1)))) pNone)) lNil)) (eVar 23))) (eN oSum (lCons (fzF (eSlice (eVar 54) pNone (pSome (e2 oAdd (eVar 25) (eC (.int 1)))) pNone)) lNil)))))
theorem d_law15 {G : Gd} (L : LawG G) : ExSG G (scopeAt 68) 10 (stL 15) (s_law15) := (ExS.toG (ExS.assign (L.nmi 22) (.inr (by kernel_rfl)) (EvF.toV (EvF.comp ⟨L.nmi 25, (by kernel_rfl), (by decide +kernel), (by decide +kernel), (by kernel_rfl), (by decide +kernel), (by intro i hi; rw [L.nm]; revert i; decide +kernel)⟩ (EvI.range (L.bn (v := .type "range") (by simp) (by kernel_rfl)) (ns_cons (fun _ _ => rfl) ns_nil) (EvL.cons (fun _ _ => rfl) (EvV.bcall (L.bn (v := .builtin "len") (by simp) (by kernel_rfl)) (ns_cons (fun _ _ => rfl) ns_nil) (EvL.cons (fun _ _ => rfl) (EvV.name (L.nmi 54)) EvL.nil) op_len) EvL.nil)) (EvIfs.one (EvT.cmp (EvV.bcall (L.bn (v := .builtin "sum") (by simp) (by kernel_rfl)) (ns_cons (fun _ _ => rfl) ns_nil) (EvL.cons (fun _ _ => rfl) (EvF.toV (EvF.slice (EvV.name (L.nmi 54)) EvP.none (EvP.some (EvV.binop (EvV.name (L.nmi 25)) EvV.int op_add)) EvP.none)) EvL.nil) op_sum) (EvV.name (L.nmi 23)) op_lt rfl)) (EvV.bcall (L.bn (v := .builtin "sum") (by simp) (by kernel_rfl)) (ns_cons (fun _ _ => rfl) ns_nil) (EvL.cons (fun _ _ => rfl) (EvF.toV (EvF.slice (EvV.name (L.nmi 54)) EvP.none (EvP.some (EvV.binop (EvV.name (L.nmi 25)) EvV.int op_add)) EvP.none)) EvL.nil) op_sum) (fun _ _ => rfl))) (fun _ h => swaps_false h (by kernel_rfl))))
noncomputable def s_law16 : St → Option (Fl × St) := (sAssign 55 (eIdxT (eTuple (lCons (eC (.str ("<>" : Str))) (lCons (eC (.str ("*/" : Str))) (lCons (eC (.str ("/<" : Str))) (lCons (eC (.str (">*" : Str))) lNil))))) (e2 oMod (eCall (f_figure) (lCons (eIdx (eVar 44) (eC (.int 0))) (lCons (eC (.int 6)) lNil))) (eC (.int 4)))))
theorem d_law16 {G : Gd} (L : LawG G) : ExSG G (scopeAt 68) 10 (stL 16) (s_law16) := (ExS.toG (ExS.assign (L.nmi 55) (.inr (by kernel_rfl)) (EvV.idxT (EvV.tuple (EvL.cons (fun _ _ => rfl) EvV.str (EvL.cons (fun _ _ => rfl) EvV.str (EvL.cons (fun _ _ => rfl) EvV.str (EvL.cons (fun _ _ => rfl) EvV.str EvL.nil))))) (EvV.binop (EvV.ucall (L.u 59 (by decide) (by kernel_rfl) (by kernel_rfl)) (ns_cons (fun _ _ => rfl) (ns_cons (fun _ _ => rfl) ns_nil)) (EvL.cons (fun _ _ => rfl) (EvV.idx (EvV.name (L.nmi 44)) EvV.int (fun _ _ => rfl)) (EvL.cons (fun _ _ => rfl) EvV.int EvL.nil)) (c_figure L (by decide))) EvV.int op_mod) (fun _ _ => rfl)) (fun _ _ => rfl)))
noncomputable def s_law17 : St → Option (Fl × St) := (sAssign 16 (eJoin ("" : Str) (fzF (eComp 12 [22, 55] (iRange (lCons (eC (.int 1)) (lCons (eVar 23) lNil))) tTrue (eIf (tOf truth (e2 oIn (eVar 12) (eVar 22))) (eIdxS (eVar 55) (eC (.int 1))) (eIdxS (eVar 55) (eC (.int 0))))))))
theorem d_law17 {G : Gd} (L : LawG G) : ExSG G (scopeAt 68) 10 (stL 17) (s_law17) := (ExS.toG (ExS.assign (L.nmi 16) (.inl (by kernel_rfl)) (EvV.join (fun _ _ => rfl) rfl (EvF.toV (EvF.comp ⟨L.nmi 12, (by kernel_rfl), (by decide +kernel), (by decide +kernel), (by kernel_rfl), (by decide +kernel), (by intro i hi; rw [L.nm]; revert i; decide +kernel)⟩ (EvI.range (L.bn (v := .type "range") (by simp) (by kernel_rfl)) (ns_cons (fun _ _ => rfl) (ns_cons (fun _ _ => rfl) ns_nil)) (EvL.cons (fun _ _ => rfl) EvV.int (EvL.cons (fun _ _ => rfl) (EvV.name (L.nmi 23)) EvL.nil))) EvIfs.nil (EvV.ite (EvT.cmp (EvV.name (L.nmi 12)) (EvV.name (L.nmi 22)) op_in rfl) (EvV.idxS (EvV.name (L.nmi 55)) EvV.int (fun _ _ => rfl)) (EvV.idxS (EvV.name (L.nmi 55)) EvV.int (fun _ _ => rfl))) (fun _ _ => rfl)))) (fun _ _ => rfl)))
noncomputable def s_law18 {G : Gd} (L : LawG G) : St → Option (Fl × St) := (sAssign 30 (eCall (f_falls L) (lCons (eVar 16) (lCons (eIdxS (eVar 55) (eC (.int 1))) lNil))))
theorem d_law18 {G : Gd} (L : LawG G) : ExSG G (scopeAt 68) 10 (stL 18) (s_law18 L) := (ExS.toG (ExS.assign (L.nmi 30) (.inl (by kernel_rfl)) (EvV.ucall (L.u 62 (by decide) (by kernel_rfl) (by kernel_rfl)) (ns_cons (fun _ _ => rfl) (ns_cons (fun _ _ => rfl) ns_nil)) (EvL.cons (fun _ _ => rfl) (EvV.name (L.nmi 16)) (EvL.cons (fun _ _ => rfl) (EvV.idxS (EvV.name (L.nmi 55)) EvV.int (fun _ _ => rfl)) EvL.nil)) (c_falls L (by decide))) (fun _ _ => rfl)))
noncomputable def s_law19 : St → Option (Fl × St) := (sAssign 31 (eCall (f_ways) (lCons (eVar 30) (lCons (eVar 23) lNil))))
theorem d_law19 {G : Gd} (L : LawG G) : ExSG G (scopeAt 68) 10 (stL 19) (s_law19) := (ExS.toG (ExS.assign (L.nmi 31) (.inl (by kernel_rfl)) (EvV.ucall (L.u 64 (by decide) (by kernel_rfl) (by kernel_rfl)) (ns_cons (fun _ _ => rfl) (ns_cons (fun _ _ => rfl) ns_nil)) (EvL.cons (fun _ _ => rfl) (EvV.name (L.nmi 30)) (EvL.cons (fun _ _ => rfl) (EvV.name (L.nmi 23)) EvL.nil)) (c_ways L (by decide))) (fun _ _ => rfl)))
noncomputable def s_law20 : St → Option (Fl × St) := (sAssign 26 (eCall (f_choices) (lCons (eVar 22) (lCons (eVar 23) lNil))))
theorem d_law20 {G : Gd} (L : LawG G) : ExSG G (scopeAt 68) 10 (stL 20) (s_law20) := (ExS.toG (ExS.assign (L.nmi 26) (.inl (by kernel_rfl)) (EvV.ucall (L.u 63 (by decide) (by kernel_rfl) (by kernel_rfl)) (ns_cons (fun _ _ => rfl) (ns_cons (fun _ _ => rfl) ns_nil)) (EvL.cons (fun _ _ => rfl) (EvV.name (L.nmi 22)) (EvL.cons (fun _ _ => rfl) (EvV.name (L.nmi 23)) EvL.nil)) (c_choices L (by decide))) (fun _ _ => rfl)))
noncomputable def s_law21 : St → Option (Fl × St) := (sIf (tOr (tOf truth (e2 oNe (eVar 30) (eVar 22))) (tOf truth (e2 oNe (eCall (f_ranks) (lCons (eVar 26) (lCons (eVar 30) (lCons (eVar 31) lNil)))) (fzF (eList lNil))))) (sSeq (sRetV (eC (.bool false))) sNil) sNil)
theorem d_law21 {G : Gd} (L : LawG G) : ExSG G (scopeAt 68) 10 (stL 21) (s_law21) := (ExS.toG (ExS.if (EvT.or (EvT.cmp (EvV.name (L.nmi 30)) (EvV.name (L.nmi 22)) op_ne rfl) (EvT.cmp (EvV.ucall (L.u 65 (by decide) (by kernel_rfl) (by kernel_rfl)) (ns_cons (fun _ _ => rfl) (ns_cons (fun _ _ => rfl) (ns_cons (fun _ _ => rfl) ns_nil))) (EvL.cons (fun _ _ => rfl) (EvV.name (L.nmi 26)) (EvL.cons (fun _ _ => rfl) (EvV.name (L.nmi 30)) (EvL.cons (fun _ _ => rfl) (EvV.name (L.nmi 31)) EvL.nil))) (c_ranks L (by decide))) (EvF.toV (EvF.list EvL.nil)) op_ne rfl)) (ExL.cons (ExS.ret EvV.bool) ExL.nil) ExL.nil))
noncomputable def s_law22 : St → Option (Fl × St) := (sFor 11 (iTup (eTuple (lCons (e2 oMod (eIdx (eVar 44) (eC (.int 2))) (eVar 26)) (lCons (e2 oMod (e2 oSub (e1 oNeg (eC (.int 1))) (eIdx (eVar 44) (eC (.int 2)))) (eVar 26)) lNil)))) (sSeq (sAssign 35 (eCall (f_ranks) (lCons (eVar 11) (lCons (eVar 30) (lCons (eVar 31) lNil))))) (sSeq (sIf (tNot (tOf truth (eVar 35))) (sSeq (sRetV (eC (.bool false))) sNil) sNil) (sSeq (sAssign 41 (eCall (f_order) (lCons (eVar 35) (lCons (eVar 39) lNil)))) (sSeq (sAssignC 56 (eComp 25 [41] (iRange (lCons (eC (.int 1)) (lCons (eVar 23) lNil))) tTrue (eCall (f_coll) (lCons (eIdx (eIdx (eVar 41) (e2 oSub (eVar 25) (eC (.int 1)))) (eC (.int 1))) (lCons (eIdx (eIdx (eVar 41) (eVar 25)) (eC (.int 1))) lNil))))) (sSeq (sIf (tOf truth (e2 oNe (fzF (eComp 60 [] (iLst (eVar 56)) (tOf truth (eIsB (eVar 60))) (eVar 60))) (fzF (eList lNil)))) (sSeq (sRetV (eC (.bool false))) sNil) sNil) (sSeq (sIf (tOf truth (e2 oNe (eVar 56) (fzF (eComp 59 [55] (iStr (eVar 16)) tTrue (eIf (tOf truth (e2 oEq (eVar 59) (eIdxS (eVar 55) (eC (.int 1))))) (eC (.int 1)) (e1 oNeg (eC (.int 1)))))))) (sSeq (sRetV (eC (.bool false))) sNil) sNil) (sSeq (sIf (tOf truth (e2 oNe (eCall (f_back) (lCons (eVar 41) (lCons (eVar 30) (lCons (eVar 31) lNil)))) (eVar 11))) (sSeq (sRetV (eC (.bool false))) sNil) sNil) sNil))))))))
theorem d_law22 {G : Gd} (L : LawG G) : ExSG G (scopeAt 68) 10 (stL 22) (s_law22) := (ExS.toG (ExS.for (L.nmi 11) (.inl (by kernel_rfl)) (EvI.tuple (EvV.tuple (EvL.cons (fun _ _ => rfl) (EvV.binop (EvV.idx (EvV.name (L.nmi 44)) EvV.int (fun _ _ => rfl)) (EvV.name (L.nmi 26)) op_mod) (EvL.cons (fun _ _ => rfl) (EvV.binop (EvV.binop (EvV.neg EvV.int) (EvV.idx (EvV.name (L.nmi 44)) EvV.int (fun _ _ => rfl)) op_sub) (EvV.name (L.nmi 26)) op_mod) EvL.nil)))) (ExL.cons (ExS.assign (L.nmi 35) (.inl (by kernel_rfl)) (EvV.ucall (L.u 65 (by decide) (by kernel_rfl) (by kernel_rfl)) (ns_cons (fun _ _ => rfl) (ns_cons (fun _ _ => rfl) (ns_cons (fun _ _ => rfl) ns_nil))) (EvL.cons (fun _ _ => rfl) (EvV.name (L.nmi 11)) (EvL.cons (fun _ _ => rfl) (EvV.name (L.nmi 30)) (EvL.cons (fun _ _ => rfl) (EvV.name (L.nmi 31)) EvL.nil))) (c_ranks L (by decide))) (fun _ _ => rfl)) (ExL.cons (ExS.if (EvT.not (EvT.of (EvV.name (L.nmi 35)) (fun _ _ => rfl))) (ExL.cons (ExS.ret EvV.bool) ExL.nil) ExL.nil) (ExL.cons (ExS.assign (L.nmi 41) (.inr (by kernel_rfl)) (EvV.ucall (L.u 66 (by decide) (by kernel_rfl) (by kernel_rfl)) (ns_cons (fun _ _ => rfl) (ns_cons (fun _ _ => rfl) ns_nil)) (EvL.cons (fun _ _ => rfl) (EvV.name (L.nmi 35)) (EvL.cons (fun _ _ => rfl) (EvV.name (L.nmi 39)) EvL.nil)) (c_order L (by decide))) (fun _ _ => rfl)) (ExL.cons (ExS.assignC (L.nmi 56) (.inl (by kernel_rfl)) ⟨L.nmi 25, (by kernel_rfl), (by decide +kernel), (by decide +kernel), (by kernel_rfl), (by decide +kernel), (by intro i hi; rw [L.nm]; revert i; decide +kernel)⟩ (EvI.range (L.bn (v := .type "range") (by simp) (by kernel_rfl)) (ns_cons (fun _ _ => rfl) (ns_cons (fun _ _ => rfl) ns_nil)) (EvL.cons (fun _ _ => rfl) EvV.int (EvL.cons (fun _ _ => rfl) (EvV.name (L.nmi 23)) EvL.nil))) EvIfs.nil (EvV.ucall (L.u 1 (by decide) (by kernel_rfl) (by kernel_rfl)) (ns_cons (fun _ _ => rfl) (ns_cons (fun _ _ => rfl) ns_nil)) (EvL.cons (fun _ _ => rfl) (EvV.idx (EvV.idx (EvV.name (L.nmi 41)) (EvV.binop (EvV.name (L.nmi 25)) EvV.int op_sub) (fun _ _ => rfl)) EvV.int (fun _ _ => rfl)) (EvL.cons (fun _ _ => rfl) (EvV.idx (EvV.idx (EvV.name (L.nmi 41)) (EvV.name (L.nmi 25)) (fun _ _ => rfl)) EvV.int (fun _ _ => rfl)) EvL.nil)) (c_coll L (by decide))) (fun _ _ => rfl) (fun _ h => swaps_true h (by kernel_rfl) (by kernel_rfl) (by kernel_rfl) (by kernel_rfl))) (ExL.cons (ExS.if (EvT.cmp (EvF.toV (EvF.comp ⟨L.nmi 60, (by kernel_rfl), (by decide +kernel), (by decide +kernel), (by kernel_rfl), (by decide +kernel), (by intro i hi; rw [L.nm]; revert i; decide +kernel)⟩ (EvI.list (EvV.name (L.nmi 56))) (EvIfs.one (EvT.of (EvV.isB (L.bn (v := .builtin "isinstance") (by simp) (by kernel_rfl)) (L.bn (v := .type "bool") (by simp) (by kernel_rfl)) (fun _ _ => rfl) (fun _ _ => rfl) (EvV.name (L.nmi 60))) (fun _ _ => rfl))) (EvV.name (L.nmi 60)) (fun _ _ => rfl))) (EvF.toV (EvF.list EvL.nil)) op_ne rfl) (ExL.cons (ExS.ret EvV.bool) ExL.nil) ExL.nil) (ExL.cons (ExS.if (EvT.cmp (EvV.name (L.nmi 56)) (EvF.toV (EvF.comp ⟨L.nmi 59, (by kernel_rfl), (by decide +kernel), (by decide +kernel), (by kernel_rfl), (by decide +kernel), (by intro i hi; rw [L.nm]; revert i; decide +kernel)⟩ (EvI.str (EvV.name (L.nmi 16))) EvIfs.nil (EvV.ite (EvT.cmp (EvV.name (L.nmi 59)) (EvV.idxS (EvV.name (L.nmi 55)) EvV.int (fun _ _ => rfl)) op_eq rfl) EvV.int (EvV.neg EvV.int)) (fun _ _ => rfl))) op_ne rfl) (ExL.cons (ExS.ret EvV.bool) ExL.nil) ExL.nil) (ExL.cons (ExS.if (EvT.cmp (EvV.ucall (L.u 67 (by decide) (by kernel_rfl) (by kernel_rfl)) (ns_cons (fun _ _ => rfl) (ns_cons (fun _ _ => rfl) (ns_cons (fun _ _ => rfl) ns_nil))) (EvL.cons (fun _ _ => rfl) (EvV.name (L.nmi 41)) (EvL.cons (fun _ _ => rfl) (EvV.name (L.nmi 30)) (EvL.cons (fun _ _ => rfl) (EvV.name (L.nmi 31)) EvL.nil))) (c_back L (by decide))) (EvV.name (L.nmi 11)) op_ne rfl) (ExL.cons (ExS.ret EvV.bool) ExL.nil) ExL.nil) ExL.nil))))))) (fun _ _ => rfl)))
noncomputable def s_law23 : St → Option (Fl × St) := (sRetV (eC (.bool true)))
theorem d_law23 {G : Gd} (L : LawG G) : ExSG G (scopeAt 68) 10 (stL 23) (s_law23) := (ExS.toG (ExS.ret EvV.bool))
noncomputable def g_law {G : Gd} (L : LawG G) : St → Option (Fl × St) := (sSeq (s_law0) (sSeq (s_law1) (sSeq (s_law2) (sSeq (s_law3) (sSeq (s_law4) (sSeq (s_law5) (sSeq (s_law6) (sSeq (s_law7) (sSeq (s_law8) (sSeq (s_law9) (sSeq (s_law10) (sSeq (s_law11) (sSeq (s_law12) (sSeq (s_law13) (sSeq (s_law14) (sSeq (s_law15) (sSeq (s_law16) (sSeq (s_law17) (sSeq (s_law18 L) (sSeq (s_law19) (sSeq (s_law20) (sSeq (s_law21) (sSeq (s_law22) (sSeq (s_law23) sNil))))))))))))))))))))))))
theorem body_law : bodyAt 68 = [stL 0, stL 1, stL 2, stL 3, stL 4, stL 5, stL 6, stL 7, stL 8, stL 9, stL 10, stL 11, stL 12, stL 13, stL 14, stL 15, stL 16, stL 17, stL 18, stL 19, stL 20, stL 21, stL 22, stL 23] := by kernel_rfl
theorem d_law {G : Gd} (L : LawG G) (X : LawX L) : ExLG G (scopeAt 68) 10 (bodyAt 68) (g_law L) := by
  rw [body_law]
  exact (@ExLG.cons _ _ _ _ _ _ _ (@d_law0 _ L) (@ExLG.cons _ _ _ _ _ _ _ (@d_law1 _ L) (@ExLG.cons _ _ _ _ _ _ _ (@d_law2 _ L) (@ExLG.cons _ _ _ _ _ _ _ (@d_law3 _ L) (@ExLG.cons _ _ _ _ _ _ _ (@d_law4 _ L) (@ExLG.cons _ _ _ _ _ _ _ (@d_law5 _ L) (@ExLG.cons _ _ _ _ _ _ _ (@d_law6 _ L) (@ExLG.cons _ _ _ _ _ _ _ (@d_law7 _ L) (@ExLG.cons _ _ _ _ _ _ _ (@d_law8 _ L) (@ExLG.cons _ _ _ _ _ _ _ (@d_law9 _ L) (@ExLG.cons _ _ _ _ _ _ _ (@d_law10 _ L) (@ExLG.cons _ _ _ _ _ _ _ (@d_law11 _ L) (@ExLG.cons _ _ _ _ _ _ _ (@d_law12 _ L X) (@ExLG.cons _ _ _ _ _ _ _ (@d_law13 _ L) (@ExLG.cons _ _ _ _ _ _ _ (@d_law14 _ L X) (@ExLG.cons _ _ _ _ _ _ _ (@d_law15 _ L) (@ExLG.cons _ _ _ _ _ _ _ (@d_law16 _ L) (@ExLG.cons _ _ _ _ _ _ _ (@d_law17 _ L) (@ExLG.cons _ _ _ _ _ _ _ (@d_law18 _ L) (@ExLG.cons _ _ _ _ _ _ _ (@d_law19 _ L) (@ExLG.cons _ _ _ _ _ _ _ (@d_law20 _ L) (@ExLG.cons _ _ _ _ _ _ _ (@d_law21 _ L) (@ExLG.cons _ _ _ _ _ _ _ (@d_law22 _ L) (@ExLG.cons _ _ _ _ _ _ _ (@d_law23 _ L) (ExL.toG ExL.nil)))))))))))))))))))))))))


end Mine
end

section
open PySem PySem.W PyProof.Rows PySem.Calls
open Sem (wp)
namespace Mine
section
variable {G : Gd} {A : Around} {s : Shared} {E : Value → Shared → Prop}
theorem law_call (L : LawG G) (LX : LawX L) {a : Addr} {fd : FuncData} (f : FnAt G a fd (bodyAt 68)) (hsc : fd.scope = scopeAt 68) (hb : ∀ (s : Shared) (v : Value), G.P s.heap → BindsTo s fd ⟨[v], []⟩ [(nmT 43, v)]) {ax : Addr} {items : Array Value} {xs : List PyData} {st' : St} {Q : Value → Shared → Prop}
    (bud : Bud 11 A) (hfr : A.frames = some []) (hp : G.P s.heap) (hbare : AllBare s.gens) (hl : s.heap.IsList ax items) (hI : RdA s.heap items.toList xs) (hg : g_law L [(43, .arg xs)] = some (.ret (.bool true), st'))
    (hQ : ∀ h' tk gs, Ext s.heap h' → AllBare gs → Q (.bool true) { s with heap := h', toks := tk, gens := gs }) : wpAny (model G.prog G.w) A (call (.ref a) [.ref ax]) Q E s := by
  have k43 : fd.scope.names.lookup (nmT 43) = some .local := by rw [hsc]; kernel_rfl
  refine call_framed f bud hp (hb s (.ref ax) hp) (List.pairwise_singleton _ _) (fun y hy => by rw [List.mem_singleton.mp hy]; exact .inl k43) fun env h₁ tk F => ?_
  have hH := F.hide []
  have R : Rep G (scopeAt 68) 10 (A.deeper env) [] s.heap env (fun _ => 0) (env.locals :: env.cells.map (·.2)) [(43, .arg xs)] h₁ := by
    rw [← hsc]
    have no : ∀ {y zs}, ¬ St.get [(43, .arg xs)] y = some (.own zs) := fun e => get_all (P := fun _ lv => ∀ zs, lv ≠ .own zs) (all_cons (fun _ q => LV.noConfusion q) all_nil) e _ rfl
    exact F.rep (H := []) (bud.deeper env) hp (Ext.refl _) (fun _ m => nomatch m) (fun _ m => nomatch m) (fun _ m => nomatch m) (fun _ _ e => (no e).elim) (fun _ _ _ _ e => (no e).elim) fun y lv e =>
      get_all (P := fun y lv => ∃ v, (G.nm y, v) ∈ [(nmT 43, Value.ref ax)] ∧ RO G ([] ++ (env.locals :: env.cells.map (·.2))) h₁ v lv ∧ ∀ zs, lv = .own zs → v = .ref 0)
        (all_cons (a := (43, LV.arg xs)) ⟨.ref ax, by rw [L.nm]; exact .head _, ⟨ax, items, rfl, hl.at fun o e => hH _ _ e, hI.ext hH⟩, fun _ q => LV.noConfusion q⟩ all_nil) e
  refine d_law L LX (A.deeper env) s.heap env _ _ _ { s with heap := h₁, toks := tk } _ st' _ _ R hbare (Around.frames_deeper hfr) F.fr hg fun α' H' h' tk' gs fw R' hb' hfl => ?_
  obtain ⟨v, rfl, rd⟩ := hfl
  cases rd
  exact hQ h' tk' gs R'.keep hb'
end
end Mine
end

section
open PySem PySem.W PyProof.Rows PySem.Calls
open Sem (wp)
namespace Mine
noncomputable def fdOf (K : Frag) (a : Addr) : FuncData := match K.lookup a with
  | some o => (match o.data with | .func fd => fd | _ => ⟨default, default, default, .stmts [], default, 0, [], .none, .none, .none, .none, none, .none, .none, 0⟩)
  | none => ⟨default, default, default, .stmts [], default, 0, [], .none, .none, .none, .none, none, .none, .none, 0⟩
noncomputable def adrOf (K : Frag) (i : Nat) : Addr := match nsIn K mainGlobals (nameAt i) with
  | some (some (.ref a)) => a
  | _ => 0
structure FnK (K : Frag) (i : Nat) : Prop where
  ns : nsIn K mainGlobals (nameAt i) = some (some (.ref (adrOf K i)))
  is : (K.lookup (adrOf K i)).map (·.data) = some (.func (fdOf K (adrOf K i)))
  cd : codeIn K (fdOf K (adrOf K i)).code (fdOf K (adrOf K i)).qualname = true
  body : (fdOf K (adrOf K i)).body = .stmts (bodyAt i)
  scope : (fdOf K (adrOf K i)).scope = scopeAt i
  clos : (fdOf K (adrOf K i)).closure = []
  gl : (fdOf K (adrOf K i)).globals = mainGlobals
  bl : (fdOf K (adrOf K i)).builtins = builtinsNs
noncomputable def fnsL : List Nat := [1, 2, 4, 6, 7, 8, 59, 60, 61, 62, 63, 64, 65, 66, 67, 68]
noncomputable def biL : List (Str × Value) := [("len", .builtin "len"), ("sum", .builtin "sum"), ("min", .builtin "min"), ("sorted", .builtin "sorted"), ("isinstance", .builtin "isinstance"), ("bool", .type "bool"), ("list", .type "list"), ("range", .type "range"), ("zip", .type "zip"), ("ValueError", .type "ValueError")]
noncomputable def bnd (K : Frag) (S : Setting) (i : Nat) (vs : List Value) (kw : List (Str × Value)) : Option (List (Str × Value)) := peek K S (bindArgs (fdOf K (adrOf K i)) ⟨vs, kw⟩)
noncomputable def tokOf : DictEntry → Option (Str × Int × Tok × Tok)
  | ⟨_, .str x t, .int i u⟩ => some (x, i, t, u)
  | _ => none
noncomputable def tdA (K : Frag) : Addr := match nsIn K mainGlobals "EXACT_TOKEN_TYPES" with
  | some (some (.ref a)) => a
  | _ => 0
noncomputable def tdEs (K : Frag) : Array DictEntry := match K.lookup (tdA K) with
  | some o => (match o.data with | .dict es _ => es | _ => #[])
  | none => #[]
noncomputable def tabL (K : Frag) : List (Str × Int × Tok × Tok) := (tdEs K).toList.filterMap tokOf
noncomputable def tabK (K : Frag) : List (Str × Int) := (tabL K).map fun x => (x.1, x.2.1)
noncomputable def tab8 : List (Str × Int) := [("*", 16), ("/", 17), ("<", 20), (">", 21), ("<<", 33), (">>", 34), ("**", 35), ("//", 47)]
noncomputable def wordsOf (a b : Nat) : List Str := [[a], [b], [a, a], [a, b], [b, a], [b, b], [a, a, a], [a, a, b], [a, b, a], [a, b, b], [b, a, a], [b, a, b], [b, b, a], [b, b, b]].map fun l => ⟨l.toArray⟩
noncomputable def words : List Str := wordsOf 60 62 ++ wordsOf 42 47 ++ wordsOf 47 60 ++ wordsOf 62 42
structure KFacts (K : Frag) (P : Params) : Prop where
  fns : ∀ i ∈ fnsL, FnK K i
  bi : ∀ x ∈ biL, nsIn K mainGlobals x.1 = some none
  b1 : ∀ p ∈ [(2, 2), (60, 13), (4, 3), (61, 14), (68, 43)], ∀ S v, bnd K S p.1 [v] [] = some [(nmT p.2, v)]
  b2 : ∀ p ∈ [(1, 0, 1), (59, 11, 12), (62, 16, 17), (63, 22, 23), (64, 30, 23), (66, 35, 39)], ∀ S v u, bnd K S p.1 [v, u] [] = some [(nmT p.2.1, v), (nmT p.2.2, u)]
  b3 : ∀ p ∈ [(65, 11, 30, 31), (67, 41, 30, 31)], ∀ S v u w, bnd K S p.1 [v, u, w] [] = some [(nmT p.2.1, v), (nmT p.2.2.1, u), (nmT p.2.2.2, w)]
  bb2 : ∀ i ∈ [7, 8], ∃ t, ∀ S v u, bnd K S i [v, u] [] = some [(nmT 0, v), (nmT 6, u), (nmT 7, .int 0 t), (nmT 8, .none), (nmT 9, .none)]
  bb3 : ∀ i ∈ [7, 8], ∀ S v u w, bnd K S i [v, u, w] [] = some [(nmT 0, v), (nmT 6, u), (nmT 7, w), (nmT 8, .none), (nmT 9, .none)]
  bb4 : ∀ i ∈ [7, 8], ∀ S v u w x, bnd K S i [v, u, w, x] [] = some [(nmT 0, v), (nmT 6, u), (nmT 7, w), (nmT 8, x), (nmT 9, .none)]
  bk2 : ∀ i ∈ [6, 7, 8], ∃ t, ∀ S v u k, bnd K S i [v, u] [("key", k)] = some [(nmT 0, v), (nmT 6, u), (nmT 7, .int 0 t), (nmT 8, .none), (nmT 9, k)]
  bk4 : ∀ i ∈ [7, 8], ∀ S v u w x k, bnd K S i [v, u, w, x] [("key", k)] = some [(nmT 0, v), (nmT 6, u), (nmT 7, w), (nmT 8, x), (nmT 9, k)]
  sys : (K.lookup sysModules).isSome = true
  cm : ∃ t, nsIn K mainGlobals "CHAR_MAX" = some (some (.int 127 t))
  td1 : nsIn K mainGlobals "EXACT_TOKEN_TYPES" = some (some (.ref (tdA K)))
  td2 : (tdA K == sysModules) = false
  td3 : ∃ n, K.lookup (tdA K) = some ⟨.type "dict", none, .dict (tdEs K) n, #[]⟩
  td4 : (tdEs K).toList = (tabL K).map (fun x => (⟨PyData.keyHash P x.1, .str x.1 x.2.2.1, .int x.2.1 x.2.2.2⟩ : DictEntry))
  td5 : decide (((tabL K).map fun x => x.1).Nodup) = true
  td6 : (words.all fun s => decide (lkS (tabK K) s = lkS tab8 s)) = true
theorem boot_bi : ∀ x ∈ biL, bootBuiltins x.1 = some x.2 ∧ (x.1 == ("__debug__" : Str)) = false ∧ x.1 ≠ "__name__" := by
  refine all_cons ⟨by kernel_rfl, by kernel_rfl, by decide +kernel⟩ ?_
  refine all_cons ⟨by kernel_rfl, by kernel_rfl, by decide +kernel⟩ ?_
  refine all_cons ⟨by kernel_rfl, by kernel_rfl, by decide +kernel⟩ ?_
  refine all_cons ⟨by kernel_rfl, by kernel_rfl, by decide +kernel⟩ ?_
  refine all_cons ⟨by kernel_rfl, by kernel_rfl, by decide +kernel⟩ ?_
  refine all_cons ⟨by kernel_rfl, by kernel_rfl, by decide +kernel⟩ ?_
  refine all_cons ⟨by kernel_rfl, by kernel_rfl, by decide +kernel⟩ ?_
  refine all_cons ⟨by kernel_rfl, by kernel_rfl, by decide +kernel⟩ ?_
  refine all_cons ⟨by kernel_rfl, by kernel_rfl, by decide +kernel⟩ ?_
  refine all_cons ⟨by kernel_rfl, by kernel_rfl, by decide +kernel⟩ ?_
  exact all_nil
theorem name_dbg : ∀ i ∈ fnsL, (nameAt i == ("__debug__" : Str)) = false := by decide +kernel
end Mine
end

section
open PySem PySem.W PyProof.Rows PySem.Calls
open Sem (wp)
namespace Mine
structure Gnd (K : Frag) (w : World) (s₁ : Shared) (mg mb : Str → Option Value) : Prop where
  kx : K.In s₁.heap
  g : s₁.heap.Ns mainGlobals mg
  b : s₁.heap.Ns builtinsNs mb
  nl : s₁.heap.NoLimit
  bu : ∀ x : Str, x ≠ "__name__" → mb x = bootBuiltins x
  f : KFacts K w.params
section
variable {K : Frag} {w : World} {s₁ : Shared} {mg mb : Str → Option Value}
noncomputable def gdOf (prog : Program) (T : Gnd K w s₁ mg mb) : Gd where
  prog := prog
  w := w
  nm := nmT
  inj := nmT_inj
  dbg := nmT_dbg
  cdc := nmT_cdc
  mg := mg
  mb := mb
  key := adrOf K 60
  P h := Ext s₁.heap h
  mono := fun x p => Ext.trans p x
  g := fun p => T.g.keeps p
  b := fun p => T.b.keeps p
  nl := fun p => T.nl.keeps p

theorem scopes_ok : ∀ i ∈ [1, 2, 6, 7, 8, 59, 60, 61, 62, 63, 64, 65, 66, 67, 68], (scopeAt i).kind = .function ∧ (scopeAt i).isCoroutine = false ∧ (scopeAt i).isGenerator = false ∧ ((cellsFrom 0 (scopeAt i).names []).map (·.1)).Nodup := by decide +kernel
theorem fnAt_of (prog : Program) (T : Gnd K w s₁ mg mb) {i : Nat} (hi : i ∈ [1, 2, 6, 7, 8, 59, 60, 61, 62, 63, 64, 65, 66, 67, 68]) : FnAt (gdOf prog T) (adrOf K i) (fdOf K (adrOf K i)) (bodyAt i) ∧ (fdOf K (adrOf K i)).scope = scopeAt i := by
  have hm : ∀ i ∈ [1, 2, 6, 7, 8, 59, 60, 61, 62, 63, 64, 65, 66, 67, 68], i ∈ fnsL := by decide
  have F := T.f.fns i (hm i hi)
  obtain ⟨s1, s2, s3, s4⟩ := scopes_ok i hi
  rw [← F.scope] at s1 s2 s3 s4
  refine ⟨⟨fun h p => ?_, F.body, F.clos, F.gl, F.bl, s1, s2, s3, s4⟩, F.scope⟩
  have kh : K.In h := T.kx.keeps p
  refine map_some (F.is) fun o ho hd => ?_
  exact ⟨o, kh _ _ ho, hd, codeRec_of kh F.cd⟩

theorem zip_get {G : Gd} {X : List Addr} {h : Heap} {x : Nat} {lv : LV} (hn : G.nm = nmT) {is : List Nat} : ∀ {lvs : List LV} {vs : List Value}, ROs G X h vs lvs → lvs.all plainLV = true → is.length = lvs.length → St.get (is.zip lvs) x = some lv →
    plainLV lv = true ∧ ∃ v, (G.nm x, v) ∈ (is.map nmT).zip vs ∧ RO G X h v lv := by
  induction is with
  | nil => intro lvs vs _ _ _ e; cases e
  | cons i is ih =>
    intro lvs vs r hp hl e
    cases lvs with
    | nil => cases hl
    | cons l lvs => cases vs with
      | nil => exact r.elim
      | cons v vs =>
        obtain ⟨hp1, hp2⟩ := Bool.and_eq_true_iff.mp hp
        by_cases q : x = i
        · subst q
          have e : cond (Nat.beq x x) (some l) (St.get (is.zip lvs) x) = some lv := e
          rw [Nat.beq_refl] at e
          cases e
          exact ⟨hp1, v, by rw [hn]; exact .head _, r.1⟩
        · have e : cond (Nat.beq x i) (some l) (St.get (is.zip lvs) x) = some lv := e
          rw [beq_dec, decide_eq_false q] at e
          obtain ⟨h1, u, h2, h3⟩ := ih r.2 hp2 (Nat.succ.inj hl) e
          exact ⟨h1, u, .tail _ h2, h3⟩
theorem nodup_map_nmT : ∀ {is : List Nat}, is.Nodup → (is.map nmT).Nodup
  | [], _ => List.nodup_nil
  | i :: is, h => by
    obtain ⟨h1, h2⟩ := List.nodup_cons.mp h
    refine List.nodup_cons.mpr ⟨fun m => ?_, nodup_map_nmT h2⟩
    obtain ⟨j, hj, e⟩ := List.mem_map.mp m
    exact h1 (nmT_inj _ _ e ▸ hj)
theorem zip_fst {α β : Type} : ∀ {l : List α} {m : List β}, l.length = m.length → (l.zip m).map (·.1) = l
  | [], _, _ => rfl
  | a :: l, [], e => by simp at e
  | a :: l, b :: m, e => by simp only [List.zip_cons_cons, List.map_cons]; rw [zip_fst (by simpa using e)]
theorem bindCore {G : Gd} {X : List Addr} {s : Shared} {fd : FuncData} {is : List Nat} {lvs : List LV} {vs vs0 : List Value} {kw : List (Str × Value)} (hn : G.nm = nmT) (hnd : is.Nodup) (hvar : ∀ j ∈ is, isVar fd.scope (nmT j)) (r : ROs G X s.heap vs lvs) (hp : lvs.all plainLV = true) (hl : is.length = lvs.length)
    (hb : BindsTo s fd ⟨vs0, kw⟩ ((is.map nmT).zip vs)) :
    ∃ binds : List (Str × Value), BindsTo s fd ⟨vs0, kw⟩ binds ∧ (binds.map (·.1)).Nodup ∧ (∀ y ∈ binds, isVar fd.scope y.1) ∧ ∀ x lv, St.get (is.zip lvs) x = some lv → plainLV lv = true ∧ ∃ v, (G.nm x, v) ∈ binds ∧ RO G X s.heap v lv := by
  have hlv : (is.map nmT).length = vs.length := by rw [List.length_map, hl, r.length]
  refine ⟨_, hb, ?_, fun y hy => ?_, fun x lv e => zip_get hn r hp hl e⟩
  · rw [zip_fst hlv]; exact nodup_map_nmT hnd
  · have : y.1 ∈ ((is.map nmT).zip vs).map (·.1) := List.mem_map_of_mem hy
    rw [zip_fst hlv] at this
    obtain ⟨j, hj, e⟩ := List.mem_map.mp this
    exact e ▸ hvar j hj
theorem vars_ok : ∀ p ∈ binders, p.2.Nodup ∧ ∀ j ∈ p.2, ((scopeAt p.1).names.lookup (nmT j) = some .local ∨ (scopeAt p.1).names.lookup (nmT j) = some .cell) := by decide +kernel
theorem vars_b : ∀ i ∈ [6, 7, 8], ∀ j ∈ [0, 6, 7, 8, 9], ((scopeAt i).names.lookup (nmT j) = some .local ∨ (scopeAt i).names.lookup (nmT j) = some .cell) := by decide +kernel
theorem bindsTo_of (prog : Program) (T : Gnd K w s₁ mg mb) {i : Nat} {vs : List Value} {kw binds : List (Str × Value)} (e : ∀ S, bnd K S i vs kw = some binds) {s : Shared} (p : (gdOf prog T).P s.heap) : BindsTo s (fdOf K (adrOf K i)) ⟨vs, kw⟩ binds :=
  kp_binds (T.kx.keeps p) e
end
end Mine
end

section
open PySem PySem.W PyProof.Rows PySem.Calls
open Sem (wp)
namespace Mine
section
variable {K : Frag} {w : World} {s₁ : Shared} {mg mb : Str → Option Value}
theorem ros2 {G : Gd} {X : List Addr} {h : Heap} {vs : List Value} {l m : LV} (r : ROs G X h vs [l, m]) : ∃ v u, vs = [v, u] := by
  obtain ⟨v, u, e, _⟩ := r.two
  exact ⟨v, u, e⟩
theorem ros3 {G : Gd} {X : List Addr} {h : Heap} {vs : List Value} {l m k : LV} (r : ROs G X h vs [l, m, k]) : ∃ v u w, vs = [v, u, w] := by
  cases vs with
  | nil => exact r.elim
  | cons v vs =>
    obtain ⟨u, w, rfl⟩ := ros2 r.2
    exact ⟨v, u, w, rfl⟩
theorem ros4 {G : Gd} {X : List Addr} {h : Heap} {vs : List Value} {l m k j : LV} (r : ROs G X h vs [l, m, k, j]) : ∃ v u w x, vs = [v, u, w, x] := by
  cases vs with
  | nil => exact r.elim
  | cons v vs =>
    obtain ⟨u, w, x, rfl⟩ := ros3 r.2
    exact ⟨v, u, w, x, rfl⟩
theorem len1 {l : List Value} (h : l.length = 1) : ∃ v, l = [v] := List.length_eq_one_iff.mp h
theorem len2 {l : List Value} (h : l.length = 2) : ∃ v u, l = [v, u] := by
  cases l with
  | nil => cases h
  | cons v l =>
    obtain ⟨u, rfl⟩ := len1 (Nat.succ.inj h)
    exact ⟨v, u, rfl⟩
theorem len3 {l : List Value} (h : l.length = 3) : ∃ v u w, l = [v, u, w] := by
  cases l with
  | nil => cases h
  | cons v l =>
    obtain ⟨u, w, rfl⟩ := len2 (Nat.succ.inj h)
    exact ⟨v, u, w, rfl⟩
theorem all_app {p : LV → Bool} {l m : List LV} (h : l.all p = true) (k : m.all p = true) : (l ++ m).all p = true := by rw [List.all_append, h, k]; rfl
theorem binders_split : ∀ p ∈ binders, p ∈ ([(2, 2), (60, 13), (4, 3), (61, 14), (68, 43)].map fun q : Nat × Nat => (q.1, [q.2])) ++
    (([(1, 0, 1), (59, 11, 12), (62, 16, 17), (63, 22, 23), (64, 30, 23), (66, 35, 39)].map fun q : Nat × Nat × Nat => (q.1, [q.2.1, q.2.2])) ++
      ([(65, 11, 30, 31), (67, 41, 30, 31)].map fun q : Nat × Nat × Nat × Nat => (q.1, [q.2.1, q.2.2.1, q.2.2.2]))) := by decide
theorem bindP_of (prog : Program) (T : Gnd K w s₁ mg mb) (i : Nat) (is : List Nat) (hm : (i, is) ∈ binders) : BindOk (gdOf prog T) (fdOf K (adrOf K i)) false (initP is) := by
  have hs : (fdOf K (adrOf K i)).scope = scopeAt i := (fnAt_of prog T (by
    have : ∀ p ∈ binders, p.1 ∈ [1, 2, 6, 7, 8, 59, 60, 61, 62, 63, 64, 65, 66, 67, 68] := by decide
    exact this _ hm)).2
  obtain ⟨hnd, hv⟩ := vars_ok _ hm
  intro s X vs lvs st hp r hpl hst
  obtain ⟨hl, hst⟩ := if_pos_some hst
  cases hst
  have hvar : ∀ j ∈ is, isVar (fdOf K (adrOf K i)).scope (nmT j) := fun j hj => by rw [hs]; exact hv j hj
  have hlv := r.length.trans hl
  refine bindCore rfl hnd hvar r hpl hl.symm ?_
  rcases List.mem_append.mp (binders_split _ hm) with m | m
  · obtain ⟨q, hq, e⟩ := List.mem_map.mp m
    cases e
    obtain ⟨v, rfl⟩ := len1 hlv
    exact bindsTo_of prog T (fun S => T.f.b1 q hq S v) hp
  · rcases List.mem_append.mp m with m | m
    · obtain ⟨q, hq, e⟩ := List.mem_map.mp m
      cases e
      obtain ⟨v, u, rfl⟩ := len2 hlv
      exact bindsTo_of prog T (fun S => T.f.b2 q hq S v u) hp
    · obtain ⟨q, hq, e⟩ := List.mem_map.mp m
      cases e
      obtain ⟨v, u, w, rfl⟩ := len3 hlv
      exact bindsTo_of prog T (fun S => T.f.b3 q hq S v u w) hp
theorem bindB_of (prog : Program) (T : Gnd K w s₁ mg mb) (i : Nat) (hi : i ∈ [7, 8]) : BindOk (gdOf prog T) (fdOf K (adrOf K i)) false initB ∧ BindOk (gdOf prog T) (fdOf K (adrOf K i)) true initBK := by
  have hi1 : ∀ i ∈ [7, 8], i ∈ [1, 2, 6, 7, 8, 59, 60, 61, 62, 63, 64, 65, 66, 67, 68] := by decide
  have hi2 : ∀ i ∈ [7, 8], i ∈ [6, 7, 8] := by decide
  have hs : (fdOf K (adrOf K i)).scope = scopeAt i := (fnAt_of prog T (hi1 i hi)).2
  have hvar : ∀ j ∈ [0, 6, 7, 8, 9], isVar (fdOf K (adrOf K i)).scope (nmT j) := fun j hj => by rw [hs]; exact vars_b i (hi2 i hi) j hj
  have hnd : ([0, 6, 7, 8, 9] : List Nat).Nodup := by decide
  constructor
  · intro s X vs lvs st hp r hpl hst
    cases lvs with
    | nil => cases hst
    | cons a l1 => cases l1 with
      | nil => cases hst
      | cons x l2 => cases l2 with
        | nil =>
          cases hst
          obtain ⟨v, u, rfl⟩ := ros2 r
          obtain ⟨t, ht⟩ := T.f.bb2 i hi
          exact bindCore (is := [0, 6, 7, 8, 9]) (lvs := [a, x, .d (.int 0), .d .none, .d .none]) (vs := [v, u, .int 0 t, .none, .none]) rfl hnd hvar ⟨r.1, r.2.1, Rd.int _ _, Rd.none, Rd.none, trivial⟩ (all_app hpl (by rfl)) rfl (bindsTo_of prog T (fun S => ht S v u) hp)
        | cons lo l3 => cases l3 with
          | nil =>
            cases hst
            obtain ⟨v, u, z, rfl⟩ := ros3 r
            exact bindCore (is := [0, 6, 7, 8, 9]) (lvs := [a, x, lo, .d .none, .d .none]) (vs := [v, u, z, .none, .none]) rfl hnd hvar ⟨r.1, r.2.1, r.2.2.1, Rd.none, Rd.none, trivial⟩ (all_app hpl (by rfl)) rfl (bindsTo_of prog T (fun S => T.f.bb3 i hi S v u z) hp)
          | cons hh l4 => cases l4 with
            | nil =>
              cases hst
              obtain ⟨v, u, z, y, rfl⟩ := ros4 r
              exact bindCore (is := [0, 6, 7, 8, 9]) (lvs := [a, x, lo, hh, .d .none]) (vs := [v, u, z, y, .none]) rfl hnd hvar ⟨r.1, r.2.1, r.2.2.1, r.2.2.2.1, Rd.none, trivial⟩ (all_app hpl (by rfl)) rfl (bindsTo_of prog T (fun S => T.f.bb4 i hi S v u z y) hp)
            | cons => cases hst
  · intro s X vs lvs st hp r hpl hst
    cases lvs with
    | nil => cases hst
    | cons a l1 => cases l1 with
      | nil => cases hst
      | cons x l2 => cases l2 with
        | nil =>
          cases hst
          obtain ⟨v, u, rfl⟩ := ros2 r
          obtain ⟨t, ht⟩ := T.f.bk2 i (hi2 i hi)
          exact bindCore (is := [0, 6, 7, 8, 9]) (lvs := [a, x, .d (.int 0), .d .none, .fn]) (vs := [v, u, .int 0 t, .none, .ref (adrOf K 60)]) rfl hnd hvar ⟨r.1, r.2.1, Rd.int _ _, Rd.none, rfl, trivial⟩ (all_app hpl (by rfl)) rfl (bindsTo_of prog T (fun S => ht S v u _) hp)
        | cons lo l3 => cases l3 with
          | nil =>
            cases hst
          | cons hh l4 => cases l4 with
            | nil =>
              cases hst
              obtain ⟨v, u, z, y, rfl⟩ := ros4 r
              exact bindCore (is := [0, 6, 7, 8, 9]) (lvs := [a, x, lo, hh, .fn]) (vs := [v, u, z, y, .ref (adrOf K 60)]) rfl hnd hvar ⟨r.1, r.2.1, r.2.2.1, r.2.2.2.1, rfl, trivial⟩ (all_app hpl (by rfl)) rfl (bindsTo_of prog T (fun S => T.f.bk4 i hi S v u z y _) hp)
            | cons => cases hst
theorem ins_of (prog : Program) (T : Gnd K w s₁ mg mb) : InsOk (gdOf prog T) (fdOf K (adrOf K 6)) 0 6 7 8 9 := ⟨fun s l vx hp => by
  have hs : (fdOf K (adrOf K 6)).scope = scopeAt 6 := (fnAt_of prog T (by decide)).2
  obtain ⟨t, ht⟩ := T.f.bk2 6 (by decide)
  have hb : BindsTo s (fdOf K (adrOf K 6)) ⟨[.ref l, vx], kwArgs (gdOf prog T) true⟩ [(nmT 0, .ref l), (nmT 6, vx), (nmT 7, .int 0 t), (nmT 8, .none), (nmT 9, .ref (adrOf K 60))] := bindsTo_of prog T (fun S => ht S _ _ _) hp
  refine ⟨_, t, hb, ?_, fun y hy => ?_, .head _, .tail _ (.head _), .tail _ (.tail _ (.head _)), .tail _ (.tail _ (.tail _ (.head _))), .tail _ (.tail _ (.tail _ (.tail _ (.head _))))⟩
  · exact nodup_map_nmT (is := [0, 6, 7, 8, 9]) (by decide)
  · rw [hs]
    have h := vars_b 6 (by decide)
    exact all_cons (P := fun y : Str × Value => isVar (scopeAt 6) y.1) (a := (_, _)) (h 0 (by decide)) (all_cons (a := (_, _)) (h 6 (by decide)) (all_cons (a := (_, _)) (h 7 (by decide)) (all_cons (a := (_, _)) (h 8 (by decide)) (all_cons (a := (_, _)) (h 9 (by decide)) all_nil)))) y hy⟩
theorem mgFn_of (prog : Program) (T : Gnd K w s₁ mg mb) {i : Nat} (hi : i ∈ fnsL) : mg (nameAt i) = some (.ref (adrOf K i)) ∧ (nameAt i == ("__debug__" : Str)) = false ∧ ∀ h, (gdOf prog T).P h → ∃ o, h.get? (adrOf K i) = some o ∧ ∃ f, o.data = .func f := by
  have F := T.f.fns i hi
  refine ⟨mg_of T.kx T.g F.ns, name_dbg i hi, fun h p => ?_⟩
  refine map_some (F.is) fun o ho hd => ?_
  exact ⟨o, T.kx.keeps p _ _ ho, _, hd⟩
theorem bi_of (T : Gnd K w s₁ mg mb) {x : Str × Value} (hx : x ∈ biL) : mg x.1 = none ∧ mb x.1 = some x.2 ∧ (x.1 == ("__debug__" : Str)) = false := by
  obtain ⟨h1, h2, h3⟩ := boot_bi x hx
  exact ⟨mg_none_of T.kx T.g (T.f.bi x hx), (T.bu x.1 h3).trans h1, h2⟩
theorem tab_of (prog : Program) (T : Gnd K w s₁ mg mb) : ∀ h, (gdOf prog T).P h → TabAt (strKind prog w) PyData.str h (tdA K) (tabS (tabK K)) := fun h p => by
  obtain ⟨n, h3⟩ := T.f.td3
  have e4 := T.f.td4
  refine TabAt.ofObj (kvs := (tabL K).map fun x => (x.1, .int x.2.1 x.2.2.2)) T.f.td2 (T.kx.keeps p _ _ h3) ⟨tdEs K, n, ⟨rfl, rfl, rfl⟩, rfl, fun e he => ?_, ?_, ?_⟩ ?_
  · rw [← Array.mem_toList_iff, e4] at he
    obtain ⟨x, _, rfl⟩ := List.mem_map.mp he
    exact ⟨x.1, strKind_is prog w x.1 _, rfl⟩
  · rw [e4]
    generalize tabL K = l
    induction l with
    | nil => exact .nil
    | cons x l ih => exact .cons (strKind_is prog w x.1 _) rfl ih
  · have := of_decide_eq_true T.f.td5
    rw [List.map_map]
    exact this
  · unfold tabK tabS
    generalize tabL K = l
    induction l with
    | nil => exact .nil
    | cons x l ih => exact .cons (.int _ _) ih
noncomputable def lawGOf (prog : Program) (T : Gnd K w s₁ mg mb) : LawG (gdOf prog T) where
  nm := rfl
  adr := adrOf K
  fd i := fdOf K (adrOf K i)
  key := rfl
  mgf i hi := mgFn_of prog T (by
    have : ∀ i ∈ [1, 2, 4, 6, 7, 8, 59, 60, 61, 62, 63, 64, 65, 66, 67], i ∈ fnsL := by decide
    exact this i hi)
  fn i hi := fnAt_of prog T (by
    have : ∀ i ∈ [1, 2, 6, 7, 8, 59, 60, 61, 62, 63, 64, 65, 66, 67], i ∈ [1, 2, 6, 7, 8, 59, 60, 61, 62, 63, 64, 65, 66, 67, 68] := by decide
    exact this i hi)
  bi x hx := bi_of T (List.mem_append_left ([("ValueError", .type "ValueError")] : List (Str × Value)) hx)
  sys h p := by
    obtain ⟨o, ho⟩ := Option.isSome_iff_exists.mp T.f.sys
    exact ⟨o, T.kx.keeps p _ _ ho⟩
  td := tdA K
  tab := tabK K
  tdm := mg_of T.kx T.g T.f.td1
  tdt := tab_of prog T
  bind i is hm := bindP_of prog T i is hm
  bind7 := (bindB_of prog T 7 (by decide)).1
  bind8 := (bindB_of prog T 8 (by decide)).1
  bind7K := (bindB_of prog T 7 (by decide)).2
  bind8K := (bindB_of prog T 8 (by decide)).2
  ins := ins_of prog T
end
end Mine
end

section
open PySem PySem.W PyProof.Rows PySem.Calls
open Sem (wp)
namespace Mine
section
variable {K : Frag} {w : World} {s₁ : Shared} {mg mb : Str → Option Value}
theorem gfn_of (prog : Program) (T : Gnd K w s₁ mg mb) : GFn (gdOf prog T) (adrOf K 4) (fdOf K (adrOf K 4)) := by
  have F := T.f.fns 4 (by decide)
  refine ⟨fun h p => ?_, F.body, F.scope, F.clos, F.gl, F.bl, rfl, fun s v hp => bindsTo_of prog T (fun S => T.f.b1 (4, 3) (by decide) S v) hp⟩
  refine map_some (F.is) fun o ho hd => ?_
  exact ⟨o, T.kx.keeps p _ _ ho, hd, codeRec_of (T.kx.keeps p) F.cd⟩
theorem rfn_of (prog : Program) (T : Gnd K w s₁ mg mb) : RFn (gdOf prog T) (adrOf K 61) (fdOf K (adrOf K 61)) := by
  obtain ⟨a, b⟩ := fnAt_of prog T (i := 61) (by decide)
  exact ⟨a, b, fun s v hp => bindsTo_of prog T (fun S => T.f.b1 (61, 14) (by decide) S v) hp⟩
noncomputable def gf1 : St → Option Bool := tOf truth (e2 oEq (eVar 5) (eG 127))
noncomputable def gf2 : St → Option Bool := tOf truth (e2 oEq (eVar 5) (eC (.int 0)))
noncomputable def gf3 : St → Option Bool := tIs (eVar 4)
noncomputable def gf4 : St → Option Bool := tOf truth (eC (.bool true))
theorem oEq_int (a b : Int) : oEq (.int a) (.int b) = retB (decide (a = b)) := by
  have h : eqOk (.int a) (.int b) = true := by simp [eqOk, PyData.canLay0, PyData.depth]
  have e : PyData.eqv (.int a) (.int b) = decide (a = b) := by
    by_cases q : a = b <;> simp [PyData.eqv, q]
  unfold oEq
  rw [h, e]; rfl
theorem gf1_eq (x : Int) (dl : Option Int) : gf1 (gSt x dl) = some (decide (x = 127)) := by
  show (oEq (.int x) (.int 127)).bind truth = _
  rw [oEq_int]; rfl
theorem gf2_eq (x : Int) (dl : Option Int) : gf2 (gSt x dl) = some (decide (x = 0)) := by
  show (oEq (.int x) (.int 0)).bind truth = _
  rw [oEq_int]; rfl
theorem gf3_eq (x : Int) (dl : Option Int) : gf3 (gSt x dl) = some dl.isNone := by cases dl <;> rfl
theorem gshape_of (prog : Program) (T : Gnd K w s₁ mg mb) : GShapeX (gdOf prog T) := by
  obtain ⟨tc, hc⟩ := T.f.cm
  have hm : mg "CHAR_MAX" = some (.int 127 tc) := mg_of T.kx T.g hc
  have vE := bi_of T (x := ("ValueError", .type "ValueError")) (by unfold biL; simp)
  refine ⟨_, _, _, _, _, _, _, gf1, gf2, gf3, gf4, _, _, _, _, _, _, _, _, _, _, _, _, _, _, _, _, _, _, _, rfl, ⟨?_, ?_, ?_, ?_, gf1_eq, gf2_eq, gf3_eq, fun _ _ => rfl, ?_, ?_, ?_, ?_⟩, ?_⟩
  · exact EvT.cmp (EvV.name rfl) (EvV.gint (by kernel_rfl) hm (by kernel_rfl)) op_eq rfl
  · exact EvT.cmp (EvV.name rfl) EvV.int op_eq rfl
  · exact EvT.is (EvV.name rfl)
  · exact EvT.of EvV.bool (fun _ _ => rfl)
  · exact EvV.name rfl
  · exact EvV.name rfl
  · exact EvV.name rfl
  · exact fun _ _ _ _ => rfl
  · exact RaiseOk.of (by kernel_rfl) vE.1 vE.2.1 vE.2.2
theorem lawXOf (prog : Program) (T : Gnd K w s₁ mg mb) : LawX (lawGOf prog T) where
  sh := gshape_of prog T
  gf := gfn_of prog T
  rf := rfn_of prog T
  vm := (bi_of T (x := ("ValueError", .type "ValueError")) (by unfold biL; simp)).1
  vb := (bi_of T (x := ("ValueError", .type "ValueError")) (by unfold biL; simp)).2.1
noncomputable def Plain : Prop := ∀ (G : Gd) (L : LawG G) (xs : List Int), xs.length ≤ 63 → (∀ s ∈ words, lkS L.tab s = lkS tab8 s) → ∃ st', g_law L [(43, .arg (xs.map .int))] = some (.ret (.bool true), st')
theorem law_true (plain : Plain) (prog : Program) (T : Gnd K w s₁ mg mb) (hg : s₁.gens = #[]) {ax : Addr} {items : Array Value} {xs : List Int} (hl : s₁.heap.IsList ax items) (hI : IntsAre items.toList xs) (hn : xs.length ≤ 63) {Q : Value → Shared → Prop} {E : Value → Shared → Prop}
    (hQ : ∀ h' tk gs, Ext s₁.heap h' → AllBare gs → Q (.bool true) { s₁ with heap := h', toks := tk, gens := gs }) : wpAny (model prog w) callerA (call (.ref (adrOf K 68)) [.ref ax]) Q E s₁ := by
  obtain ⟨st', hst⟩ := plain _ (lawGOf prog T) xs hn (fun s hs => by
    have := List.all_eq_true.mp T.f.td6 s hs
    exact of_decide_eq_true this)
  obtain ⟨f, hsc⟩ := fnAt_of prog T (i := 68) (by decide)
  refine law_call (G := gdOf prog T) (lawGOf prog T) (lawXOf prog T) f hsc (fun s v hp => bindsTo_of prog T (fun S => T.f.b1 (68, 43) (by decide) S v) hp) ⟨rfl, by decide, by decide⟩ rfl (Ext.refl _) (by rw [hg]; exact fun y hy => by simp at hy) hl (rdA_of_ints hI) hst hQ
end
end Mine
end

section
open PySem PySem.W PyProof.Rows PySem.Calls
open Sem (wp)
namespace Mine
theorem law_end {K : Frag} {w : World} {s₁ : Shared} {mg mb : Str → Option Value} (plain : Plain) (prog : Program) (KX : K.In s₁.heap) (g : s₁.heap.Ns mainGlobals mg) (b : s₁.heap.Ns builtinsNs mb) (nl : s₁.heap.NoLimit) (bu : ∀ x : Str, x ≠ "__name__" → mb x = bootBuiltins x) (hg : s₁.gens = #[])
    {xs : List Int} {vs : List Value} (hl : s₁.heap.IsList 128 vs.toArray) (hI : IntsAre vs xs) (hn : xs.length ≤ 63) {Q : Value → Shared → Prop} {E : Value → Shared → Prop} (h127 : adrOf K 68 = 127) (F : KFacts K w.params)
    (hQ : ∀ h' tk gs, Ext s₁.heap h' → AllBare gs → Q (.bool true) { s₁ with heap := h', toks := tk, gens := gs }) : wpAny (model prog w) callerA (call (.ref 127) [.ref 128]) Q E s₁ := by
  have := law_true plain prog ⟨KX, g, b, nl, bu, F⟩ hg hl (by exact hI) hn (Q := Q) (E := E) hQ
  rwa [h127] at this
end Mine
end

section
open PySem PySem.W PyProof.Rows PySem.Calls
namespace Mine
noncomputable def g_fallsT (tab : List (Str × Int)) : St → Option (Fl × St) := (sSeq (sAssign 18 (eC (.str ("" : Str)))) (sSeq (sAssignF 19 (eList lNil)) (sSeq (whGo (tOf truth (e2 oLt (eN oLen (lCons (eVar 18) lNil)) (eN oLen (lCons (eVar 16) lNil)))) (sSeq (sAssign 20 (eN oLen (lCons (eVar 18) lNil))) (sSeq (sAssign 21 (eC (.int 3))) (sSeq (whGo (tAnd (tOf truth (e2 oGt (eVar 21) (eC (.int 1)))) (tNotIn tab (eSliceS (eVar 16) (eVar 20) (e2 oAdd (eVar 20) (eVar 21))))) (sSeq (sAug 21 oSub (eC (.int 1))) sNil) 100) (sSeq (sExpr (mAppend 19 (mV (eItemG tab (eSliceS (eVar 16) (eVar 20) (e2 oAdd (eVar 20) (eVar 21))))))) (sSeq (sAug 18 oIadd (eItemD [(16, ("*" : Str)), (17, ("/" : Str)), (20, ("<" : Str)), (21, (">" : Str)), (33, ("<<" : Str)), (34, (">>" : Str)), (35, ("**" : Str)), (47, ("//" : Str))] (eIdx (eVar 19) (e1 oNeg (eC (.int 1)))))) sNil))))) 100) (sSeq (sIf (tOf truth (e2 oNe (fzF (eComp 25 [19] (iRange (lCons (eC (.int 1)) (lCons (eN oLen (lCons (eVar 19) lNil)) lNil))) (tAnd (tOf truth (e2 oLt (eIdx (eVar 19) (eVar 25)) (eC (.int 33)))) (tOf truth (e2 oEq (eIdx (eVar 19) (e2 oSub (eVar 25) (eC (.int 1)))) (eIdx (eVar 19) (eVar 25))))) (eVar 25))) (fzF (eList lNil)))) (sSeq (sRetV (fzF (eList lNil))) sNil) sNil) (sSeq (sRetV (fzF (eComp 12 [17, 18] (iRange (lCons (eN oLen (lCons (eVar 18) lNil)) lNil)) (tOf truth (e2 oEq (eIdxS (eVar 18) (eVar 12)) (eVar 17))) (e2 oAdd (eVar 12) (eC (.int 1)))))) sNil)))))
noncomputable def f_fallsT (tab : List (Str × Int)) : List LV → Option PyData := fnOfBody (initP [16, 17]) (g_fallsT tab)
noncomputable def s_law18T (tab : List (Str × Int)) : St → Option (Fl × St) := (sAssign 30 (eCall (f_fallsT tab) (lCons (eVar 16) (lCons (eIdxS (eVar 55) (eC (.int 1))) lNil))))
noncomputable def g_lawT (tab : List (Str × Int)) : St → Option (Fl × St) := (sSeq (s_law0) (sSeq (s_law1) (sSeq (s_law2) (sSeq (s_law3) (sSeq (s_law4) (sSeq (s_law5) (sSeq (s_law6) (sSeq (s_law7) (sSeq (s_law8) (sSeq (s_law9) (sSeq (s_law10) (sSeq (s_law11) (sSeq (s_law12) (sSeq (s_law13) (sSeq (s_law14) (sSeq (s_law15) (sSeq (s_law16) (sSeq (s_law17) (sSeq (s_law18T tab) (sSeq (s_law19) (sSeq (s_law20) (sSeq (s_law21) (sSeq (s_law22) (sSeq (s_law23) sNil))))))))))))))))))))))))
theorem g_law_eq {G : Gd} (L : LawG G) : g_law L = g_lawT L.tab := rfl
end Mine
end

section
open PySem PySem.W PyProof.Rows PySem.Calls
namespace Mine
noncomputable def bisG (right : Nat → Bool) : Nat → Nat → Nat → Nat
  | 0, lo, _ => lo
  | f + 1, lo, hi => cond (Nat.blt lo hi) (cond (right ((lo + hi) / 2)) (bisG right f ((lo + hi) / 2 + 1) hi) (bisG right f lo ((lo + hi) / 2))) lo
theorem bisG_c (right : Nat → Bool) (f lo hi : Nat) : bisG right (f + 1) lo hi = cond (Nat.blt lo hi) (cond (right ((lo + hi) / 2)) (bisG right f ((lo + hi) / 2 + 1) hi) (bisG right f lo ((lo + hi) / 2))) lo := rfl
theorem blt_dec (a b : Nat) : Nat.blt a b = decide (a < b) := by
  by_cases h : a < b
  · rw [decide_eq_true h]; exact Nat.ble_eq_true_of_le h
  · rw [decide_eq_false h]
    cases q : Nat.blt a b with
    | false => rfl
    | true => exact absurd (Nat.le_of_ble_eq_true q) h
theorem bis_range (r : Nat → Bool) : ∀ (f lo hi : Nat), lo ≤ hi → lo ≤ bisG r f lo hi ∧ bisG r f lo hi ≤ hi
  | 0, lo, hi, h => ⟨Nat.le_refl _, h⟩
  | f + 1, lo, hi, h => by
    rw [bisG_c]
    cases q : Nat.blt lo hi with
    | false => exact ⟨Nat.le_refl _, h⟩
    | true =>
      have q : lo < hi := by rw [blt_dec] at q; exact of_decide_eq_true q
      have m1 : lo ≤ (lo + hi) / 2 := by lia
      have m2 : (lo + hi) / 2 < hi := by lia
      cases w : r ((lo + hi) / 2) with
      | true => have := bis_range r f ((lo + hi) / 2 + 1) hi (by (first | assumption | exact Nat.le_refl _ | exact Nat.zero_le _ | exact Nat.lt_succ_self _ | exact Nat.le_of_lt (by assumption) | exact Nat.succ_le_of_lt (by assumption) | lia)); simp only [cond_true]; lia
      | false => have := bis_range r f lo ((lo + hi) / 2) m1; simp only [cond_true, cond_false]; lia

structure BSt (A0 A6 A9 : LV) (lo hi : Nat) (st : St) : Prop where
  h0 : st.get 0 = some A0
  h6 : st.get 6 = some A6
  h7 : st.get 7 = some (.d (.int lo))
  h8 : st.get 8 = some (.d (.int hi))
  h9 : st.get 9 = some A9

theorem wh_bis {t : St → Option Bool} {g : St → Option (Fl × St)} {A0 A6 A9 : LV} {r : Nat → Bool} {n : Nat}
    (ht : ∀ st lo hi, BSt A0 A6 A9 lo hi st → t st = some (Nat.blt lo hi))
    (hg : ∀ st lo hi, lo < hi → hi ≤ n → BSt A0 A6 A9 lo hi st → ∃ st', g st = some (.next, st') ∧ BSt A0 A6 A9 (cond (r ((lo + hi) / 2)) ((lo + hi) / 2 + 1) lo) (cond (r ((lo + hi) / 2)) hi ((lo + hi) / 2)) st') :
    ∀ (f : Nat) (st : St) (lo hi : Nat), hi ≤ n → hi - lo < f → BSt A0 A6 A9 lo hi st → ∃ st', whGo t g f st = some (.next, st') ∧ st'.get 7 = some (.d (.int (bisG r f lo hi))) := by
  intro f
  induction f with
  | zero => intro st lo hi _ h; lia
  | succ f ih =>
    intro st lo hi hn hf S
    unfold whGo bisG
    rw [ht st lo hi S]
    by_cases q : lo < hi
    · have qb : Nat.blt lo hi = true := by rw [blt_dec]; exact decide_eq_true q
      obtain ⟨st', e, S'⟩ := hg st lo hi q hn S
      simp only [qb, Option.bind_some, cond_true, e]
      cases w : r ((lo + hi) / 2) with
      | true =>
        rw [w] at S'
        exact ih st' ((lo + hi) / 2 + 1) hi hn (by lia) S'
      | false =>
        rw [w] at S'
        exact ih st' lo ((lo + hi) / 2) (by lia) (by lia) S'
    · have qb : Nat.blt lo hi = false := by rw [blt_dec]; exact decide_eq_false q
      simp only [qb, Option.bind_some, cond_false]
      exact ⟨st, rfl, S.h7⟩
noncomputable def nI (l : List Nat) : List PyData := l.map fun (k : Nat) => PyData.int (k : Int)
noncomputable def gN (l : List Nat) (i : Nat) : Nat := (l[i]?).getD 0
theorem pick_nat {xs : List PyData} {i : Nat} {d : PyData} (h : xs[i]? = some d) (hs : i < 1000000000) : pick xs (i : Int) = some d := by
  unfold pick
  rw [if_pos (Int.natCast_nonneg i), if_pos (by lia)]
  exact h
theorem nI_get {l : List Nat} {i : Nat} (h : i < l.length) : (nI l)[i]? = some (.int (gN l i : Int)) := by
  unfold nI gN
  rw [List.getElem?_map, List.getElem?_eq_getElem h]; rfl
theorem mid_eq (lo hi : Nat) : oFdiv' (.int ((lo : Int) + (hi : Int))) (.int 2) = some (.d (.int (((lo + hi) / 2 : Nat) : Int))) := by
  unfold oFdiv'
  dsimp only
  rw [if_neg (by decide)]
  show some (LV.d (.int _)) = _
  congr 3
  rw [Int.fdiv_eq_ediv_of_nonneg _ (by decide)]
  lia
theorem lt_nat (a b : Nat) : oLt (.int (a : Int)) (.int (b : Int)) = some (.d (.bool (Nat.blt a b))) := by
  unfold oLt retB
  dsimp only
  congr 3
  rw [blt_dec]
  exact decide_eq_decide.mpr Int.ofNat_lt
noncomputable def tLoop : St → Option Bool := tOf truth (e2 oLt (eVar 7) (eVar 8))
theorem tLoop_eq {A0 A6 A9 : LV} {lo hi : Nat} {st : St} (S : BSt A0 A6 A9 lo hi st) : tLoop st = some (Nat.blt lo hi) := by
  unfold tLoop tOf e2 eDat eVar
  rw [S.h7, S.h8]
  simp only [Option.bind_some, LV.dat, lt_nat, truth]
noncomputable def gLoopR (q : St → Option Bool) : St → Option (Fl × St) := (sSeq (sAssign 10 (e2 oFdiv' (e2 oAdd (eVar 7) (eVar 8)) (eC (.int 2)))) (sSeq (sIf q (sSeq (sAssign 8 (eVar 10)) sNil) (sSeq (sAssign 7 (e2 oAdd (eVar 10) (eC (.int 1)))) sNil)) sNil))
noncomputable def gLoopL (q : St → Option Bool) : St → Option (Fl × St) := (sSeq (sAssign 10 (e2 oFdiv' (e2 oAdd (eVar 7) (eVar 8)) (eC (.int 2)))) (sSeq (sIf q (sSeq (sAssign 7 (e2 oAdd (eVar 10) (eC (.int 1)))) sNil) (sSeq (sAssign 8 (eVar 10)) sNil)) sNil))
theorem gLoopR_step {q : St → Option Bool} {A0 A6 A9 : LV} {r : Nat → Bool} {lo hi : Nat} {st : St} (S : BSt A0 A6 A9 lo hi st)
    (hq : q (st.set 10 (.d (.int (((lo + hi) / 2 : Nat) : Int)))) = some (!r ((lo + hi) / 2))) :
    ∃ st', gLoopR q st = some (.next, st') ∧ BSt A0 A6 A9 (cond (r ((lo + hi) / 2)) ((lo + hi) / 2 + 1) lo) (cond (r ((lo + hi) / 2)) hi ((lo + hi) / 2)) st' := by
  obtain ⟨h0, h6, h7, h8, h9⟩ := S
  unfold gLoopR sSeq sAssign sIf
  simp only [e2, eDat, eVar, eC, h7, h8, Option.bind_some, LV.dat, oAdd, retI, mid_eq, hq]
  cases w : r ((lo + hi) / 2) with
  | true =>
    simp [w, St.get_set, LV.dat, sNil]
    constructor <;> simp [St.get_set, h0, h6, h7, h8, h9]
  | false =>
    simp [w, St.get_set, LV.dat, sNil]
    constructor <;> simp [St.get_set, h0, h6, h7, h8, h9]
theorem gLoopL_step {q : St → Option Bool} {A0 A6 A9 : LV} {r : Nat → Bool} {lo hi : Nat} {st : St} (S : BSt A0 A6 A9 lo hi st)
    (hq : q (st.set 10 (.d (.int (((lo + hi) / 2 : Nat) : Int)))) = some (r ((lo + hi) / 2))) :
    ∃ st', gLoopL q st = some (.next, st') ∧ BSt A0 A6 A9 (cond (r ((lo + hi) / 2)) ((lo + hi) / 2 + 1) lo) (cond (r ((lo + hi) / 2)) hi ((lo + hi) / 2)) st' := by
  obtain ⟨h0, h6, h7, h8, h9⟩ := S
  unfold gLoopL sSeq sAssign sIf
  simp only [e2, eDat, eVar, eC, h7, h8, Option.bind_some, LV.dat, oAdd, retI, mid_eq, hq]
  cases w : r ((lo + hi) / 2) with
  | true =>
    simp [w, St.get_set, LV.dat, sNil]
    constructor <;> simp [St.get_set, h0, h6, h7, h8, h9]
  | false =>
    simp [w, St.get_set, LV.dat, sNil]
    constructor <;> simp [St.get_set, h0, h6, h7, h8, h9]

theorem lt_int (a b : Int) : oLt (.int a) (.int b) = some (.d (.bool (decide (a < b)))) := rfl
noncomputable def tR : St → Option Bool := tOf truth (e2 oLt (eVar 6) (eIdx (eVar 0) (eVar 10)))
noncomputable def tL : St → Option Bool := tOf truth (e2 oLt (eIdx (eVar 0) (eVar 10)) (eVar 6))
section
variable {st : St} {f g : St → Option LV}
theorem v_dat {p : PyData} (h : f st = some (.d p)) : eDat f st = some p := by unfold eDat; rw [h]; rfl
theorem v_e2 {op : PyData → PyData → Option LV} {a b : PyData} {r : Option LV} (hf : f st = some (.d a)) (hg : g st = some (.d b)) (ho : op a b = r) : e2 op f g st = r := by
  unfold e2; rw [v_dat hf, v_dat hg]; exact ho
theorem v_int {i : Int} (h : f st = some (.d (.int i))) : eInt f st = some i := by unfold eInt; rw [v_dat h]; rfl
theorem v_lst {lv : LV} {xs : List PyData} (h : f st = some lv) (e : lv.lst = some xs) : eLst f st = some xs := by unfold eLst; rw [h]; exact e
theorem v_idx {lv : LV} {xs : List PyData} {i : Nat} {d : PyData} (hf : f st = some lv) (hl : lv.lst = some xs) (hg : g st = some (.d (.int (i : Int)))) (hd : xs[i]? = some d) (hi : i < 1000000000) : eIdx f g st = some (.d d) := by
  exact Option.bind_eq_some_iff.mpr ⟨xs, v_lst hf hl, Option.bind_eq_some_iff.mpr ⟨_, v_int hg, Option.map_eq_some_iff.mpr ⟨d, pick_nat hd hi, rfl⟩⟩⟩
theorem v_idxI {lv : LV} {l : List Nat} {i : Nat} (hf : f st = some lv) (hl : lv.lst = some (nI l)) (hg : g st = some (.d (.int (i : Int)))) (hd : i < l.length) (hi : l.length ≤ 1000) : eIdx f g st = some (.d (.int (gN l i))) :=
  v_idx hf hl hg (nI_get hd) (by lia)
theorem v_tOf {b : Bool} (h : f st = some (.d (.bool b))) : tOf truth f st = some b := by unfold tOf; rw [h]; rfl
end
theorem tR_eq {l : List Nat} {x : Nat} {A9 : LV} {lo hi m : Nat} {st : St} (S : BSt (.d (.list (nI l))) (.d (.int x)) A9 lo hi st) (hm : m < l.length) (hl : l.length ≤ 100) :
    tR (st.set 10 (.d (.int (m : Int)))) = some (Nat.blt x (gN l m)) :=
  v_tOf (v_e2 (by show St.get _ 6 = _; rw [St.get_set]; exact S.h6) (v_idxI (by show St.get _ 0 = _; rw [St.get_set]; exact S.h0) rfl (by show St.get _ 10 = _; rw [St.get_set]; rfl) hm (by lia)) (lt_nat _ _))
theorem tL_eq {l : List Nat} {x : Nat} {A9 : LV} {lo hi m : Nat} {st : St} (S : BSt (.d (.list (nI l))) (.d (.int x)) A9 lo hi st) (hm : m < l.length) (hl : l.length ≤ 100) :
    tL (st.set 10 (.d (.int (m : Int)))) = some (Nat.blt (gN l m) x) :=
  v_tOf (v_e2 (v_idxI (by show St.get _ 0 = _; rw [St.get_set]; exact S.h0) rfl (by show St.get _ 10 = _; rw [St.get_set]; rfl) hm (by lia)) (by show St.get _ 6 = _; rw [St.get_set]; exact S.h6) (lt_nat _ _))
noncomputable def bR (l : List Nat) (x lo hi : Nat) : Nat := bisG (fun m => !Nat.blt x (gN l m)) 100 lo hi
noncomputable def bL (l : List Nat) (x lo hi : Nat) : Nat := bisG (fun m => Nat.blt (gN l m) x) 100 lo hi

section
variable {st st' : St} {f g : St → Option (Fl × St)} {r : Option (Fl × St)} {t : St → Option Bool}
theorem seqN (h : f st = some (.next, st')) (k : g st' = r) : sSeq f g st = r := by unfold sSeq; rw [h]; exact k
theorem seqR {p : PyData} (h : f st = some (.ret p, st')) : sSeq f g st = some (.ret p, st') := by unfold sSeq; rw [h]; rfl
theorem ifT (h : t st = some true) (k : f st = r) : sIf t f g st = r := by unfold sIf; rw [h]; exact k
theorem ifF (h : t st = some false) (k : g st = r) : sIf t f g st = r := by unfold sIf; rw [h]; exact k
theorem asg {i : Nat} {v : St → Option LV} {p : PyData} (h : v st = some (.d p)) : sAssign i v st = some (.next, st.set i (.d p)) := by unfold sAssign; rw [h]; rfl
end
noncomputable def bTail (W1 W2 : St → Option (Fl × St)) : St → Option (Fl × St) := sSeq (sIf (tIs (eVar 9)) (sSeq W1 sNil) (sSeq W2 sNil)) (sSeq (sRet (eVar 7)) sNil)
noncomputable def bHead (T : St → Option (Fl × St)) : St → Option (Fl × St) := (sSeq (sIf (tOf truth (e2 oLt (eVar 7) (eC (.int 0)))) (sSeq (fun _ => Option.none) sNil) sNil) (sSeq (sIf (tIs (eVar 8)) (sSeq (sAssign 8 (eN oLen (lCons (eVar 0) lNil))) sNil) sNil) T))
theorem ret7 {st : St} {k : Nat} (h : st.get 7 = some (.d (.int k))) : sSeq (sRet (eVar 7)) sNil st = some (.ret (.int k), st) := seqR (by unfold sRet; rw [v_dat (f := eVar 7) h]; first | done | rfl)
theorem tail_plain {W1 W2 : St → Option (Fl × St)} {st st' : St} {k : Nat} (h9 : st.get 9 = some (.d .none)) (e : W1 st = some (.next, st')) (e7 : st'.get 7 = some (.d (.int k))) : bTail W1 W2 st = some (.ret (.int k), st') :=
  seqN (ifT (by show (st.get 9).map isN = _; rw [h9]; rfl) (seqN e rfl)) (ret7 e7)
theorem tail_key {W1 W2 : St → Option (Fl × St)} {st st' : St} {k : Nat} (h9 : st.get 9 = some .fn) (e : W2 st = some (.next, st')) (e7 : st'.get 7 = some (.d (.int k))) : bTail W1 W2 st = some (.ret (.int k), st') :=
  seqN (ifF (by show (st.get 9).map isN = _; rw [h9]; rfl) (seqN e rfl)) (ret7 e7)
theorem lo_ok {st : St} {lo : Nat} (h7 : st.get 7 = some (.d (.int lo))) : tOf truth (e2 oLt (eVar 7) (eC (.int 0))) st = some false :=
  v_tOf (v_e2 h7 rfl (by rw [lt_int]; congr 3; first | done | exact decide_eq_false (by lia)))
theorem head_int {T : St → Option (Fl × St)} {st : St} {lo hi : Nat} {r : Option (Fl × St)} (h7 : st.get 7 = some (.d (.int lo))) (h8 : st.get 8 = some (.d (.int hi))) (k : T st = r) : bHead T st = r :=
  seqN (ifF (lo_ok h7) rfl) (seqN (ifF (by show (st.get 8).map isN = _; rw [h8]; rfl) rfl) k)
theorem head_none {T : St → Option (Fl × St)} {st : St} {lo : Nat} {xs : List PyData} {r : Option (Fl × St)} (h7 : st.get 7 = some (.d (.int lo))) (h8 : st.get 8 = some (.d .none)) (h0 : st.get 0 = some (.d (.list xs))) (hn : xs.length ≤ 1000) (k : T (st.set 8 (.d (.int (xs.length : Nat)))) = r) : bHead T st = r := by
  refine seqN (ifF (lo_ok h7) rfl) (seqN (ifT (by show (st.get 8).map isN = _; rw [h8]; rfl) (seqN (asg ?_) rfl)) k)
  unfold eN lCons lNil
  show (((eVar 0 st).bind fun a => some [a]).bind oLen) = _
  rw [show eVar 0 st = _ from h0]
  show (cond (Nat.ble xs.length 1000000) (retI xs.length) none) = _
  rw [Nat.ble_eq_true_of_le (by lia)]; rfl
section
variable {l : List Nat} {x lo hi : Nat} {st : St}
theorem whR (hl : l.length ≤ 99) (hh : hi ≤ l.length) {A9 : LV} (S : BSt (.d (.list (nI l))) (.d (.int x)) A9 lo hi st) : ∃ st', whGo tLoop (gLoopR tR) 100 st = some (.next, st') ∧ st'.get 7 = some (.d (.int (bR l x lo hi))) :=
  wh_bis (n := l.length) (t := tLoop) (g := gLoopR tR) (r := fun m => !Nat.blt x (gN l m)) (fun st lo hi S => tLoop_eq S)
    (fun st lo hi h1 h2 S => gLoopR_step (q := tR) (r := fun m => !Nat.blt x (gN l m)) S (by rw [tR_eq S (by lia) (by lia)]; simp)) 100 _ lo hi hh (by lia) S
theorem whL (hl : l.length ≤ 99) (hh : hi ≤ l.length) {A9 : LV} (S : BSt (.d (.list (nI l))) (.d (.int x)) A9 lo hi st) : ∃ st', whGo tLoop (gLoopL tL) 100 st = some (.next, st') ∧ st'.get 7 = some (.d (.int (bL l x lo hi))) :=
  wh_bis (n := l.length) (t := tLoop) (g := gLoopL tL) (r := fun m => Nat.blt (gN l m) x) (fun st lo hi S => tLoop_eq S)
    (fun st lo hi h1 h2 S => gLoopL_step (q := tL) (r := fun m => Nat.blt (gN l m) x) S (tL_eq S (by lia) (by lia))) 100 _ lo hi hh (by lia) S
theorem f_bright4 (hl : l.length ≤ 99) (hh : hi ≤ l.length) : f_bright [.d (.list (nI l)), .d (.int x), .d (.int lo), .d (.int hi)] = some (.int (bR l x lo hi)) := by
  obtain ⟨st', e, e7⟩ := whR (x := x) (lo := lo) (st := [(0, .d (.list (nI l))), (6, .d (.int x)), (7, .d (.int lo)), (8, .d (.int hi)), (9, .d .none)]) hl hh (A9 := .d .none) ⟨rfl, rfl, rfl, rfl, rfl⟩
  show outOf (bHead (bTail (whGo tLoop (gLoopR tR) 100) _) _) = _
  rw [head_int rfl rfl (tail_plain rfl e e7)]; rfl
theorem f_bleft4 (hl : l.length ≤ 99) (hh : hi ≤ l.length) : f_bleft [.d (.list (nI l)), .d (.int x), .d (.int lo), .d (.int hi)] = some (.int (bL l x lo hi)) := by
  obtain ⟨st', e, e7⟩ := whL (x := x) (lo := lo) (st := [(0, .d (.list (nI l))), (6, .d (.int x)), (7, .d (.int lo)), (8, .d (.int hi)), (9, .d .none)]) hl hh (A9 := .d .none) ⟨rfl, rfl, rfl, rfl, rfl⟩
  show outOf (bHead (bTail (whGo tLoop (gLoopL tL) 100) _) _) = _
  rw [head_int rfl rfl (tail_plain rfl e e7)]; rfl
theorem nI_len : (nI l).length = l.length := by unfold nI; simp
theorem f_bright3 (hl : l.length ≤ 99) : f_bright [.d (.list (nI l)), .d (.int x), .d (.int lo)] = some (.int (bR l x lo l.length)) := by
  obtain ⟨st', e, e7⟩ := whR (x := x) (lo := lo) (hi := l.length) (st := St.set [(0, .d (.list (nI l))), (6, .d (.int x)), (7, .d (.int lo)), (8, .d .none), (9, .d .none)] 8 (.d (.int ((nI l).length : Nat)))) hl (Nat.le_refl _) (A9 := .d .none) ⟨rfl, rfl, rfl, by rw [nI_len]; rfl, rfl⟩
  show outOf (bHead (bTail (whGo tLoop (gLoopR tR) 100) _) _) = _
  rw [head_none rfl rfl rfl (by rw [nI_len]; lia) (tail_plain rfl e e7)]; rfl
theorem f_bleft3 (hl : l.length ≤ 99) : f_bleft [.d (.list (nI l)), .d (.int x), .d (.int lo)] = some (.int (bL l x lo l.length)) := by
  obtain ⟨st', e, e7⟩ := whL (x := x) (lo := lo) (hi := l.length) (st := St.set [(0, .d (.list (nI l))), (6, .d (.int x)), (7, .d (.int lo)), (8, .d .none), (9, .d .none)] 8 (.d (.int ((nI l).length : Nat)))) hl (Nat.le_refl _) (A9 := .d .none) ⟨rfl, rfl, rfl, by rw [nI_len]; rfl, rfl⟩
  show outOf (bHead (bTail (whGo tLoop (gLoopL tL) 100) _) _) = _
  rw [head_none rfl rfl rfl (by rw [nI_len]; lia) (tail_plain rfl e e7)]; rfl
theorem f_bright2 (hl : l.length ≤ 99) : f_bright [.d (.list (nI l)), .d (.int x)] = some (.int (bR l x 0 l.length)) := f_bright3 (lo := 0) hl
theorem f_bleft2 (hl : l.length ≤ 99) : f_bleft [.d (.list (nI l)), .d (.int x)] = some (.int (bL l x 0 l.length)) := f_bleft3 (lo := 0) hl
end
end Mine
end

section
open PySem PySem.W PyProof.Rows PySem.Calls
namespace Mine
noncomputable abbrev Ent := Int × Str
noncomputable def ent (p : Ent) : PyData := .list [.int p.1, .str p.2]
noncomputable def eL (L : List Ent) : List PyData := L.map ent
noncomputable def kN (L : List Ent) (i : Nat) : Str := ((L[i]?).map (·.2)).getD default
theorem eL_len {L : List Ent} : (eL L).length = L.length := by unfold eL; simp
theorem eL_get {L : List Ent} {i : Nat} (h : i < L.length) : ∃ p, (eL L)[i]? = some (ent p) ∧ kN L i = p.2 := by
  refine ⟨L[i], ?_, ?_⟩
  · unfold eL; rw [List.getElem?_map, List.getElem?_eq_getElem h]; rfl
  · unfold kN; rw [List.getElem?_eq_getElem h]; rfl
theorem v_key {st : St} {f : St → Option LV} {p : Ent} (h9 : st.get 9 = some .fn) (hf : f st = some (.d (ent p))) : eKCall 9 f_key f st = some (.d (.str p.2)) := by
  unfold eKCall
  rw [h9]
  show eCall f_key (lCons f lNil) st = _
  unfold eCall lCons lNil
  rw [hf]; rfl
theorem v_keyC {st : St} {f : St → Option LV} {p : Ent} (hf : f st = some (.d (ent p))) : eCall f_key (lCons f lNil) st = some (.d (.str p.2)) := by
  unfold eCall lCons lNil
  rw [hf]; rfl
noncomputable def tRK : St → Option Bool := tOf truth (e2 oLt (eVar 6) (eKCall 9 f_key (eIdx (eVar 0) (eVar 10))))
noncomputable def tLK : St → Option Bool := tOf truth (e2 oLt (eKCall 9 f_key (eIdx (eVar 0) (eVar 10))) (eVar 6))
theorem lt_str (a b : Str) : oLt (.str a) (.str b) = some (.d (.bool (strLt a b))) := rfl
section
variable {L : List Ent} {x : Str} {lo hi m : Nat} {st : St}
theorem tRK_eq (S : BSt (.d (.list (eL L))) (.d (.str x)) .fn lo hi st) (hm : m < L.length) (hl : L.length ≤ 100) :
    tRK (st.set 10 (.d (.int (m : Int)))) = some (strLt x (kN L m)) := by
  obtain ⟨p, hp, hk⟩ := eL_get hm
  rw [hk]
  exact v_tOf (v_e2 (by show St.get _ 6 = _; rw [St.get_set]; exact S.h6)
    (v_key (by rw [St.get_set]; exact S.h9) (v_idx (by show St.get _ 0 = _; rw [St.get_set]; exact S.h0) rfl (by show St.get _ 10 = _; rw [St.get_set]; rfl) hp (by lia))) (lt_str _ _))
theorem tLK_eq (S : BSt (.d (.list (eL L))) (.d (.str x)) .fn lo hi st) (hm : m < L.length) (hl : L.length ≤ 100) :
    tLK (st.set 10 (.d (.int (m : Int)))) = some (strLt (kN L m) x) := by
  obtain ⟨p, hp, hk⟩ := eL_get hm
  rw [hk]
  exact v_tOf (v_e2 (v_key (by rw [St.get_set]; exact S.h9) (v_idx (by show St.get _ 0 = _; rw [St.get_set]; exact S.h0) rfl (by show St.get _ 10 = _; rw [St.get_set]; rfl) hp (by lia)))
    (by show St.get _ 6 = _; rw [St.get_set]; exact S.h6) (lt_str _ _))
noncomputable def bRK (L : List Ent) (x : Str) (lo hi : Nat) : Nat := bisG (fun m => !strLt x (kN L m)) 100 lo hi
noncomputable def bLK (L : List Ent) (x : Str) (lo hi : Nat) : Nat := bisG (fun m => strLt (kN L m) x) 100 lo hi
theorem whRK (hl : L.length ≤ 99) (hh : hi ≤ L.length) (S : BSt (.d (.list (eL L))) (.d (.str x)) .fn lo hi st) : ∃ st', whGo tLoop (gLoopR tRK) 100 st = some (.next, st') ∧ st'.get 7 = some (.d (.int (bRK L x lo hi))) :=
  wh_bis (n := L.length) (t := tLoop) (g := gLoopR tRK) (r := fun m => !strLt x (kN L m)) (fun st lo hi S => tLoop_eq S)
    (fun st lo hi h1 h2 S => gLoopR_step (q := tRK) (r := fun m => !strLt x (kN L m)) S (by rw [tRK_eq S (by lia) (by lia)]; simp)) 100 _ lo hi hh (by lia) S
theorem whLK (hl : L.length ≤ 99) (hh : hi ≤ L.length) (S : BSt (.d (.list (eL L))) (.d (.str x)) .fn lo hi st) : ∃ st', whGo tLoop (gLoopL tLK) 100 st = some (.next, st') ∧ st'.get 7 = some (.d (.int (bLK L x lo hi))) :=
  wh_bis (n := L.length) (t := tLoop) (g := gLoopL tLK) (r := fun m => strLt (kN L m) x) (fun st lo hi S => tLoop_eq S)
    (fun st lo hi h1 h2 S => gLoopL_step (q := tLK) (r := fun m => strLt (kN L m) x) S (tLK_eq S (by lia) (by lia))) 100 _ lo hi hh (by lia) S
theorem f_brightK0 (hl : L.length ≤ 99) : f_brightK [.d (.list (eL L)), .d (.str x), .d (.int lo), .d .none] = some (.int (bRK L x lo L.length)) := by
  obtain ⟨st', e, e7⟩ := whRK (x := x) (lo := lo) (hi := L.length) (st := St.set [(0, .d (.list (eL L))), (6, .d (.str x)), (7, .d (.int lo)), (8, .d .none), (9, .fn)] 8 (.d (.int ((eL L).length : Nat)))) hl (Nat.le_refl _) ⟨rfl, rfl, rfl, by rw [eL_len]; rfl, rfl⟩
  show outOf (bHead (bTail _ (whGo tLoop (gLoopR tRK) 100)) _) = _
  rw [head_none rfl rfl rfl (by rw [eL_len]; lia) (tail_key rfl e e7)]; rfl
theorem f_bleftK0 (hl : L.length ≤ 99) : f_bleftK [.d (.list (eL L)), .d (.str x), .d (.int lo), .d .none] = some (.int (bLK L x lo L.length)) := by
  obtain ⟨st', e, e7⟩ := whLK (x := x) (lo := lo) (hi := L.length) (st := St.set [(0, .d (.list (eL L))), (6, .d (.str x)), (7, .d (.int lo)), (8, .d .none), (9, .fn)] 8 (.d (.int ((eL L).length : Nat)))) hl (Nat.le_refl _) ⟨rfl, rfl, rfl, by rw [eL_len]; rfl, rfl⟩
  show outOf (bHead (bTail _ (whGo tLoop (gLoopL tLK) 100)) _) = _
  rw [head_none rfl rfl rfl (by rw [eL_len]; lia) (tail_key rfl e e7)]; rfl
theorem f_brightK2 (hl : L.length ≤ 99) : f_brightK [.d (.list (eL L)), .d (.str x)] = some (.int (bRK L x 0 L.length)) := f_brightK0 (lo := 0) hl
theorem f_bleftK2 (hl : L.length ≤ 99) : f_bleftK [.d (.list (eL L)), .d (.str x)] = some (.int (bLK L x 0 L.length)) := f_bleftK0 (lo := 0) hl
theorem f_insort_ent (hl : L.length ≤ 99) (p : Ent) : f_insort (eL L) (ent p) = some (eL (L.take (bRK L p.2 0 L.length) ++ p :: L.drop (bRK L p.2 0 L.length))) := by
  have hb : bRK L p.2 0 L.length ≤ L.length := (bis_range (fun m => !strLt p.2 (kN L m)) 100 0 L.length (Nat.zero_le _)).2
  have hc : c_ins (insSt 0 6 7 8 9 (eL L) (ent p)) = some (.d (.int (bRK L p.2 0 L.length))) := by
    have hk : eKCall 9 f_key (eVar 6) (insSt 0 6 7 8 9 (eL L) (ent p)) = some (.d (.str p.2)) := v_key rfl rfl
    have hf : lCons (eVar 0) (lCons (eKCall 9 f_key (eVar 6)) (lCons (eVar 7) (lCons (eVar 8) lNil))) (insSt 0 6 7 8 9 (eL L) (ent p)) = some [.own (eL L), .d (.str p.2), .d (.int (0 : Nat)), .d .none] := by
      unfold lCons lNil
      rw [hk]; rfl
    have hu : ucallOp f_brightK [.own (eL L), .d (.str p.2), .d (.int (0 : Nat)), .d .none] = some (.d (.int (bRK L p.2 0 L.length))) := by
      show (f_brightK [.d (.list (eL L)), .d (.str p.2), .d (.int (0 : Nat)), .d .none]).bind (fun r => cond (scalar r) (some (LV.d r)) none) = some (LV.d (PyData.int ((bRK L p.2 0 L.length : Nat) : Int)))
      rw [f_brightK0 hl]; rfl
    show (eCall f_brightK (lCons (eVar 0) (lCons (eKCall 9 f_key (eVar 6)) (lCons (eVar 7) (lCons (eVar 8) lNil))) ) (insSt 0 6 7 8 9 (eL L) (ent p))) = _
    unfold eCall
    rw [hf]
    exact hu
  unfold f_insort insF
  rw [hc]
  have ht : t_ins (insSt 0 6 7 8 9 (eL L) (ent p)) = some false := rfl
  rw [ht]
  generalize bRK L p.2 0 L.length = k at hb ⊢
  simp only [Option.bind_some, cond_false]
  have hi : ∀ st : St, st.get 0 = some (.own (eL L)) → st.get 7 = some (.d (.int (k : Int))) → st.get 6 = some (.d (ent p)) → m_ins st = some (.d .none, st.set 0 (.own (insAt (eL L) k (ent p)))) := fun st h0 h7 h6 => by
    have ho : ownOf st 0 = some (eL L) := by unfold ownOf; rw [h0]
    unfold m_ins mInsert
    rw [ho, v_int (f := eVar 7) h7]
    simp only [Option.bind_some, mV]
    rw [show eVar 6 st = some (.d (ent p)) from h6]
    simp only [Option.map_some, Option.bind_some, ho]
    rw [Nat.ble_eq_true_of_le (show (eL L).length ≤ 1000000 by rw [eL_len]; lia), if_pos ⟨by lia, by rw [eL_len]; lia⟩]
    rfl
  rw [hi _ rfl rfl rfl]
  simp only [Option.bind_some]
  unfold ownOf
  rw [St.get_set]
  show some (insAt (eL L) k (ent p)) = _
  congr 1
  unfold insAt eL
  rw [List.map_append, List.map_cons, List.map_take, List.map_drop]
end
end Mine
end

section
open PySem PySem.W PyProof.Rows PySem.Calls
namespace Mine
noncomputable def pickA {α : Type} (xs : List α) (lo hi st : Option Int) : List α :=
  (sliceRange (sliceBounds lo hi st xs.length).1 (sliceBounds lo hi st xs.length).2.1 (sliceBounds lo hi st xs.length).2.2).filterMap (xs[·]?)
theorem pickD_map {α : Type} (f : α → PyData) (xs : List α) (lo hi st : Option Int) : pickD (xs.map f) lo hi st = (pickA xs lo hi st).map f := by
  unfold pickD pickA
  rw [List.length_map, List.map_filterMap]
  congr 1
  funext k
  rw [List.getElem?_map]
theorem filter_run {α : Type} (xs : List α) (a : Nat) : ∀ n : Nat, ((List.range n).map (a + ·)).filterMap (xs[·]?) = (xs.drop a).take n
  | 0 => by first | rfl | exact .head _ | exact .tail _ (.head _) | exact if_pos rfl | exact (if_neg (by decide)).trans rfl | simp
  | n + 1 => by
    rw [List.range_succ, List.map_append, List.filterMap_append, filter_run xs a n, List.take_add_one, List.getElem?_drop]
    cases h : xs[a + n]? with
    | none => simp [h]
    | some v => simp [h]
theorem pickA_plain {α : Type} (xs : List α) (lo hi : Option Int) (a b : Nat) (h : sliceBounds lo hi none xs.length = ((a : Int), (b : Int), 1)) : pickA xs lo hi none = (xs.drop a).take (b - a) := by
  unfold pickA
  rw [h]
  show (sliceRange (a : Int) (b : Int) 1).filterMap _ = _
  rw [sliceRange_one, filter_run]
theorem bounds_pos (lo hi : Option Int) (n : Nat) : sliceBounds lo hi none n = ((match lo with | none => 0 | some i => max 0 (min (if i < 0 then i + n else i) n)), (match hi with | none => (n : Int) | some i => max 0 (min (if i < 0 then i + n else i) n)), 1) := by
  cases lo <;> cases hi <;> rfl
theorem clip_nat (i n : Nat) : max 0 (min (if (i : Int) < 0 then (i : Int) + n else i) n) = ((min i n : Nat) : Int) := by
  rw [if_neg (Int.not_lt.mpr (Int.natCast_nonneg i))]
  by_cases h : i ≤ n
  · rw [Nat.min_eq_left h, Int.min_eq_left (Int.ofNat_le.mpr h)]; exact Int.max_eq_right (Int.natCast_nonneg i)
  · have h := Nat.le_of_not_le h
    rw [Nat.min_eq_right h, Int.min_eq_right (Int.ofNat_le.mpr h)]; exact Int.max_eq_right (Int.natCast_nonneg n)
theorem take_min {α : Type} (xs : List α) (b : Nat) : xs.take (min b xs.length) = xs.take b := List.take_eq_take_min.symm
theorem pickA_upto {α : Type} (xs : List α) (b : Nat) : pickA xs none (some (b : Int)) none = xs.take b := by
  rw [pickA_plain xs none (some (b : Int)) 0 (min b xs.length) ((bounds_pos _ _ _).trans (congrArg (fun z => ((0 : Int), z, (1 : Int))) (clip_nat b _)))]
  exact take_min xs b
theorem pickA_run {α : Type} (xs : List α) (a b : Nat) : pickA xs (some (a : Int)) (some (b : Int)) none = (xs.take b).drop a := by
  rw [pickA_plain xs (some (a : Int)) (some (b : Int)) (min a xs.length) (min b xs.length) ((bounds_pos _ _ _).trans (by show (max 0 _, max 0 _, _) = _; rw [clip_nat, clip_nat]))]
  by_cases h : a ≤ xs.length
  · rw [Nat.min_eq_left h, ← List.drop_take, take_min]
  · have h := Nat.le_of_not_le h
    rw [Nat.min_eq_right h, List.drop_length, List.take_nil, List.drop_of_length_le (Nat.le_trans (by rw [List.length_take]; exact Nat.min_le_right _ _) h)]
theorem pickA_from {α : Type} (xs : List α) (a : Nat) : pickA xs (some (a : Int)) none none = xs.drop a := by
  rw [pickA_plain xs (some (a : Int)) none (min a xs.length) xs.length ((bounds_pos _ _ _).trans (congrArg (fun z => (z, (xs.length : Int), (1 : Int))) (clip_nat a _)))]
  by_cases h : a ≤ xs.length
  · rw [Nat.min_eq_left h]
    exact List.take_of_length_le (by rw [List.length_drop]; exact Nat.le_refl _)
  · have h := Nat.le_of_not_le h
    rw [Nat.min_eq_right h, List.drop_length, List.drop_of_length_le h, List.take_nil]
theorem pickA_rev {α : Type} (xs : List α) : pickA xs none none (some (-1)) = xs.reverse := by
  unfold pickA
  rw [krv_bounds]
  show (sliceRange ((xs.length : Int) - 1) (-1) (-1)).filterMap _ = _
  rw [krv_sliceRange, krv_range, List.filterMap_reverse]
  have h := filter_run xs 0 xs.length
  have e : (List.range xs.length).map (0 + ·) = List.range xs.length := by
    rw [show ((0 + ·) : Nat → Nat) = id from funext fun k => Nat.zero_add k, List.map_id]
  rw [e, List.drop_zero, List.take_length] at h
  rw [h]
end Mine
end

section
open PySem PySem.W PyProof.Rows PySem.Calls
namespace Mine
theorem get_same (st : St) (i : Nat) (v : LV) : (st.set i v).get i = some v := by rw [St.get_set, if_pos rfl]
theorem get_ne {st : St} {i k : Nat} {v : LV} {r : Option LV} (h : st.get k = r) (hne : k ≠ i) : (st.set i v).get k = r := by rw [St.get_set, if_neg hne]; exact h
theorem get_neE {s s' : St} {i k : Nat} {v : LV} {r : Option LV} (h : s.get k = r) (hne : k ≠ i) (e : s.set i v = s') : s'.get k = r := e ▸ get_ne h hne
theorem get_sameE {s s' : St} {i : Nat} {v : LV} (e : s.set i v = s') : s'.get i = some v := e ▸ get_same ..
theorem ble_mil {n : Nat} (h : n ≤ 1000) : Nat.ble n 1000000 = true := Nat.ble_eq_true_of_le (Nat.le_trans h (by lia))
theorem condcond {α : Type} {B C : Bool} (x : Option α) (hB : B = true) (hC : C = true) : cond B (cond C x none) none = x := by subst hB hC; rfl
theorem rangeOf_eq {a b c : Int} {k : Nat} (h1 : Builtin.Range.small a b c = true) (h2 : Builtin.Range.rangeSize a b c = (k : Int)) (h3 : k ≤ 1000) : rangeOf a b c = some (rangeD a c k) := by
  have e : (Builtin.Range.rangeSize a b c).toNat = k := by rw [h2, Int.toNat_natCast]
  have hC : Nat.ble (Builtin.Range.rangeSize a b c).toNat 1000000 = true := by rw [e]; exact ble_mil h3
  have t := condcond (some (rangeD a c (Builtin.Range.rangeSize a b c).toNat)) h1 hC
  have u : rangeOf a b c = some (rangeD a c (Builtin.Range.rangeSize a b c).toNat) := t
  rw [u, e]
theorem range_up (a b : Nat) (ha : a ≤ 1000) (h : b ≤ 1000) : rangeOf (a : Int) (b : Int) 1 = some ((List.range (b - a)).map fun i => .int ((a + i : Nat) : Int)) := by
  have hs : Builtin.Range.rangeSize (a : Int) (b : Int) 1 = ((b - a : Nat) : Int) := by
    unfold Builtin.Range.rangeSize
    rw [if_pos (by decide)]
    by_cases q : (a : Int) < b
    · rw [if_pos q, Int.ediv_one]; lia
    · rw [if_neg q]; lia
  rw [rangeOf_eq (k := b - a) (small_one (by lia) (by lia) (by lia) (by lia)) hs (by lia)]
  unfold rangeD
  refine congrArg some (List.map_congr_left fun i _ => congrArg PyData.int ?_)
  lia
theorem range_down (n : Nat) (h : n ≤ 1000) : rangeOf (n : Int) 0 (-1) = some ((List.range n).map fun i => .int ((n - i : Nat) : Int)) := by
  have hs : Builtin.Range.rangeSize (n : Int) 0 (-1) = (n : Int) := by
    unfold Builtin.Range.rangeSize
    rw [if_neg (by decide)]
    by_cases q : (n : Int) > 0
    · rw [if_pos q]; show ((n : Int) - 0 - 1) / 1 + 1 = _; rw [Int.ediv_one]; lia
    · rw [if_neg q]; lia
  rw [rangeOf_eq (k := n) (small_down (by lia) (by lia) (by lia) (by lia)) hs (by omega)]
  unfold rangeD
  refine congrArg some (List.map_congr_left fun i hi => congrArg PyData.int ?_)
  have := List.mem_range.mp hi
  lia
noncomputable def iRG (R : Int → Int → Int → Option (List PyData)) (fs : St → Option (List LV)) : St → Option (List PyData) := fun st => (fs st).bind fun ls => (intsOf ls).bind fun is => match is with
  | [b] => R 0 b 1
  | [a, b] => R a b 1
  | [a, b, c] => if c = -1 then R a b (-1) else none
  | _ => none
theorem iRG_eq : iRange = iRG rangeOf := rfl
theorem iRG1 (R : Int → Int → Int → Option (List PyData)) {fs : St → Option (List LV)} {st : St} {b : Int} {r : Option (List PyData)} (h : fs st = some [.d (.int b)]) (k : R 0 b 1 = r) : iRG R fs st = r := by unfold iRG; rw [h]; exact k
theorem iRG2 (R : Int → Int → Int → Option (List PyData)) {fs : St → Option (List LV)} {st : St} {a b : Int} {r : Option (List PyData)} (h : fs st = some [.d (.int a), .d (.int b)]) (k : R a b 1 = r) : iRG R fs st = r := by unfold iRG; rw [h]; exact k
theorem iRG3 (R : Int → Int → Int → Option (List PyData)) {fs : St → Option (List LV)} {st : St} {a b : Int} {r : Option (List PyData)} (h : fs st = some [.d (.int a), .d (.int b), .d (.int (-1))]) (k : R a b (-1) = r) : iRG R fs st = r := by unfold iRG; rw [h]; exact k
section
variable {st : St} {f g k : St → Option LV}
theorem v_range1 {n : Nat} (h : f st = some (.d (.int (n : Int)))) (hn : n ≤ 1000) : iRange (lCons f lNil) st = some ((List.range n).map fun i => .int (i : Int)) := by
  have e := range_up 0 n (by (first | assumption | exact Nat.le_refl _ | exact Nat.zero_le _ | exact Nat.lt_succ_self _ | exact Nat.le_of_lt (by assumption) | exact Nat.succ_le_of_lt (by assumption) | lia)) hn
  rw [iRG_eq]
  refine iRG1 rangeOf (by unfold lCons lNil; simp only [h, Option.bind_some]) (e.trans ?_)
  simp
theorem v_range2 {a b : Nat} (hf : f st = some (.d (.int (a : Int)))) (hg : g st = some (.d (.int (b : Int)))) (ha : a ≤ 1000) (hb : b ≤ 1000) : iRange (lCons f (lCons g lNil)) st = some ((List.range (b - a)).map fun i => .int ((a + i : Nat) : Int)) := by
  rw [iRG_eq]
  exact iRG2 rangeOf (by unfold lCons lNil; simp only [hf, hg, Option.bind_some]) (range_up a b ha hb)
theorem v_range3 {n : Nat} (hf : f st = some (.d (.int (n : Int)))) (hg : g st = some (.d (.int 0))) (hk : k st = some (.d (.int (-1)))) (hn : n ≤ 1000) : iRange (lCons f (lCons g (lCons k lNil))) st = some ((List.range n).map fun i => .int ((n - i : Nat) : Int)) := by
  rw [iRG_eq]
  exact iRG3 rangeOf (by unfold lCons lNil; simp only [hf, hg, hk, Option.bind_some]) (range_down n hn)
theorem v_sum {l : List Nat} {lv : LV} (h : f st = some lv) (hl : lv.lst = some (nI l)) : eN oSum (lCons f lNil) st = some (.d (.int ((l.sum : Nat) : Int))) := by
  have hz : zsOf (nI l) = some (l.map fun (x : Nat) => (x : Int)) := by
    clear hl
    unfold nI
    induction l with
    | nil => rfl
    | cons x l ih => show (zsOf (l.map fun (k : Nat) => PyData.int (k : Int))).map (((x : Nat) : Int) :: ·) = _; rw [ih]; rfl
  have hs : (l.map fun (x : Nat) => (x : Int)).sum = ((l.sum : Nat) : Int) := by
    clear hz h hl
    induction l with
    | nil => rfl
    | cons x l ih => simp only [List.map_cons, List.sum_cons, ih]; lia
  unfold eN lCons lNil
  rw [h]
  simp only [Option.bind_some, oSum, hl, hz, hs, retI]
theorem v_len {lv : LV} {xs : List PyData} (h : f st = some lv) (hl : lv.lst = some xs) (hn : xs.length ≤ 1000) : eN oLen (lCons f lNil) st = some (.d (.int (xs.length : Int))) := by
  unfold eN lCons lNil
  rw [h]
  simp only [Option.bind_some]
  have e : oLen [lv] = lv.lst.bind fun xs => cond (Nat.ble xs.length 1000000) (retI xs.length) none := by
    cases lv with
    | d p => cases p <;> first | rfl | (cases hl; done)
    | own _ => rfl
    | arg _ => rfl
    | fn => rfl
  simp only [e, hl, Option.bind_some, ble_mil hn, cond_true, retI]
theorem v_add {a b : Nat} (hf : f st = some (.d (.int (a : Int)))) (hg : g st = some (.d (.int (b : Int)))) : e2 oAdd f g st = some (.d (.int ((a + b : Nat) : Int))) := v_e2 hf hg rfl
theorem v_sub {a b : Nat} (hf : f st = some (.d (.int (a : Int)))) (hg : g st = some (.d (.int (b : Int)))) (h : b ≤ a) : e2 oSub f g st = some (.d (.int ((a - b : Nat) : Int))) := v_e2 hf hg (by unfold oSub retI; dsimp only; congr 3; lia)
theorem v_mod {a b : Nat} (hf : f st = some (.d (.int (a : Int)))) (hg : g st = some (.d (.int (b : Int)))) (h : 0 < b) : e2 oMod f g st = some (.d (.int ((a % b : Nat) : Int))) := v_e2 hf hg (by
  unfold oMod retI; dsimp only; rw [if_neg (by lia)]; congr 3
  rw [Int.fmod_eq_emod_of_nonneg _ (by lia)]; rfl)
theorem v_lt {a b : Nat} (hf : f st = some (.d (.int (a : Int)))) (hg : g st = some (.d (.int (b : Int)))) : tOf truth (e2 oLt f g) st = some (decide (a < b)) := v_tOf (v_e2 hf hg (by rw [lt_nat, blt_dec]))
theorem v_gt {a b : Nat} (hf : f st = some (.d (.int (a : Int)))) (hg : g st = some (.d (.int (b : Int)))) : tOf truth (e2 oGt f g) st = some (decide (b < a)) := v_tOf (v_e2 hf hg (by
  unfold oGt retB; dsimp only; congr 3; exact decide_eq_decide.mpr Int.ofNat_lt))
theorem v_eqI {a b : Int} (hf : f st = some (.d (.int a))) (hg : g st = some (.d (.int b))) : tOf truth (e2 oEq f g) st = some (decide (a = b)) := v_tOf (v_e2 hf hg (by
  have h : eqOk (.int a) (.int b) = true := by simp [eqOk, PyData.canLay0, PyData.depth]
  have e : PyData.eqv (.int a) (.int b) = decide (a = b) := by
    by_cases q : a = b <;> simp [PyData.eqv, q]
  unfold oEq
  rw [h, e]; rfl))
theorem v_neI {a b : Int} (hf : f st = some (.d (.int a))) (hg : g st = some (.d (.int b))) : tOf truth (e2 oNe f g) st = some (!decide (a = b)) := v_tOf (v_e2 hf hg (by
  have h : eqOk (.int a) (.int b) = true := by simp [eqOk, PyData.canLay0, PyData.depth]
  have e : PyData.eqv (.int a) (.int b) = decide (a = b) := by
    by_cases q : a = b <;> simp [PyData.eqv, q]
  unfold oNe
  rw [h, e]; rfl))
theorem v_last {lv : LV} {xs : List PyData} {d : PyData} (hf : f st = some lv) (hl : lv.lst = some xs) (hd : xs.getLast? = some d) : eIdx f (e1 oNeg (eC (.int 1))) st = some (.d d) := by
  have hg : e1 oNeg (eC (.int 1)) st = some (.d (.int (-1))) := rfl
  have hp : pick xs (-1) = some d := by
    rw [List.getLast?_eq_getElem?] at hd
    have hlen : 0 < xs.length := by
      cases xs with
      | nil => simp at hd
      | cons _ _ => simp
    unfold pick
    rw [if_neg (by decide), if_pos ⟨by decide, by lia⟩, show (-1 + (xs.length : Int)).toNat = xs.length - 1 by lia]
    exact hd
  exact Option.bind_eq_some_iff.mpr ⟨xs, v_lst hf hl, Option.bind_eq_some_iff.mpr ⟨_, v_int hg, Option.map_eq_some_iff.mpr ⟨d, hp, rfl⟩⟩⟩
theorem p_some {i : Int} (h : f st = some (.d (.int i))) : pSome f st = some (some i) := by unfold pSome; rw [v_int h]; rfl
theorem v_slice {a b c : St → Option (Option Int)} {lv : LV} {xs : List PyData} {lo hi stp : Option Int} (hf : f st = some lv) (hl : lv.lst = some xs) (ha : a st = some lo) (hb : b st = some hi) (hc : c st = some stp) (h0 : stp ≠ some 0) (hn : xs.length ≤ 1000) : eSlice f a b c st = some (pickD xs lo hi stp) := by
  unfold eSlice
  simp only [v_lst hf hl, ha, hb, hc, Option.bind_some, if_neg h0, ble_mil hn, cond_true]
theorem fz {h : St → Option (List PyData)} {xs : List PyData} (e : h st = some xs) : fzF h st = some (.d (.list xs)) := by unfold fzF; rw [e]; rfl
theorem nI_pick (l : List Nat) (lo hi s : Option Int) : pickD (nI l) lo hi s = nI (pickA l lo hi s) := pickD_map _ _ _ _ _
theorem v_upto {l : List Nat} {lv : LV} {b : Nat} (hf : f st = some lv) (hl : lv.lst = some (nI l)) (hg : g st = some (.d (.int (b : Int)))) (hn : l.length ≤ 1000) : fzF (eSlice f pNone (pSome g) pNone) st = some (.d (.list (nI (l.take b)))) :=
  fz (by rw [v_slice hf hl rfl (p_some hg) rfl (by simp) (by rw [nI_len]; exact hn), nI_pick, pickA_upto])
theorem v_from {l : List Nat} {lv : LV} {a : Nat} (hf : f st = some lv) (hl : lv.lst = some (nI l)) (hg : g st = some (.d (.int (a : Int)))) (hn : l.length ≤ 1000) : fzF (eSlice f (pSome g) pNone pNone) st = some (.d (.list (nI (l.drop a)))) :=
  fz (by rw [v_slice hf hl (p_some hg) rfl rfl (by simp) (by rw [nI_len]; exact hn), nI_pick, pickA_from])
theorem v_run {l : List Nat} {lv : LV} {a b : Nat} (hf : f st = some lv) (hl : lv.lst = some (nI l)) (hg : g st = some (.d (.int (a : Int)))) (hk : k st = some (.d (.int (b : Int)))) (hn : l.length ≤ 1000) : fzF (eSlice f (pSome g) (pSome k) pNone) st = some (.d (.list (nI ((l.take b).drop a)))) :=
  fz (by rw [v_slice hf hl (p_some hg) (p_some hk) rfl (by simp) (by rw [nI_len]; exact hn), nI_pick, pickA_run])
theorem v_min {a b : Nat} (hf : f st = some (.d (.int (a : Int)))) (hg : g st = some (.d (.int (b : Int)))) : eN oMin (lCons f (lCons g lNil)) st = some (.d (.int ((min a b : Nat) : Int))) := by
  unfold eN lCons lNil
  rw [hf, hg]
  show retI (if (b : Int) < a then b else a) = _
  by_cases h : b < a
  · rw [if_pos (by lia), Nat.min_eq_right (by (first | assumption | exact Nat.le_refl _ | exact Nat.zero_le _ | exact Nat.lt_succ_self _ | exact Nat.le_of_lt (by assumption) | exact Nat.succ_le_of_lt (by assumption) | lia))]; rfl
  · rw [if_neg (by lia), Nat.min_eq_left (by lia)]; rfl
theorem v_ite {c : St → Option Bool} {b : Bool} {r : Option LV} (hc : c st = some b) (h : cond b (f st) (g st) = r) : eIf c f g st = r := by unfold eIf; rw [hc]; exact h
theorem v_l1 {p : PyData} (hf : f st = some (.d p)) : lCons f lNil st = some [.d p] := by unfold lCons lNil; rw [hf]; rfl
theorem v_l2 {p q : PyData} (hf : f st = some (.d p)) (hg : g st = some (.d q)) : lCons f (lCons g lNil) st = some [.d p, .d q] := by unfold lCons lNil; rw [hf, hg]; rfl
theorem v_lc {fs : St → Option (List LV)} {lv : LV} {ls : List LV} (hf : f st = some lv) (hg : fs st = some ls) : lCons f fs st = some (lv :: ls) := by unfold lCons; rw [hf, hg]; rfl
theorem v_callD {F : List LV → Option PyData} {fs : St → Option (List LV)} {ls : List LV} {r : PyData} (hf : fs st = some ls) (hp : ls.all plainLV = true) (hF : F ls = some r) : eCall F fs st = some (.d r) := by
  unfold eCall; rw [hf]; simp only [Option.bind_some]
  unfold ucallOp; rw [hp, hF]; rfl
end
theorem comp_filter {t : St → Option Bool} {f : St → Option LV} {mk : PyData → St} {α : Type} (enc val : α → PyData) (p : α → Bool) : ∀ (l : List α), (∀ a ∈ l, t (mk (enc a)) = some (p a) ∧ (p a = true → f (mk (enc a)) = some (.d (val a)) ∧ scalar (val a) = true)) → compGo t f mk (l.map enc) = some ((l.filter p).map val) := by
  intro l
  induction l with
  | nil =>
    intro _
    exact rfl
  | cons a l ih =>
    intro h
    have ih := ih fun b hb => h b (.tail _ hb)
    obtain ⟨h1, h2⟩ := h a (.head _)
    show (t (mk (enc a))).bind _ = _
    rw [h1, Option.bind_some]
    cases q : p a with
    | false => rw [List.filter_cons_of_neg (by rw [q]; decide)]; simp only [cond_false]; exact ih
    | true =>
      obtain ⟨h3, h4⟩ := h2 q
      rw [List.filter_cons_of_pos q]
      simp only [cond_true, h3, Option.bind_some, h4, ih, Option.map_some, List.map_cons]
theorem comp_map {f : St → Option LV} {mk : PyData → St} {α : Type} (enc val : α → PyData) (l : List α) (h : ∀ a ∈ l, f (mk (enc a)) = some (.d (val a)) ∧ scalar (val a) = true) : compGo tTrue f mk (l.map enc) = some (l.map val) := by
  have := comp_filter (t := tTrue) (f := f) (mk := mk) enc val (fun _ => true) l fun a ha => ⟨rfl, fun _ => h a ha⟩
  rw [this]
  congr 2
  exact List.filter_eq_self.mpr fun _ _ => rfl
theorem mkC_x {xi : Nat} {fr : List Nat} {st : St} {d : PyData} : (mkC xi fr st d).get xi = some (.d d) := by unfold mkC; simp [St.get, beq_dec]
theorem mkC_get {xi : Nat} {fr : List Nat} {st : St} {d : PyData} {j : Nat} {lv : LV} (h : st.get j = some lv) (hj : j ∈ fr) (hne : j ≠ xi) : (mkC xi fr st d).get j = some lv := by
  unfold mkC
  simp only [St.get, beq_dec, hne, decide_false, cond_false]
  unfold compSt
  clear hne
  induction fr with
  | nil => cases hj
  | cons i r ih =>
    rw [List.filterMap_cons]
    by_cases q : j = i
    · subst q
      rw [h]
      simp [St.get, beq_dec]
    · have hj' : j ∈ r := by
        rcases List.mem_cons.mp hj with e | e
        · exact absurd e q
        · exact e
      cases w : st.get i with
      | none => simpa [w] using ih hj'
      | some v => simp only [Option.map_some, St.get, beq_dec, q, decide_false, cond_false]; exact ih hj'
end Mine
end

section
open PySem PySem.W PyProof.Rows PySem.Calls
namespace Mine
noncomputable def rk0 : St → Option (Fl × St) := (sAssign 57 (eIf (tOf truth (e2 oIn (eVar 12) (eVar 30))) (eC (.int 0)) (e2 oAdd (eIdx (eVar 35) (e1 oNeg (eC (.int 1)))) (eC (.int 1)))))
noncomputable def rk1 : St → Option (Fl × St) := (sAssign 58 (eIf (tOf truth (e2 oIn (eVar 12) (eVar 30))) (e2 oAdd (eIdx (eVar 35) (e1 oNeg (eC (.int 1)))) (eC (.int 1))) (e2 oAdd (eVar 12) (eC (.int 1)))))
noncomputable def rk2 : St → Option (Fl × St) := (sAssignC 36 (eComp 25 [31, 12] (iRange (lCons (e2 oAdd (eVar 12) (eC (.int 1))) lNil)) tTrue (eN oSum (lCons (fzF (eSlice (eIdx (eVar 31) (eVar 12)) pNone (pSome (e2 oAdd (eVar 25) (eC (.int 1)))) pNone)) lNil))))
noncomputable def rk3 : St → Option (Fl × St) := (sAssignC 37 (eComp 25 [31, 12, 57, 58] (iRange (lCons (e2 oAdd (eVar 12) (eC (.int 1))) lNil)) tTrue (eN oSum (lCons (fzF (eSlice (eIdx (eVar 31) (eVar 12)) (pSome (eVar 57)) (pSome (eN oMin (lCons (e2 oAdd (eVar 25) (eC (.int 1))) (lCons (eVar 58) lNil)))) pNone)) lNil))))
noncomputable def rk4 : St → Option (Fl × St) := (sIf (tOf truth (e2 oNe (fzF (eList (lCons (eCall (f_bright) (lCons (eVar 37) (lCons (eC (.int 0)) lNil))) (lCons (eCall (f_bleft) (lCons (eVar 37) (lCons (eIdx (eVar 37) (e1 oNeg (eC (.int 1)))) lNil))) lNil)))) (fzF (eList (lCons (eVar 57) (lCons (e2 oSub (eVar 58) (eC (.int 1))) lNil)))))) (sSeq (sRetV (eC .none)) sNil) sNil)
noncomputable def rk5 : St → Option (Fl × St) := (sAug 11 oIadd (eN oSum (lCons (fzF (eSlice (eIdx (eVar 31) (eVar 12)) pNone (pSome (eVar 57)) pNone)) lNil)))
noncomputable def rk6 : St → Option (Fl × St) := (sAssign 34 (eCall (f_bright) (lCons (eVar 36) (lCons (eVar 11) (lCons (eVar 57) (lCons (eVar 58) lNil))))))
noncomputable def rk7 : St → Option (Fl × St) := (sIf (tOf truth (e2 oEq (eVar 34) (eVar 58))) (sSeq (sRetV (fzF (eList lNil))) sNil) sNil)
noncomputable def rk8 : St → Option (Fl × St) := (sIf (tOf truth (e2 oNe (eCall (f_bleft) (lCons (eVar 36) (lCons (e2 oAdd (eVar 11) (eC (.int 1))) (lCons (eVar 57) (lCons (eVar 58) lNil))))) (eVar 34))) (sSeq (sRetV (eC .none)) sNil) sNil)
noncomputable def rk9 : St → Option (Fl × St) := (sIf (tOf truth (e2 oNe (fzF (eList (lCons (eCall (f_bleft) (lCons (eVar 36) (lCons (eC (.int 0)) (lCons (eVar 34) lNil)))) (lCons (eCall (f_bright) (lCons (eVar 36) (lCons (eC (.int 0)) (lCons (eVar 34) lNil)))) lNil)))) (fzF (eList (lCons (eVar 34) (lCons (eVar 34) lNil)))))) (sSeq (sRetV (eC .none)) sNil) sNil)
noncomputable def rk10 : St → Option (Fl × St) := (sAssign 38 (e2 oAdd (eIdx (eVar 36) (e1 oNeg (eC (.int 1)))) (eC (.int 1))))
noncomputable def rk11 : St → Option (Fl × St) := (sIf (tOf truth (e2 oNe (fzF (eList (lCons (eCall (f_bleft) (lCons (eVar 36) (lCons (eVar 38) (lCons (eC (.int 0)) (lCons (eVar 34) lNil))))) (lCons (eCall (f_bright) (lCons (eVar 36) (lCons (eVar 38) (lCons (eC (.int 0)) (lCons (eVar 34) lNil))))) lNil)))) (fzF (eList (lCons (eVar 34) (lCons (eVar 34) lNil)))))) (sSeq (sRetV (eC .none)) sNil) sNil)
noncomputable def rk12 : St → Option (Fl × St) := (sAug 11 oSub (eN oSum (lCons (fzF (eSlice (eIdx (eVar 31) (eVar 12)) pNone (pSome (eVar 34)) pNone)) lNil)))
noncomputable def rk13 : St → Option (Fl × St) := (sExpr (mAppend 35 (mV (eVar 34))))
noncomputable def ranksBody : St → Option (Fl × St) := (sSeq rk0 (sSeq rk1 (sSeq rk2 (sSeq rk3 (sSeq rk4 (sSeq rk5 (sSeq rk6 (sSeq rk7 (sSeq rk8 (sSeq rk9 (sSeq rk10 (sSeq rk11 (sSeq rk12 (sSeq rk13 sNil))))))))))))))
theorem g_ranks_eq : g_ranks = sSeq (sAssignF 35 (eList (lCons (eC (.int 0)) lNil))) (sSeq (sFor 12 (iRange (lCons (eC (.int 1)) (lCons (eN oLen (lCons (eVar 31) lNil)) lNil))) ranksBody) (sSeq (sRet (eVar 35)) sNil)) := rfl
noncomputable def wD (ways : List (List Nat)) : PyData := .list (ways.map fun W => .list (nI W))
noncomputable def wN (ways : List (List Nat)) (p : Nat) : List Nat := (ways[p]?).getD []
structure RkSt (falls : List Nat) (ways : List (List Nat)) (ranks : List Nat) (number : Nat) (st : St) : Prop where
  h30 : st.get 30 = some (.d (.list (nI falls)))
  h31 : st.get 31 = some (.d (wD ways))
  h35 : st.get 35 = some (.own (nI ranks))
  h11 : st.get 11 = some (.d (.int (number : Int)))
noncomputable def sumsOf (W : List Nat) (p : Nat) : List Nat := (List.range (p + 1)).map fun k => (W.take (k + 1)).sum
noncomputable def flatOf (W : List Nat) (p lo hi : Nat) : List Nat := (List.range (p + 1)).map fun k => ((W.take (min (k + 1) hi)).drop lo).sum
theorem sums_len {W : List Nat} {p : Nat} : (sumsOf W p).length = p + 1 := by unfold sumsOf; simp
theorem flat_len {W : List Nat} {p lo hi : Nat} : (flatOf W p lo hi).length = p + 1 := by unfold flatOf; simp
theorem nI_okAll : ∀ l : List Nat, PyData.canLayAll0 (nI l) = true ∧ PyData.depthAll (nI l) = 0
  | [] => ⟨rfl, rfl⟩
  | k :: l => by
    obtain ⟨a, b⟩ := nI_okAll l
    unfold nI at a b ⊢
    simp only [List.map_cons, PyData.canLayAll0, PyData.canLay0, PyData.depthAll, PyData.depth, a, b]
    exact ⟨rfl, rfl⟩
theorem eqv_nat (a b : Nat) : PyData.eqv (.int (a : Int)) (.int (b : Int)) = (a == b) := by
  show ((a : Int) == (b : Int)) = _
  by_cases h : a = b
  · subst h; simp
  · rw [beq_eq_false_iff_ne.mpr h, beq_eq_false_iff_ne.mpr (by (first | assumption | exact Nat.le_refl _ | exact Nat.zero_le _ | exact Nat.lt_succ_self _ | exact Nat.le_of_lt (by assumption) | exact Nat.succ_le_of_lt (by assumption) | lia))]
theorem any_nat (x : Nat) : ∀ l : List Nat, ((nI l).any fun y => PyData.eqv y (.int (x : Int))) = l.contains x
  | [] => rfl
  | k :: l => by
    have ih := any_nat x l
    unfold nI at ih ⊢
    rw [List.map_cons, List.any_cons, ih, eqv_nat, List.contains_cons]
    congr 1
    by_cases h : k = x
    · subst h; rfl
    · rw [beq_eq_false_iff_ne.mpr h, beq_eq_false_iff_ne.mpr (Ne.symm h)]
section
variable {st : St} {f g a b c d : St → Option LV}
theorem v_in {x : Nat} {l : List Nat} (hf : f st = some (.d (.int (x : Int)))) (hg : g st = some (.d (.list (nI l)))) : tOf truth (e2 oIn f g) st = some (l.contains x) := v_tOf (v_e2 hf hg (by
  obtain ⟨h1, h2⟩ := nI_okAll l
  have h : inOk (nI l) (.int (x : Int)) = true := by unfold inOk; rw [h1, h2]; rfl
  show cond (inOk (nI l) (.int (x : Int))) (retB ((nI l).any fun y => PyData.eqv y (.int (x : Int)))) none = _
  rw [h, any_nat]; rfl))
theorem l_2 {x y : PyData} (ha : a st = some (.d x)) (hb : b st = some (.d y)) : fzF (eList (lCons a (lCons b lNil))) st = some (.d (.list [x, y])) := fz (by unfold eList; rw [v_l2 ha hb]; rfl)
theorem v_neL2 {x y z w : Nat} (ha : a st = some (.d (.int (x : Int)))) (hb : b st = some (.d (.int (y : Int)))) (hc : c st = some (.d (.int (z : Int)))) (hd : d st = some (.d (.int (w : Int)))) :
    tOf truth (e2 oNe (fzF (eList (lCons a (lCons b lNil)))) (fzF (eList (lCons c (lCons d lNil))))) st = some (!(x == z && y == w)) := v_tOf (v_e2 (l_2 ha hb) (l_2 hc hd) (by
  have h : ∀ i j k l : Int, eqOk (.list [.int i, .int j]) (.list [.int k, .int l]) = true := fun _ _ _ _ => rfl
  have e : PyData.eqv (.list [.int (x : Int), .int (y : Int)]) (.list [.int (z : Int), .int (w : Int)]) = (x == z && y == w) := by
    show (PyData.eqv (.int (x : Int)) (.int (z : Int)) && (PyData.eqv (.int (y : Int)) (.int (w : Int)) && true)) = _
    rw [eqv_nat, eqv_nat, Bool.and_true]
  unfold oNe
  rw [h, e]; rfl))
theorem v_neN {x y : Nat} (hf : f st = some (.d (.int (x : Int)))) (hg : g st = some (.d (.int (y : Int)))) : tOf truth (e2 oNe f g) st = some (!(x == y)) := by
  rw [v_neI hf hg]
  congr 2
  by_cases h : x = y
  · subst h; simp
  · rw [beq_eq_false_iff_ne.mpr h]; exact decide_eq_false (by (first | assumption | exact Nat.le_refl _ | exact Nat.zero_le _ | exact Nat.lt_succ_self _ | exact Nat.le_of_lt (by assumption) | exact Nat.succ_le_of_lt (by assumption) | lia))
theorem v_eqN {x y : Nat} (hf : f st = some (.d (.int (x : Int)))) (hg : g st = some (.d (.int (y : Int)))) : tOf truth (e2 oEq f g) st = some (x == y) := by
  rw [v_eqI hf hg]
  congr 1
  by_cases h : x = y
  · subst h; simp
  · rw [beq_eq_false_iff_ne.mpr h]; exact decide_eq_false (by (first | assumption | exact Nat.le_refl _ | exact Nat.zero_le _ | exact Nat.lt_succ_self _ | exact Nat.le_of_lt (by assumption) | exact Nat.succ_le_of_lt (by assumption) | lia))
theorem v_row {ways : List (List Nat)} {p : Nat} (hf : f st = some (.d (wD ways))) (hg : g st = some (.d (.int (p : Int)))) (hp : p < ways.length) (hb : ways.length ≤ 1000) : eIdx f g st = some (.d (.list (nI (wN ways p)))) :=
  v_idx hf rfl hg (by unfold wN; rw [List.getElem?_map, List.getElem?_eq_getElem hp]; rfl) (by (first | assumption | exact Nat.le_refl _ | exact Nat.zero_le _ | exact Nat.lt_succ_self _ | exact Nat.le_of_lt (by assumption) | exact Nat.succ_le_of_lt (by assumption) | lia))
theorem asgC {i : Nat} {v : St → Option (List PyData)} {rs : List PyData} (h : v st = some rs) : sAssignC i v st = some (.next, st.set i (.d (.list rs))) := by unfold sAssignC; rw [h]; rfl
theorem asgF {i : Nat} {v : St → Option (List PyData)} {rs : List PyData} (h : v st = some rs) : sAssignF i v st = some (.next, st.set i (.own rs)) := by unfold sAssignF; rw [h]; rfl
theorem augR {i : Nat} {op : PyData → PyData → Option LV} {p : PyData} (h : e2 op (eVar i) f st = some (.d p)) : sAug i op f st = some (.next, st.set i (.d p)) := by unfold sAug; rw [h]; rfl
theorem append_ok {i : Nat} {xs : List PyData} {p : PyData} (h : st.get i = some (.own xs)) (hn : xs.length ≤ 1000) (hf : f st = some (.d p)) : sExpr (mAppend i (mV f)) st = some (.next, st.set i (.own (xs ++ [p]))) := by
  have ho : ownOf st i = some xs := by unfold ownOf; rw [h]
  have hm : mV f st = some (.d p, st) := by unfold mV; rw [hf]; rfl
  have hc := fun (α : Type) (x : Option α) => (show cond (Nat.ble xs.length 1000000) x none = x by rw [ble_mil hn]; rfl)
  have e : mAppend i (mV f) st = some (.d .none, st.set i (.own (xs ++ [p]))) := Option.bind_eq_some_iff.mpr ⟨_, ho, Option.bind_eq_some_iff.mpr ⟨_, hm, Option.bind_eq_some_iff.mpr ⟨_, ho, (hc _ _)⟩⟩⟩
  unfold sExpr
  rw [e]; rfl
theorem retV {p : PyData} (h : f st = some (.d p)) : sRetV f st = some (.ret p, st) := by unfold sRetV; rw [h]; rfl
end
noncomputable def rStep (falls : List Nat) (ways : List (List Nat)) (p last number : Nat) : Option (Option (Nat × Nat)) :=
  let W := wN ways p
  let f := falls.contains p
  let lo := cond f 0 (last + 1)
  let hi := cond f (last + 1) (p + 1)
  let sums := sumsOf W p
  let flat := flatOf W p lo hi
  let n1 := number + (W.take lo).sum
  let rank := bR sums n1 lo hi
  let more := gN sums p + 1
  cond (Nat.ble 1 hi && Nat.ble hi (p + 1) && (bR flat 0 0 (p + 1) == lo && bL flat (gN flat p) 0 (p + 1) == hi - 1))
    (cond (rank == hi) (some none)
      (cond (bL sums (n1 + 1) lo hi == rank && Nat.ble rank (p + 1) && (bL sums 0 rank (p + 1) == rank && bR sums 0 rank (p + 1) == rank) && (bL sums more 0 rank == rank && bR sums more 0 rank == rank) && Nat.ble (W.take rank).sum n1)
        (some (some (rank, n1 - (W.take rank).sum))) none)) none
theorem cond_ne {α : Type} {b : Bool} {y : α} (h : cond b (some (some y)) none = some none) : False := by cases b <;> cases h
structure RB (falls : List Nat) (ways : List (List Nat)) (row : List Nat) (p : Nat) (s : St) : Prop where
  h12 : s.get 12 = some (.d (.int (p : Int)))
  h30 : s.get 30 = some (.d (.list (nI falls)))
  h31 : s.get 31 = some (.d (wD ways))
  h35 : s.get 35 = some (.own (nI row))
theorem RB.set {falls : List Nat} {ways : List (List Nat)} {row : List Nat} {p : Nat} {s : St} (B : RB falls ways row p s) {i : Nat} {v : LV} {s' : St} (h : 12 ≠ i ∧ 30 ≠ i ∧ 31 ≠ i ∧ 35 ≠ i) (e : s.set i v = s') : RB falls ways row p s' :=
  e ▸ ⟨get_ne B.h12 h.1, get_ne B.h30 h.2.1, get_ne B.h31 h.2.2.1, get_ne B.h35 h.2.2.2⟩
structure RC (lo hi : Nat) (sums : List Nat) (s : St) : Prop where
  h57 : s.get 57 = some (.d (.int (lo : Int)))
  h58 : s.get 58 = some (.d (.int (hi : Int)))
  h36 : s.get 36 = some (.d (.list (nI sums)))
theorem RC.new {lo hi : Nat} {sums : List Nat} {s s' : St} (h1 : s.get 57 = some (.d (.int (lo : Int)))) (h2 : s.get 58 = some (.d (.int (hi : Int)))) (e : s.set 36 (.d (.list (nI sums))) = s') : RC lo hi sums s' := e ▸ ⟨get_ne h1 (by decide), get_ne h2 (by decide), get_same ..⟩
theorem RC.set {lo hi : Nat} {sums : List Nat} {s : St} (C : RC lo hi sums s) {i : Nat} {v : LV} {s' : St} (h : 57 ≠ i ∧ 58 ≠ i ∧ 36 ≠ i) (e : s.set i v = s') : RC lo hi sums s' := e ▸ ⟨get_ne C.h57 h.1, get_ne C.h58 h.2.1, get_ne C.h36 h.2.2⟩
theorem rank_step {falls : List Nat} {ways : List (List Nat)} {ranks : List Nat} {last number p : Nat} {st : St} (R : RkSt falls ways (ranks ++ [last]) number st) (hp : p < ways.length) (hb : ways.length ≤ 50) (hW : (wN ways p).length ≤ 50) (hr : ranks.length ≤ 50) :
    (rStep falls ways p last number = some none → ∃ st', ranksBody (st.set 12 (.d (.int (p : Int)))) = some (.ret (.list []), st')) ∧
    ∀ r n, rStep falls ways p last number = some (some (r, n)) → ∃ st', ranksBody (st.set 12 (.d (.int (p : Int)))) = some (.next, st') ∧ RkSt falls ways (ranks ++ [last] ++ [r]) n st' := by
  obtain ⟨h30, h31, h35, h11⟩ := R
  unfold rStep
  dsimp only
  generalize hWd : wN ways p = W at hW ⊢
  generalize hfd : falls.contains p = fb
  generalize hlo : cond fb 0 (last + 1) = lo
  generalize hhi : cond fb (last + 1) (p + 1) = hi
  generalize hs0 : st.set 12 (.d (.int (p : Int))) = s0
  have Bg : RB falls ways (ranks ++ [last]) p s0 := hs0 ▸ ⟨get_same .., get_ne h30 (by decide), get_ne h31 (by decide), get_ne h35 (by decide)⟩
  have g11 : s0.get 11 = some (.d (.int (number : Int))) := get_neE h11 (by decide) hs0
  have glast : ∀ s : St, s.get 35 = some (.own (nI (ranks ++ [last]))) → eIdx (eVar 35) (e1 oNeg (eC (.int 1))) s = some (.d (.int (last : Int))) := fun s h => v_last (f := eVar 35) h rfl (by unfold nI; simp)
  have e0 : rk0 s0 = some (.next, s0.set 57 (.d (.int (lo : Int)))) := asg (v_ite (v_in (f := eVar 12) (g := eVar 30) Bg.h12 Bg.h30) (by
    rw [hfd, ← hlo]
    cases fb
    · exact v_add (b := 1) (glast s0 Bg.h35) rfl
    · rfl))
  have Bq : RB falls ways (ranks ++ [last]) p (s0.set 57 (.d (.int (lo : Int)))) := Bg.set (by decide) rfl
  have e1' : rk1 (s0.set 57 (.d (.int (lo : Int)))) = some (.next, (s0.set 57 (.d (.int (lo : Int)))).set 58 (.d (.int (hi : Int)))) := asg (v_ite (v_in (f := eVar 12) (g := eVar 30) Bq.h12 Bq.h30) (by
    rw [hfd, ← hhi]
    cases fb
    · exact v_add (a := p) (b := 1) Bq.h12 rfl
    · exact v_add (b := 1) (glast _ Bq.h35) rfl))
  generalize hs2 : (s0.set 57 (.d (.int (lo : Int)))).set 58 (.d (.int (hi : Int))) = s2 at e1'
  have Br : RB falls ways (ranks ++ [last]) p s2 := Bq.set (by decide) hs2
  have r11 : s2.get 11 = some (.d (.int (number : Int))) := by rw [← hs2]; exact get_ne (get_ne g11 (by decide)) (by decide)
  have r57 : s2.get 57 = some (.d (.int (lo : Int))) := by rw [← hs2]; exact get_ne (get_same ..) (by decide)
  have r58 : s2.get 58 = some (.d (.int (hi : Int))) := get_sameE hs2
  have rng : ∀ s : St, s.get 12 = some (.d (.int (p : Int))) → iRange (lCons (e2 oAdd (eVar 12) (eC (.int 1))) lNil) s = some ((List.range (p + 1)).map fun i => .int (i : Int)) := fun s h => v_range1 (v_add (f := eVar 12) (g := eC (.int 1)) (b := 1) h rfl) (by lia)
  have row : ∀ s : St, s.get 31 = some (.d (wD ways)) → s.get 12 = some (.d (.int (p : Int))) → eIdx (eVar 31) (eVar 12) s = some (.d (.list (nI W))) := fun s h1 h2 => by
    rw [← hWd]; exact v_row (f := eVar 31) (g := eVar 12) h1 h2 hp (by lia)
  have e2' : rk2 s2 = some (.next, s2.set 36 (.d (.list (nI (sumsOf W p))))) := by
    refine asgC ?_
    unfold eComp
    rw [rng s2 Br.h12]
    show compGo _ _ _ _ = _
    rw [comp_map (fun (i : Nat) => PyData.int (i : Int)) (fun k => .int ((((W.take (k + 1)).sum : Nat)) : Int)) (List.range (p + 1)) fun k _ => ⟨?_, rfl⟩]
    · unfold sumsOf nI; rw [List.map_map]; rfl
    · exact v_sum (v_upto (f := eIdx (eVar 31) (eVar 12)) (l := W) (row _ (mkC_get Br.h31 (by decide) (by decide)) (mkC_get Br.h12 (by decide) (by decide))) rfl (v_add (f := eVar 25) (g := eC (.int 1)) (b := 1) mkC_x rfl) (by lia)) rfl
  generalize hsums : sumsOf W p = sums at e2' ⊢
  have lsums : sums.length = p + 1 := by rw [← hsums]; exact sums_len
  generalize hs3 : s2.set 36 (.d (.list (nI sums))) = s3 at e2'
  have Bk : RB falls ways (ranks ++ [last]) p s3 := Br.set (by decide) hs3
  have Ck : RC lo hi sums s3 := RC.new r57 r58 hs3
  have k11 := get_neE r11 (by decide) hs3
  have e3' : rk3 s3 = some (.next, s3.set 37 (.d (.list (nI (flatOf W p lo hi))))) := by
    refine asgC ?_
    unfold eComp
    rw [rng s3 Bk.h12]
    show compGo _ _ _ _ = _
    rw [comp_map (fun (i : Nat) => PyData.int (i : Int)) (fun k => .int (((((W.take (min (k + 1) hi)).drop lo).sum : Nat)) : Int)) (List.range (p + 1)) fun k _ => ⟨?_, rfl⟩]
    · unfold flatOf nI; rw [List.map_map]; rfl
    · exact v_sum (v_run (f := eIdx (eVar 31) (eVar 12)) (l := W) (row _ (mkC_get Bk.h31 (by decide) (by decide)) (mkC_get Bk.h12 (by decide) (by decide))) rfl (g := eVar 57) (mkC_get Ck.h57 (by decide) (by decide))
        (v_min (f := e2 oAdd (eVar 25) (eC (.int 1))) (g := eVar 58) (v_add (f := eVar 25) (g := eC (.int 1)) (b := 1) mkC_x rfl) (mkC_get Ck.h58 (by decide) (by decide))) (by lia)) rfl
  generalize hflat : flatOf W p lo hi = flat at e3' ⊢
  have lflat : flat.length = p + 1 := by rw [← hflat]; exact flat_len
  generalize hs4 : s3.set 37 (.d (.list (nI flat))) = s4 at e3'
  have m37 : s4.get 37 = some (.d (.list (nI flat))) := get_sameE hs4
  have Bm : RB falls ways (ranks ++ [last]) p s4 := Bk.set (by decide) hs4
  have Cm : RC lo hi sums s4 := Ck.set (by decide) hs4
  have m11 := get_neE k11 (by decide) hs4
  cases t1 : (Nat.ble 1 hi && Nat.ble hi (p + 1) && (bR flat 0 0 (p + 1) == lo && bL flat (gN flat p) 0 (p + 1) == hi - 1)) with
  | false => exact ⟨fun h => (by cases h), fun r n h => (by cases h)⟩
  | true =>
    simp only [Bool.and_eq_true] at t1
    obtain ⟨⟨t1a, t1b⟩, t1c, t1d⟩ := t1
    have hi1 : 1 ≤ hi := Nat.le_of_ble_eq_true t1a
    have hip : hi ≤ p + 1 := Nat.le_of_ble_eq_true t1b
    have lastF : ∀ (l : List Nat), l.length = p + 1 → (nI l).getLast? = some (.int (gN l p : Int)) := fun l hl => by
      rw [List.getLast?_eq_getElem?, nI_len, hl, Nat.add_sub_cancel]
      exact nI_get (by lia)
    have e4' : rk4 s4 = some (.next, s4) := ifF (by
      rw [v_neL2 (x := bR flat 0 0 (p + 1)) (y := bL flat (gN flat p) 0 (p + 1)) (z := lo) (w := hi - 1)
        (v_callD (v_l2 (f := eVar 37) (g := eC (.int 0)) m37 rfl) rfl (by rw [← lflat]; exact f_bright2 (x := 0) (by lia)))
        (v_callD (v_l2 (f := eVar 37) m37 (v_last (f := eVar 37) m37 rfl (lastF flat lflat))) rfl (by rw [← lflat]; exact f_bleft2 (by lia)))
        Cm.h57 (v_sub (f := eVar 58) (g := eC (.int 1)) (b := 1) Cm.h58 rfl hi1), t1c, t1d]; rfl) rfl
    have e5' : rk5 s4 = some (.next, s4.set 11 (.d (.int ((number + (W.take lo).sum : Nat) : Int)))) := augR (v_e2 (f := eVar 11) m11 (v_sum (v_upto (f := eIdx (eVar 31) (eVar 12)) (g := eVar 57) (l := W) (row s4 Bm.h31 Bm.h12) rfl Cm.h57 (by lia)) rfl) rfl)
    generalize hn1 : number + (W.take lo).sum = n1 at e5' ⊢
    generalize hs5 : s4.set 11 (.d (.int (n1 : Int))) = s5 at e5'
    have u11 : s5.get 11 = some (.d (.int (n1 : Int))) := get_sameE hs5
    have Bu : RB falls ways (ranks ++ [last]) p s5 := Bm.set (by decide) hs5
    have Cu : RC lo hi sums s5 := Cm.set (by decide) hs5
    have e6' : rk6 s5 = some (.next, s5.set 34 (.d (.int ((bR sums n1 lo hi : Nat) : Int)))) := asg (v_callD (v_lc (f := eVar 36) Cu.h36 (v_lc (f := eVar 11) u11 (v_l2 (f := eVar 57) (g := eVar 58) Cu.h57 Cu.h58))) rfl (f_bright4 (by lia) (by lia)))
    generalize hrank : bR sums n1 lo hi = rank at e6' ⊢
    generalize hs6 : s5.set 34 (.d (.int (rank : Int))) = s6 at e6'
    have w34 : s6.get 34 = some (.d (.int (rank : Int))) := get_sameE hs6
    have w11 := get_neE u11 (by decide) hs6
    have Bw : RB falls ways (ranks ++ [last]) p s6 := Bu.set (by decide) hs6
    have Cw : RC lo hi sums s6 := Cu.set (by decide) hs6
    have pre : ∀ {g : St → Option (Fl × St)} {r : Option (Fl × St)}, g s6 = r → (sSeq rk0 (sSeq rk1 (sSeq rk2 (sSeq rk3 (sSeq rk4 (sSeq rk5 (sSeq rk6 g))))))) s0 = r := fun h => seqN e0 (seqN e1' (seqN e2' (seqN e3' (seqN e4' (seqN e5' (seqN e6' h))))))
    have t7 : tOf truth (e2 oEq (eVar 34) (eVar 58)) s6 = some (rank == hi) := v_eqN (f := eVar 34) (g := eVar 58) w34 Cw.h58
    cases t2 : (rank == hi) with
    | true =>
      rw [t2] at t7
      refine ⟨fun _ => ⟨s6, pre (seqR (ifT t7 (seqR (retV rfl))))⟩, fun r n h => (by cases h)⟩
    | false =>
      rw [t2] at t7
      refine ⟨fun h => ?_, fun r n h => ?_⟩
      · simp only [cond_true, cond_false] at h
        exact (cond_ne h).elim
      · simp only [cond_true, cond_false] at h
        refine cond_elim (c := (bL sums (n1 + 1) lo hi == rank && Nat.ble rank (p + 1) && (bL sums 0 rank (p + 1) == rank && bR sums 0 rank (p + 1) == rank) && (bL sums (gN sums p + 1) 0 rank == rank && bR sums (gN sums p + 1) 0 rank == rank) && Nat.ble (W.take rank).sum n1)) h fun t3 h => ?_
        simp only [cond_true, Option.some.injEq, Prod.mk.injEq] at h
        obtain ⟨rfl, rfl⟩ := h
        simp only [Bool.and_eq_true] at t3
        obtain ⟨⟨⟨⟨t3a, t3b⟩, t3c, t3d⟩, t3e, t3f⟩, t3g⟩ := t3
        have hrp : rank ≤ p + 1 := Nat.le_of_ble_eq_true t3b
        have hsum : (W.take rank).sum ≤ n1 := Nat.le_of_ble_eq_true t3g
        have e8 : rk8 s6 = some (.next, s6) := ifF (by
          rw [v_neN (x := bL sums (n1 + 1) lo hi) (y := rank) (v_callD (v_lc (f := eVar 36) Cw.h36 (v_lc (v_add (f := eVar 11) (g := eC (.int 1)) (b := 1) w11 rfl) (v_l2 (f := eVar 57) (g := eVar 58) Cw.h57 Cw.h58))) rfl (f_bleft4 (by lia) (by lia))) w34, t3a]; rfl) rfl
        have e9 : rk9 s6 = some (.next, s6) := ifF (by
          rw [v_neL2 (x := bL sums 0 rank (p + 1)) (y := bR sums 0 rank (p + 1)) (z := rank) (w := rank)
            (v_callD (v_lc (f := eVar 36) Cw.h36 (v_l2 (f := eC (.int 0)) (g := eVar 34) rfl w34)) rfl (by rw [← lsums]; exact f_bleft3 (x := 0) (by lia)))
            (v_callD (v_lc (f := eVar 36) Cw.h36 (v_l2 (f := eC (.int 0)) (g := eVar 34) rfl w34)) rfl (by rw [← lsums]; exact f_bright3 (x := 0) (by lia)))
            w34 w34, t3c, t3d]; rfl) rfl
        have e10 : rk10 s6 = some (.next, s6.set 38 (.d (.int ((gN sums p + 1 : Nat) : Int)))) := asg (v_add (b := 1) (v_last (f := eVar 36) Cw.h36 rfl (lastF sums lsums)) rfl)
        generalize hs7 : s6.set 38 (.d (.int ((gN sums p + 1 : Nat) : Int))) = s7 at e10
        have x38 : s7.get 38 = some (.d (.int ((gN sums p + 1 : Nat) : Int))) := get_sameE hs7
        have x34 := get_neE w34 (by decide) hs7
        have x11 := get_neE w11 (by decide) hs7
        have Bx : RB falls ways (ranks ++ [last]) p s7 := Bw.set (by decide) hs7
        have Cx : RC lo hi sums s7 := Cw.set (by decide) hs7
        have e11 : rk11 s7 = some (.next, s7) := ifF (by
          rw [v_neL2 (x := bL sums (gN sums p + 1) 0 rank) (y := bR sums (gN sums p + 1) 0 rank) (z := rank) (w := rank)
            (v_callD (v_lc (f := eVar 36) Cx.h36 (v_lc (f := eVar 38) x38 (v_l2 (f := eC (.int 0)) (g := eVar 34) rfl x34))) rfl (f_bleft4 (lo := 0) (by lia) (by lia)))
            (v_callD (v_lc (f := eVar 36) Cx.h36 (v_lc (f := eVar 38) x38 (v_l2 (f := eC (.int 0)) (g := eVar 34) rfl x34))) rfl (f_bright4 (lo := 0) (by lia) (by lia)))
            x34 x34, t3e, t3f]; rfl) rfl
        have e12 : rk12 s7 = some (.next, s7.set 11 (.d (.int ((n1 - (W.take rank).sum : Nat) : Int)))) := augR (v_sub (f := eVar 11) x11 (v_sum (v_upto (f := eIdx (eVar 31) (eVar 12)) (g := eVar 34) (l := W) (row s7 Bx.h31 Bx.h12) rfl x34 (by lia)) rfl) hsum)
        generalize hs8 : s7.set 11 (.d (.int ((n1 - (W.take rank).sum : Nat) : Int))) = s8 at e12
        have y11 : s8.get 11 = some (.d (.int ((n1 - (W.take rank).sum : Nat) : Int))) := get_sameE hs8
        have y34 := get_neE x34 (by decide) hs8
        have By : RB falls ways (ranks ++ [last]) p s8 := Bx.set (by decide) hs8
        have e13 : rk13 s8 = some (.next, s8.set 35 (.own (nI (ranks ++ [last]) ++ [.int (rank : Int)]))) := append_ok By.h35 (by rw [nI_len]; simp; lia) (f := eVar 34) y34
        have ap : nI (ranks ++ [last]) ++ [.int (rank : Int)] = nI (ranks ++ [last] ++ [rank]) := by unfold nI; simp
        rw [ap] at e13
        refine ⟨s8.set 35 (.own (nI (ranks ++ [last] ++ [rank]))), pre (seqN (ifF t7 rfl) (seqN e8 (seqN e9 (seqN e10 (seqN e11 (seqN e12 (seqN e13 rfl))))))), ?_, ?_, ?_, ?_⟩
        · exact get_ne By.h30 (by decide)
        · exact get_ne By.h31 (by decide)
        · exact get_same ..
        · exact get_ne y11 (by decide)
end Mine
end

section
open PySem PySem.W PyProof.Rows PySem.Calls
namespace Mine
noncomputable def rGo (falls : List Nat) (ways : List (List Nat)) : List Nat → Nat → Nat → List Nat → Option (Option (List Nat))
  | [], _, _, acc => some (some acc)
  | p :: ps, last, number, acc => match rStep falls ways p last number with
    | none => none
    | some none => some none
    | some (some (r, n)) => rGo falls ways ps r n (acc ++ [r])
theorem rGo_c (falls : List Nat) (ways : List (List Nat)) (p : Nat) (ps : List Nat) (last number : Nat) (acc : List Nat) : rGo falls ways (p :: ps) last number acc = match rStep falls ways p last number with
    | none => none
    | some none => some none
    | some (some (r, n)) => rGo falls ways ps r n (acc ++ [r]) := rfl
noncomputable def ranksN (falls : List Nat) (ways : List (List Nat)) (number : Nat) : Option (Option (List Nat)) := rGo falls ways ((List.range (ways.length - 1)).map (1 + ·)) 0 number [0]
theorem rGo_ok {falls : List Nat} {ways : List (List Nat)} (hb : ways.length ≤ 50) : ∀ (ps : List Nat) (st : St) (last number : Nat) (ranks : List Nat), RkSt falls ways (ranks ++ [last]) number st → (∀ p ∈ ps, p < ways.length ∧ (wN ways p).length ≤ 50) → ranks.length + ps.length ≤ 50 →
    (rGo falls ways ps last number (ranks ++ [last]) = some none → ∃ st', forGo 12 ranksBody (ps.map fun (p : Nat) => .int (p : Int)) st = some (.ret (.list []), st')) ∧
    ∀ rs, rGo falls ways ps last number (ranks ++ [last]) = some (some rs) → ∃ st', forGo 12 ranksBody (ps.map fun (p : Nat) => .int (p : Int)) st = some (.next, st') ∧ st'.get 35 = some (.own (nI rs)) := by
  intro ps
  induction ps with
  | nil =>
    intro st last number ranks R _ _
    exact ⟨fun h => (by cases h), fun rs h => (by cases h; exact ⟨st, rfl, R.h35⟩)⟩
  | cons p ps ih =>
    intro st last number ranks R hp hl
    obtain ⟨hp1, hp2⟩ := hp p (.head _)
    simp only [List.length_cons] at hl
    obtain ⟨s1, s2⟩ := rank_step R hp1 hb hp2 (by lia)
    rw [rGo_c]
    cases e : rStep falls ways p last number with
    | none => exact ⟨fun h => (by cases h), fun rs h => (by cases h)⟩
    | some o =>
      cases o with
      | none =>
        obtain ⟨st', e'⟩ := s1 e
        refine ⟨fun _ => ⟨st', ?_⟩, fun rs h => (by cases h)⟩
        rw [List.map_cons]
        rw [forGo_c]
        rw [e']; rfl
      | some rn =>
        refine byC fun CC hCC => ?_
        obtain ⟨r, n⟩ := rn
        obtain ⟨st', e', R'⟩ := s2 r n e
        obtain ⟨i1, i2⟩ := ih st' r n (ranks ++ [last]) R' (fun q hq => hp q (.tail _ hq)) (by simp; lia)
        refine hCC ?_
        clear hCC
        have step : forGo 12 ranksBody ((p :: ps).map fun (p : Nat) => .int (p : Int)) st = forGo 12 ranksBody (ps.map fun (p : Nat) => .int (p : Int)) st' := by
          rw [List.map_cons]
          conv => lhs; rw [forGo_c]
          rw [e']; rfl
        rw [step]
        exact ⟨i1, i2⟩
theorem f_ranks_ok {falls : List Nat} {ways : List (List Nat)} {number : Nat} (hb : ways.length ≤ 50) (h1 : 1 ≤ ways.length) (hw : ∀ p, (wN ways p).length ≤ 50) :
    (ranksN falls ways number = some none → f_ranks [.d (.int (number : Int)), .d (.list (nI falls)), .d (wD ways)] = some (.list [])) ∧
    ∀ rs, ranksN falls ways number = some (some rs) → f_ranks [.d (.int (number : Int)), .d (.list (nI falls)), .d (wD ways)] = some (.list (nI rs)) := by
  have R : RkSt falls ways ([] ++ [0]) number (St.set [(11, .d (.int (number : Int))), (30, .d (.list (nI falls))), (31, .d (wD ways))] 35 (.own (nI [0]))) := ⟨rfl, rfl, rfl, rfl⟩
  have hr : iRange (lCons (eC (.int 1)) (lCons (eN oLen (lCons (eVar 31) lNil)) lNil)) (St.set [(11, .d (.int (number : Int))), (30, .d (.list (nI falls))), (31, .d (wD ways))] 35 (.own (nI [0]))) = some (((List.range (ways.length - 1)).map (1 + ·)).map fun (p : Nat) => .int (p : Int)) := by
    have hl : (ways.map fun W => PyData.list (nI W)).length = ways.length := by simp
    rw [v_range2 (a := 1) (b := ways.length) rfl (by rw [v_len (f := eVar 31) (xs := ways.map fun W => .list (nI W)) rfl rfl (by lia), hl]) (by decide) (by lia), List.map_map]
    rfl
  obtain ⟨i1, i2⟩ := rGo_ok hb ((List.range (ways.length - 1)).map (1 + ·)) _ 0 number [] R (fun p hp => by
    obtain ⟨i, hi, rfl⟩ := List.mem_map.mp hp
    have := List.mem_range.mp hi
    exact ⟨by lia, hw _⟩) (by simp; lia)
  have go : ∀ {r : Option (Fl × St)}, sSeq (sFor 12 (iRange (lCons (eC (.int 1)) (lCons (eN oLen (lCons (eVar 31) lNil)) lNil))) ranksBody) (sSeq (sRet (eVar 35)) sNil) (St.set [(11, .d (.int (number : Int))), (30, .d (.list (nI falls))), (31, .d (wD ways))] 35 (.own (nI [0]))) = r → g_ranks [(11, .d (.int (number : Int))), (30, .d (.list (nI falls))), (31, .d (wD ways))] = r := fun h => by
    rw [g_ranks_eq]
    exact seqN rfl h
  constructor
  · intro h
    obtain ⟨st', e⟩ := i1 h
    exact congrArg outOf (go (r := some (.ret (.list []), st')) (seqR (by unfold sFor; rw [hr]; exact e)))
  · intro rs h
    obtain ⟨st', e, e35⟩ := i2 rs h
    exact congrArg outOf (go (r := some (.ret (.list (nI rs)), st')) (seqN (by unfold sFor; rw [hr]; exact e) (seqR (by
      unfold sRet
      have : eDat (eVar 35) st' = some (.list (nI rs)) := by unfold eDat; rw [show eVar 35 st' = _ from e35]; rfl
      rw [this]; rfl))))
end Mine
end

section
open PySem PySem.W PyProof.Rows PySem.Calls
namespace Mine
noncomputable def oGo {α : Type} : List Nat → List α → List α → Option (List α)
  | [], _, acc => some acc
  | r :: rs, left, acc => match left[r]? with
    | some x => oGo rs (left.eraseIdx r) (x :: acc)
    | none => none
theorem oGo_c {α : Type} (r : Nat) (rs : List Nat) (left acc : List α) : oGo (r :: rs) left acc = match left[r]? with
    | some x => oGo rs (left.eraseIdx r) (x :: acc)
    | none => none := rfl
noncomputable def orderA {α : Type} (ranks : List Nat) (row : List α) : Option (List α) := oGo ranks.reverse row []
theorem era_map {α β : Type} (f : α → β) : ∀ (l : List α) (k : Nat), (l.map f).eraseIdx k = (l.eraseIdx k).map f
  | [], k => by first | rfl | exact .head _ | exact .tail _ (.head _) | exact if_pos rfl | exact (if_neg (by decide)).trans rfl | simp
  | a :: l, 0 => by first | rfl | exact .head _ | exact .tail _ (.head _) | exact if_pos rfl | exact (if_neg (by decide)).trans rfl | simp
  | a :: l, k + 1 => by simp only [List.map_cons, List.eraseIdx_cons_succ, era_map f l k]
theorem oGo_map {α β : Type} (f : α → β) : ∀ (rs : List Nat) (left acc : List α), oGo rs (left.map f) (acc.map f) = (oGo rs left acc).map (List.map f) := by
  intro rs
  induction rs with
  | nil =>
    intro _ _
    exact rfl
  | cons r rs ih =>
    intro left acc
    rw [oGo_c, oGo_c]
    rw [List.getElem?_map]
    cases e : left[r]? with
    | none => rfl
    | some x =>
      simp only [Option.map_some]
      rw [era_map, ← List.map_cons]
      exact ih _ _
theorem order_map {α β : Type} (f : α → β) (ranks : List Nat) (row : List α) : orderA ranks (row.map f) = (orderA ranks row).map (List.map f) := oGo_map f _ row []
section
variable {st : St} {f g : St → Option LV}
theorem own_of {i : Nat} {xs : List PyData} (h : st.get i = some (.own xs)) : ownOf st i = some xs := by unfold ownOf; rw [h]
theorem v_listOf {lv : LV} {xs : List PyData} (h : f st = some lv) (hl : lv.lst = some xs) (hn : xs.length ≤ 1000) : eListOf f st = some xs := Option.bind_eq_some_iff.mpr ⟨xs, v_lst h hl, by rw [ble_mil hn]; rfl⟩
theorem v_iLst {xs : List PyData} (h : f st = some (.d (.list xs))) (hn : xs.length ≤ 1000) : iLst f st = some xs := by
  unfold iLst
  rw [h]
  show cond (Nat.ble xs.length 1000000) (some xs) none = _
  rw [ble_mil hn]; rfl
theorem pop_ok {i : Nat} {xs : List PyData} {k : Nat} {d : PyData} (h : st.get i = some (.own xs)) (hg : g st = some (.d (.int (k : Int)))) (hd : xs[k]? = some d) (hn : xs.length ≤ 1000) : mPop i g st = some (.d d, st.set i (.own (xs.eraseIdx k))) :=
  Option.bind_eq_some_iff.mpr ⟨xs, own_of h, Option.bind_eq_some_iff.mpr ⟨_, v_int hg, by
    rw [ble_mil hn, if_pos (Int.natCast_nonneg k), Int.toNat_natCast, hd]; rfl⟩⟩
theorem insert0_ok {i : Nat} {xs : List PyData} {p : PyData} {st' : St} {m : St → Option (LV × St)} {ys : List PyData} (h : st.get i = some (.own ys)) (hm : m st = some (.d p, st')) (h' : st'.get i = some (.own xs)) (hn : xs.length ≤ 1000) : sExpr (mInsert i (eC (.int 0)) m) st = some (.next, st'.set i (.own (p :: xs))) := by
  have e : mInsert i (eC (.int 0)) m st = some (.d .none, st'.set i (.own (p :: xs))) := Option.bind_eq_some_iff.mpr ⟨_, own_of h, Option.bind_eq_some_iff.mpr ⟨0, rfl, Option.bind_eq_some_iff.mpr ⟨_, hm, Option.bind_eq_some_iff.mpr ⟨xs, own_of h', by
    rw [ble_mil hn, if_pos ⟨by decide, by lia⟩]; rfl⟩⟩⟩⟩
  unfold sExpr
  rw [e]; rfl
end
theorem erase_len {α : Type} (l : List α) (k : Nat) : (l.eraseIdx k).length ≤ l.length := by
  by_cases h : k < l.length
  · rw [List.length_eraseIdx_of_lt h]; lia
  · rw [List.eraseIdx_of_length_le (by lia)]; exact Nat.le_refl _
theorem order_loop : ∀ (rs : List Nat) (left acc res : List PyData) (st : St), st.get 40 = some (.own left) → st.get 41 = some (.own acc) → left.length ≤ 500 → acc.length + rs.length ≤ 500 → oGo rs left acc = some res →
    ∃ st', forGo 34 (sSeq (sExpr (mInsert 41 (eC (.int 0)) (mPop 40 (eVar 34)))) sNil) (rs.map fun (r : Nat) => .int (r : Int)) st = some (.next, st') ∧ st'.get 41 = some (.own res) := by
  intro rs
  induction rs with
  | nil =>
    intro left acc res st h0 h1 _ _ e
    cases e; exact ⟨st, rfl, h1⟩
  | cons r rs ih =>
    intro left acc res st h0 h1 hl ha e
    rw [oGo_c] at e
    cases q : left[r]? with
    | none => rw [q] at e; cases e
    | some x =>
      rw [q] at e
      simp only [List.length_cons] at ha
      have p1 := pop_ok (st := st.set 34 (.d (.int (r : Int)))) (g := eVar 34) (get_ne h0 (by decide)) (get_same ..) q (by lia)
      have p2 := insert0_ok (m := mPop 40 (eVar 34)) (get_ne h1 (by decide)) p1 (get_ne (get_ne h1 (by decide)) (by decide)) (by lia)
      obtain ⟨st', e', h'⟩ := ih (left.eraseIdx r) (x :: acc) res _ (get_ne (get_same ..) (by decide)) (get_same ..) (Nat.le_trans (erase_len _ _) hl) (by simp only [List.length_cons]; lia) e
      refine ⟨st', ?_, h'⟩
      rw [List.map_cons]
      rw [forGo_c]
      rw [seqN p2 rfl]
      exact e'
theorem f_order_ok {ranks : List Nat} {row res : List PyData} (h1 : ranks.length ≤ 500) (h2 : row.length ≤ 500) (e : orderA ranks row = some res) : f_order [.d (.list (nI ranks)), .d (.list row)] = some (.list res) := by
  have hr : iLst (fzF (eSlice (eVar 35) pNone pNone (pSome (e1 oNeg (eC (.int 1)))))) (St.set (St.set [(35, .d (.list (nI ranks))), (39, .d (.list row))] 40 (.own row)) 41 (.own [])) = some (ranks.reverse.map fun (r : Nat) => .int (r : Int)) := by
    refine v_iLst (xs := nI ranks.reverse) (fz ?_) (by rw [nI_len]; simp; lia)
    rw [v_slice (f := eVar 35) (xs := nI ranks) rfl rfl rfl rfl rfl (by decide) (by rw [nI_len]; lia), nI_pick, pickA_rev]
  obtain ⟨st', e', h'⟩ := order_loop ranks.reverse row [] res (St.set (St.set [(35, .d (.list (nI ranks))), (39, .d (.list row))] 40 (.own row)) 41 (.own [])) rfl rfl h2 (by simp; omega) e
  have : g_order [(35, .d (.list (nI ranks))), (39, .d (.list row))] = some (.ret (.list res), st') :=
    seqN (asgF (v_listOf (f := eVar 39) rfl rfl (by lia))) (seqN rfl (seqN (by unfold sFor; rw [hr]; exact e') (seqR (by
      unfold sRet
      have : eDat (eVar 41) st' = some (.list res) := by unfold eDat; rw [show eVar 41 st' = _ from h']; rfl
      rw [this]; rfl))))
  exact congrArg outOf this
end Mine
end

section
open PySem PySem.W PyProof.Rows PySem.Calls
namespace Mine
noncomputable def bk0 : St → Option (Fl × St) := (sAssign 34 (eCallK f_bleftK eFn (lCons (eVar 42) (lCons (eCall (f_key) (lCons (eIdx (eVar 41) (eVar 12)) lNil)) lNil))))
noncomputable def bk1 : St → Option (Fl × St) := (sIf (tOf truth (e2 oIn (eVar 12) (eVar 30))) (sSeq (sAug 11 oIadd (eN oSum (lCons (fzF (eSlice (eIdx (eVar 31) (eVar 12)) pNone (pSome (eVar 34)) pNone)) lNil))) sNil) (sSeq (sIf (tOf truth (e2 oGt (eVar 12) (eC (.int 0)))) (sSeq (sAug 11 oIadd (eN oSum (lCons (fzF (eSlice (eIdx (eVar 31) (eVar 12)) (pSome (e2 oAdd (eVar 29) (eC (.int 1)))) (pSome (eVar 34)) pNone)) lNil))) sNil) sNil) sNil))
noncomputable def bk2 : St → Option (Fl × St) := (sExpr (mInsort 42 f_insort (eIdx (eVar 41) (eVar 12))))
noncomputable def bk3 : St → Option (Fl × St) := (sAssign 29 (eVar 34))
noncomputable def backBody : St → Option (Fl × St) := (sSeq bk0 (sSeq bk1 (sSeq bk2 (sSeq bk3 sNil))))
theorem g_back_eq : g_back = sSeq (sAssignF 42 (eList lNil)) (sSeq (sAssign 11 (eC (.int 0))) (sSeq (sAssign 29 (eC (.int 0))) (sSeq (sFor 12 (iRange (lCons (eN oLen (lCons (eVar 41) lNil)) lNil)) backBody) (sSeq (sRet (eVar 11)) sNil)))) := rfl
theorem bisG_congr {r r' : Nat → Bool} : ∀ (f lo hi : Nat), (∀ m, lo ≤ m → m < hi → r m = r' m) → bisG r f lo hi = bisG r' f lo hi := by
  intro f
  induction f with
  | zero =>
    intro _ _ _
    exact rfl
  | succ f ih =>
    intro lo hi h
    rw [bisG_c, bisG_c]
    cases q : Nat.blt lo hi with
    | false => rfl
    | true =>
      have q : lo < hi := by rw [blt_dec] at q; exact of_decide_eq_true q
      rw [h ((lo + hi) / 2) (by lia) (by lia)]
      simp only [cond_true]
      rw [ih ((lo + hi) / 2 + 1) hi fun m h1 h2 => h m (by lia) h2, ih lo ((lo + hi) / 2) fun m h1 h2 => h m h1 (by lia)]
section
variable {α : Type}
noncomputable def bLG (lt : α → α → Bool) (laid : List α) (x : α) : Nat := bisG (fun m => match laid[m]? with | some y => lt y x | none => false) 100 0 laid.length
noncomputable def bRG (lt : α → α → Bool) (laid : List α) (x : α) : Nat := bisG (fun m => match laid[m]? with | some y => !lt x y | none => false) 100 0 laid.length
noncomputable def insG (lt : α → α → Bool) (laid : List α) (x : α) : List α := laid.take (bRG lt laid x) ++ x :: laid.drop (bRG lt laid x)
noncomputable def bGo (lt : α → α → Bool) (falls : List Nat) (ways : List (List Nat)) : List α → Nat → List α → Nat → Nat → Nat
  | [], _, _, _, number => number
  | x :: rest, p, laid, last, number => bGo lt falls ways rest (p + 1) (insG lt laid x) (bLG lt laid x)
      (cond (falls.contains p) (number + ((wN ways p).take (bLG lt laid x)).sum) (cond (Nat.blt 0 p) (number + (((wN ways p).take (bLG lt laid x)).drop (last + 1)).sum) number))
theorem bGo_c (lt : α → α → Bool) (falls : List Nat) (ways : List (List Nat)) (x : α) (rest : List α) (p : Nat) (laid : List α) (last number : Nat) : bGo lt falls ways (x :: rest) p laid last number = bGo lt falls ways rest (p + 1) (insG lt laid x) (bLG lt laid x)
      (cond (falls.contains p) (number + ((wN ways p).take (bLG lt laid x)).sum) (cond (Nat.blt 0 p) (number + (((wN ways p).take (bLG lt laid x)).drop (last + 1)).sum) number)) := rfl
end
theorem bLG_map {α β : Type} {lt : α → α → Bool} {lt' : β → β → Bool} {e : α → β} {laid : List α} {x : α} (h : ∀ a ∈ laid, lt' (e a) (e x) = lt a x) : bLG lt' (laid.map e) (e x) = bLG lt laid x := by
  unfold bLG
  rw [List.length_map]
  refine bisG_congr _ _ _ fun m _ hm => ?_
  rw [List.getElem?_map, List.getElem?_eq_getElem hm]
  exact h _ (List.getElem_mem hm)
theorem bRG_map {α β : Type} {lt : α → α → Bool} {lt' : β → β → Bool} {e : α → β} {laid : List α} {x : α} (h : ∀ a ∈ laid, lt' (e x) (e a) = lt x a) : bRG lt' (laid.map e) (e x) = bRG lt laid x := by
  unfold bRG
  rw [List.length_map]
  refine bisG_congr _ _ _ fun m _ hm => ?_
  rw [List.getElem?_map, List.getElem?_eq_getElem hm]
  show (!lt' (e x) (e laid[m])) = !lt x laid[m]
  rw [h _ (List.getElem_mem hm)]
theorem insG_map {α β : Type} {lt : α → α → Bool} {lt' : β → β → Bool} {e : α → β} {laid : List α} {x : α} (h : ∀ a ∈ laid, lt' (e x) (e a) = lt x a) : insG lt' (laid.map e) (e x) = (insG lt laid x).map e := by
  unfold insG
  rw [bRG_map h, List.map_append, List.map_cons, List.map_take, List.map_drop]
theorem ins_mem {α : Type} {lt : α → α → Bool} {laid : List α} {x a : α} (h : a ∈ insG lt laid x) : a = x ∨ a ∈ laid := by
  unfold insG at h
  rcases List.mem_append.mp h with h | h
  · exact .inr (List.mem_of_mem_take h)
  · rcases List.mem_cons.mp h with h | h
    · exact .inl h
    · exact .inr (List.mem_of_mem_drop h)
theorem ins_len {α : Type} {lt : α → α → Bool} {laid : List α} {x : α} : (insG lt laid x).length = laid.length + 1 := by
  unfold insG
  rw [List.length_append, List.length_cons, List.length_take, List.length_drop]
  lia
noncomputable def ltE (a b : Ent) : Bool := strLt a.2 b.2
theorem kN_get {L : List Ent} {m : Nat} (h : m < L.length) : kN L m = L[m].2 := by unfold kN; rw [List.getElem?_eq_getElem h]; rfl
theorem bLK_eq {L : List Ent} {x : Ent} : bLK L x.2 0 L.length = bLG ltE L x := bisG_congr _ _ _ fun m _ hm => by rw [kN_get hm, List.getElem?_eq_getElem hm]; rfl
theorem bRK_eq {L : List Ent} {x : Ent} : bRK L x.2 0 L.length = bRG ltE L x := bisG_congr _ _ _ fun m _ hm => by rw [kN_get hm, List.getElem?_eq_getElem hm]; rfl
theorem insort_eq {L : List Ent} (hl : L.length ≤ 99) (p : Ent) : f_insort (eL L) (ent p) = some (eL (insG ltE L p)) := by
  rw [f_insort_ent hl p]
  unfold insG
  rw [bRK_eq]
section
variable {st : St} {f : St → Option LV}
theorem v_bleftK {i : Nat} {L : List Ent} {x : Ent} {g : St → Option LV} (h : st.get i = some (.own (eL L))) (hg : g st = some (.d (.str x.2))) (hl : L.length ≤ 99) : eCallK f_bleftK eFn (lCons (eVar i) (lCons g lNil)) st = some (.d (.int ((bLG ltE L x : Nat) : Int))) := by
  have hf : lCons (eVar i) (lCons g lNil) st = some [.own (eL L), .d (.str x.2)] := v_lc h (v_l1 hg)
  have hu : ucallOp f_bleftK [.own (eL L), .d (.str x.2)] = some (.d (.int ((bLG ltE L x : Nat) : Int))) := by
    show (f_bleftK [.d (.list (eL L)), .d (.str x.2)]).bind (fun r => cond (scalar r) (some (LV.d r)) none) = _
    rw [f_bleftK2 hl, bLK_eq]; rfl
  show eCall f_bleftK (lCons (eVar i) (lCons g lNil)) st = _
  unfold eCall
  rw [hf]
  exact hu
theorem v_brightK {i : Nat} {L : List Ent} {x : Ent} {g : St → Option LV} (h : st.get i = some (.own (eL L))) (hg : g st = some (.d (.str x.2))) (hl : L.length ≤ 99) : eCallK f_brightK eFn (lCons (eVar i) (lCons g lNil)) st = some (.d (.int ((bRG ltE L x : Nat) : Int))) := by
  have hf : lCons (eVar i) (lCons g lNil) st = some [.own (eL L), .d (.str x.2)] := v_lc h (v_l1 hg)
  have hu : ucallOp f_brightK [.own (eL L), .d (.str x.2)] = some (.d (.int ((bRG ltE L x : Nat) : Int))) := by
    show (f_brightK [.d (.list (eL L)), .d (.str x.2)]).bind (fun r => cond (scalar r) (some (LV.d r)) none) = _
    rw [f_brightK2 hl, bRK_eq]; rfl
  show eCall f_brightK (lCons (eVar i) (lCons g lNil)) st = _
  unfold eCall
  rw [hf]
  exact hu
theorem insort_ok {i : Nat} {L : List Ent} {x : Ent} (h : st.get i = some (.own (eL L))) (hf : f st = some (.d (ent x))) (hl : L.length ≤ 99) : mInsort i f_insort f st = some (.d .none, st.set i (.own (eL (insG ltE L x)))) :=
  Option.bind_eq_some_iff.mpr ⟨_, own_of h, Option.bind_eq_some_iff.mpr ⟨_, hf, by
    show (f_insort (eL L) (ent x)).map _ = _
    rw [insort_eq hl]; rfl⟩⟩
end
structure BkSt (falls : List Nat) (ways : List (List Nat)) (order laid : List Ent) (last number : Nat) (st : St) : Prop where
  h41 : st.get 41 = some (.d (.list (eL order)))
  h30 : st.get 30 = some (.d (.list (nI falls)))
  h31 : st.get 31 = some (.d (wD ways))
  h42 : st.get 42 = some (.own (eL laid))
  h11 : st.get 11 = some (.d (.int (number : Int)))
  h29 : st.get 29 = some (.d (.int (last : Int)))
theorem back_step {falls : List Nat} {ways : List (List Nat)} {order laid : List Ent} {last number p : Nat} {x : Ent} {st : St} (B : BkSt falls ways order laid last number st) (hx : order[p]? = some x) (hp : p < ways.length) (hb : ways.length ≤ 50) (hW : (wN ways p).length ≤ 50) (ho : order.length ≤ 50) (hl : laid.length ≤ 50) :
    ∃ st', backBody (st.set 12 (.d (.int (p : Int)))) = some (.next, st') ∧ BkSt falls ways order (insG ltE laid x) (bLG ltE laid x)
      (cond (falls.contains p) (number + ((wN ways p).take (bLG ltE laid x)).sum) (cond (Nat.blt 0 p) (number + (((wN ways p).take (bLG ltE laid x)).drop (last + 1)).sum) number)) st' := by
  obtain ⟨h41, h30, h31, h42, h11, h29⟩ := B
  generalize hWd : wN ways p = W at hW ⊢
  generalize hrank : bLG ltE laid x = rank
  generalize hs0 : st.set 12 (.d (.int (p : Int))) = s0
  have g12 : s0.get 12 = some (.d (.int (p : Int))) := get_sameE hs0
  have g41 := get_neE h41 (by decide) hs0
  have g30 := get_neE h30 (by decide) hs0
  have g31 := get_neE h31 (by decide) hs0
  have g42 := get_neE h42 (by decide) hs0
  have g11 := get_neE h11 (by decide) hs0
  have g29 := get_neE h29 (by decide) hs0
  have hxi : (eL order)[p]? = some (ent x) := by unfold eL; rw [List.getElem?_map, hx]; rfl
  have item : ∀ s : St, s.get 41 = some (.d (.list (eL order))) → s.get 12 = some (.d (.int (p : Int))) → eIdx (eVar 41) (eVar 12) s = some (.d (ent x)) := fun s h1 h2 => v_idx (f := eVar 41) (g := eVar 12) h1 rfl h2 hxi (by lia)
  have row : ∀ s : St, s.get 31 = some (.d (wD ways)) → s.get 12 = some (.d (.int (p : Int))) → eIdx (eVar 31) (eVar 12) s = some (.d (.list (nI W))) := fun s h1 h2 => by
    rw [← hWd]; exact v_row (f := eVar 31) (g := eVar 12) h1 h2 hp (by lia)
  have e0 : bk0 s0 = some (.next, s0.set 34 (.d (.int (rank : Int)))) := asg (by
    rw [← hrank]
    exact v_bleftK (i := 42) g42 (v_keyC (item s0 g41 g12)) (by lia))
  generalize hs1 : s0.set 34 (.d (.int (rank : Int))) = s1 at e0
  have k34 : s1.get 34 = some (.d (.int (rank : Int))) := get_sameE hs1
  have k12 := get_neE g12 (by decide) hs1
  have k41 := get_neE g41 (by decide) hs1
  have k30 := get_neE g30 (by decide) hs1
  have k31 := get_neE g31 (by decide) hs1
  have k42 := get_neE g42 (by decide) hs1
  have k11 := get_neE g11 (by decide) hs1
  have k29 := get_neE g29 (by decide) hs1
  have tin := v_in (f := eVar 12) (g := eVar 30) k12 k30
  have e1 : ∃ s2, bk1 s1 = some (.next, s2) ∧ s2.get 34 = some (.d (.int (rank : Int))) ∧ s2.get 12 = some (.d (.int (p : Int))) ∧ s2.get 41 = some (.d (.list (eL order))) ∧ s2.get 30 = some (.d (.list (nI falls))) ∧ s2.get 31 = some (.d (wD ways)) ∧ s2.get 42 = some (.own (eL laid)) ∧
      s2.get 11 = some (.d (.int ((cond (falls.contains p) (number + (W.take rank).sum) (cond (Nat.blt 0 p) (number + ((W.take rank).drop (last + 1)).sum) number) : Nat) : Int))) := by
    cases q : falls.contains p with
    | true =>
      rw [q] at tin
      exact ⟨_, ifT tin (seqN (augR (v_e2 (f := eVar 11) k11 (v_sum (v_upto (f := eIdx (eVar 31) (eVar 12)) (g := eVar 34) (l := W) (row s1 k31 k12) rfl k34 (by lia)) rfl) rfl)) rfl),
        get_ne k34 (by decide), get_ne k12 (by decide), get_ne k41 (by decide), get_ne k30 (by decide), get_ne k31 (by decide), get_ne k42 (by decide), get_same ..⟩
    | false =>
      rw [q] at tin
      have tgt : tOf truth (e2 oGt (eVar 12) (eC (.int 0))) s1 = some (Nat.blt 0 p) := by rw [blt_dec]; exact v_gt (f := eVar 12) (g := eC (.int 0)) (a := p) (b := 0) k12 rfl
      cases q2 : Nat.blt 0 p with
      | true =>
        rw [q2] at tgt
        exact ⟨_, ifF tin (seqN (ifT tgt (seqN (augR (v_e2 (f := eVar 11) k11 (v_sum (v_run (f := eIdx (eVar 31) (eVar 12)) (g := e2 oAdd (eVar 29) (eC (.int 1))) (k := eVar 34) (l := W) (row s1 k31 k12) rfl (v_add (f := eVar 29) (g := eC (.int 1)) (b := 1) k29 rfl) k34 (by lia)) rfl) rfl)) rfl)) rfl),
          get_ne k34 (by decide), get_ne k12 (by decide), get_ne k41 (by decide), get_ne k30 (by decide), get_ne k31 (by decide), get_ne k42 (by decide), get_same ..⟩
      | false =>
        rw [q2] at tgt
        exact ⟨_, ifF tin (seqN (ifF tgt rfl) rfl), k34, k12, k41, k30, k31, k42, k11⟩
  refine byC fun CC hCC => ?_
  obtain ⟨s2, e1, m34, m12, m41, m30, m31, m42, m11⟩ := e1
  refine hCC ?_
  clear hCC
  have e2 : bk2 s2 = some (.next, s2.set 42 (.own (eL (insG ltE laid x)))) := by
    show (mInsort 42 f_insort (eIdx (eVar 41) (eVar 12)) s2).map _ = _
    rw [insort_ok m42 (item s2 m41 m12) (by lia)]; rfl
  refine ⟨_, seqN e0 (seqN e1 (seqN e2 (seqN (asg (v := eVar 34) (get_ne m34 (by decide))) rfl))), ?_, ?_, ?_, ?_, ?_, ?_⟩
  · exact get_ne (get_ne m41 (by decide)) (by decide)
  · exact get_ne (get_ne m30 (by decide)) (by decide)
  · exact get_ne (get_ne m31 (by decide)) (by decide)
  · exact get_ne (get_same ..) (by decide)
  · exact get_ne (get_ne m11 (by decide)) (by decide)
  · exact get_same ..
theorem back_loop {falls : List Nat} {ways : List (List Nat)} {order : List Ent} (hb : ways.length ≤ 50) (hw : ∀ p, (wN ways p).length ≤ 50) (ho : order.length ≤ ways.length) : ∀ (rest : List Ent) (p : Nat) (laid : List Ent) (last number : Nat) (st : St), BkSt falls ways order laid last number st → order.drop p = rest → laid.length = p →
    ∃ st', forGo 12 backBody ((List.range rest.length).map fun i => .int ((p + i : Nat) : Int)) st = some (.next, st') ∧ st'.get 11 = some (.d (.int ((bGo ltE falls ways rest p laid last number : Nat) : Int))) := by
  intro rest
  induction rest with
  | nil =>
    intro _ _ _ _ st B _ _
    exact ⟨st, rfl, B.h11⟩
  | cons x rest ih =>
    intro p laid last number st B hd hl
    have hx : order[p]? = some x := by rw [← List.head?_drop, hd]; rfl
    have hp : p < order.length := (List.getElem?_eq_some_iff.mp hx).1
    refine byC fun CC hCC => ?_
    obtain ⟨st', e, B'⟩ := back_step B hx (by lia) hb (hw p) (by lia) (by lia)
    obtain ⟨st'', e', h'⟩ := ih (p + 1) (insG ltE laid x) _ _ st' B' (by rw [← List.tail_drop, hd]; rfl) (by rw [ins_len, hl])
    refine hCC ?_
    clear hCC
    refine ⟨st'', ?_, h'⟩
    rw [List.length_cons, List.range_succ_eq_map, List.map_cons, List.map_map]
    rw [forGo_c]
    rw [show PyData.int ((p + 0 : Nat) : Int) = .int (p : Int) from rfl, e]
    show forGo 12 backBody _ st' = _
    rw [← e']
    congr 1
    apply List.map_congr_left
    intro i _
    show PyData.int ((p + (i + 1) : Nat) : Int) = _
    congr 2
    lia
theorem f_back_ok {falls : List Nat} {ways : List (List Nat)} {order : List Ent} (hb : ways.length ≤ 50) (hw : ∀ p, (wN ways p).length ≤ 50) (ho : order.length ≤ ways.length) : f_back [.d (.list (eL order)), .d (.list (nI falls)), .d (wD ways)] = some (.int ((bGo ltE falls ways order 0 [] 0 0 : Nat) : Int)) := by
  have B : BkSt falls ways order [] 0 0 (St.set (St.set (St.set [(41, .d (.list (eL order))), (30, .d (.list (nI falls))), (31, .d (wD ways))] 42 (.own [])) 11 (.d (.int 0))) 29 (.d (.int 0))) := ⟨rfl, rfl, rfl, rfl, rfl, rfl⟩
  obtain ⟨st', e, h⟩ := back_loop hb hw ho order 0 [] 0 0 _ B rfl rfl
  have hr : iRange (lCons (eN oLen (lCons (eVar 41) lNil)) lNil) (St.set (St.set (St.set [(41, .d (.list (eL order))), (30, .d (.list (nI falls))), (31, .d (wD ways))] 42 (.own [])) 11 (.d (.int 0))) 29 (.d (.int 0))) = some ((List.range order.length).map fun i => .int ((0 + i : Nat) : Int)) := by
    rw [v_range1 (n := order.length) (by rw [v_len (f := eVar 41) (xs := eL order) rfl rfl (by rw [eL_len]; lia), eL_len]) (by lia)]
    simp
  have : g_back [(41, .d (.list (eL order))), (30, .d (.list (nI falls))), (31, .d (wD ways))] = some (.ret (.int ((bGo ltE falls ways order 0 [] 0 0 : Nat) : Int)), st') := by
    rw [g_back_eq]
    exact seqN rfl (seqN rfl (seqN rfl (seqN (by unfold sFor; rw [hr]; exact e) (seqR (by
      unfold sRet
      rw [v_dat (f := eVar 11) h]; rfl)))))
  exact congrArg outOf this
end Mine
end

section
open PySem PySem.W PyProof.Rows PySem.Calls
namespace Mine
noncomputable def wy0 : St → Option (Fl × St) := (sAssign 32 (eIdx (eVar 31) (eC (.int 0))))
noncomputable def wy1 : St → Option (Fl × St) := (sIf (tOf truth (e2 oIn (eVar 12) (eVar 30))) (sSeq (sAssignC 33 (eComp 34 [32] (iRange (lCons (eVar 12) lNil)) tTrue (eN oSum (lCons (fzF (eSlice (eVar 32) pNone (pSome (e2 oAdd (eVar 34) (eC (.int 1)))) pNone)) lNil)))) sNil) (sSeq (sAssignC 33 (eComp 34 [32] (iRange (lCons (eVar 12) lNil)) tTrue (eN oSum (lCons (fzF (eSlice (eVar 32) (pSome (e2 oAdd (eVar 34) (eC (.int 1)))) pNone pNone)) lNil)))) sNil))
noncomputable def wy2 : St → Option (Fl × St) := (sExpr (mInsert 31 (eC (.int 0)) (mV (eVar 33))))
noncomputable def waysBody : St → Option (Fl × St) := (sSeq wy0 (sSeq wy1 (sSeq wy2 sNil)))
theorem g_ways_eq : g_ways = sSeq (sAssignF 31 (eList (lCons (fzF (eRep (fzF (eList (lCons (eC (.int 1)) lNil))) (eVar 23))) lNil))) (sSeq (sFor 12 (iRange (lCons (e2 oSub (eVar 23) (eC (.int 1))) (lCons (eC (.int 0)) (lCons (e1 oNeg (eC (.int 1))) lNil)))) waysBody) (sSeq (sRet (eVar 31)) sNil)) := rfl
theorem l_1 {st : St} {a : St → Option LV} {x : PyData} (ha : a st = some (.d x)) : eList (lCons a lNil) st = some [x] := by unfold eList; rw [v_l1 ha]; rfl
noncomputable def wStep (falls : List Nat) (p : Nat) (behind : List Nat) : List Nat := cond (falls.contains p) ((List.range p).map fun r => (behind.take (r + 1)).sum) ((List.range p).map fun r => (behind.drop (r + 1)).sum)
noncomputable def wGo (falls : List Nat) : List Nat → List (List Nat) → List (List Nat)
  | [], acc => acc
  | p :: ps, acc => wGo falls ps (wStep falls p (wN acc 0) :: acc)
noncomputable def waysN (falls : List Nat) (count : Nat) : List (List Nat) := wGo falls ((List.range (count - 1)).map fun i => count - 1 - i) [List.replicate count 1]
theorem rep_one (x : PyData) : ∀ n : Nat, rep [x] n = List.replicate n x
  | 0 => rfl
  | n + 1 => by unfold rep; rw [rep_one x n]; rfl
structure WySt (falls : List Nat) (acc : List (List Nat)) (st : St) : Prop where
  h30 : st.get 30 = some (.d (.list (nI falls)))
  h31 : st.get 31 = some (.own (acc.map fun W => .list (nI W)))
theorem v_row0 {st : St} {acc : List (List Nat)} {i : Nat} (h : st.get i = some (.own (acc.map fun W => .list (nI W)))) (hn : 1 ≤ acc.length) : eIdx (eVar i) (eC (.int 0)) st = some (.d (.list (nI (wN acc 0)))) :=
  v_idx (f := eVar i) (i := 0) h rfl rfl (by unfold wN; rw [List.getElem?_map, List.getElem?_eq_getElem (by (first | assumption | exact Nat.le_refl _ | exact Nat.zero_le _ | exact Nat.lt_succ_self _ | exact Nat.le_of_lt (by assumption) | exact Nat.succ_le_of_lt (by assumption) | lia))]; rfl) (by decide)
theorem insert0V {st : St} {i : Nat} {xs : List PyData} {p : PyData} {f : St → Option LV} (h : st.get i = some (.own xs)) (hf : f st = some (.d p)) (hn : xs.length ≤ 1000) : sExpr (mInsert i (eC (.int 0)) (mV f)) st = some (.next, st.set i (.own (p :: xs))) :=
  insert0_ok h (by unfold mV; rw [hf]; rfl) h hn
theorem ways_step {falls : List Nat} {acc : List (List Nat)} {p : Nat} {st : St} (Y : WySt falls acc st) (hp : p ≤ 50) (h1 : 1 ≤ acc.length) (hn : acc.length ≤ 50) (hW : (wN acc 0).length ≤ 50) :
    ∃ st', waysBody (st.set 12 (.d (.int (p : Int)))) = some (.next, st') ∧ WySt falls (wStep falls p (wN acc 0) :: acc) st' := by
  obtain ⟨h30, h31⟩ := Y
  generalize hWd : wN acc 0 = W at hW ⊢
  generalize hs0 : st.set 12 (.d (.int (p : Int))) = s0
  have g12 : s0.get 12 = some (.d (.int (p : Int))) := get_sameE hs0
  have g30 := get_neE h30 (by decide) hs0
  have g31 := get_neE h31 (by decide) hs0
  have e0 : wy0 s0 = some (.next, s0.set 32 (.d (.list (nI W)))) := asg (by rw [← hWd]; exact v_row0 g31 h1)
  generalize hs1 : s0.set 32 (.d (.list (nI W))) = s1 at e0
  have k32 : s1.get 32 = some (.d (.list (nI W))) := get_sameE hs1
  have k12 := get_neE g12 (by decide) hs1
  have k30 := get_neE g30 (by decide) hs1
  have k31 := get_neE g31 (by decide) hs1
  have rng : iRange (lCons (eVar 12) lNil) s1 = some ((List.range p).map fun i => .int (i : Int)) := v_range1 (f := eVar 12) k12 (by lia)
  have tin := v_in (f := eVar 12) (g := eVar 30) k12 k30
  have e1 : wy1 s1 = some (.next, s1.set 33 (.d (.list (nI (wStep falls p W))))) := by
    unfold wStep
    cases q : falls.contains p with
    | true =>
      rw [q] at tin
      refine ifT tin (seqN (asgC ?_) rfl)
      unfold eComp
      rw [rng]
      show compGo _ _ _ _ = _
      rw [comp_map (fun (i : Nat) => PyData.int (i : Int)) (fun k => .int ((((W.take (k + 1)).sum : Nat)) : Int)) (List.range p) fun k _ => ⟨?_, rfl⟩]
      · unfold nI; simp only [cond_true]; rw [List.map_map]; rfl
      · exact v_sum (v_upto (f := eVar 32) (l := W) (mkC_get k32 (by decide) (by decide)) rfl (v_add (f := eVar 34) (g := eC (.int 1)) (b := 1) mkC_x rfl) (by lia)) rfl
    | false =>
      rw [q] at tin
      refine ifF tin (seqN (asgC ?_) rfl)
      unfold eComp
      rw [rng]
      show compGo _ _ _ _ = _
      rw [comp_map (fun (i : Nat) => PyData.int (i : Int)) (fun k => .int ((((W.drop (k + 1)).sum : Nat)) : Int)) (List.range p) fun k _ => ⟨?_, rfl⟩]
      · unfold nI; simp only [cond_false]; rw [List.map_map]; rfl
      · exact v_sum (v_from (f := eVar 32) (l := W) (mkC_get k32 (by decide) (by decide)) rfl (v_add (f := eVar 34) (g := eC (.int 1)) (b := 1) mkC_x rfl) (by lia)) rfl
  generalize wStep falls p W = A at e1 ⊢
  have e2 := insert0V (st := s1.set 33 (.d (.list (nI A)))) (i := 31) (f := eVar 33) (get_ne k31 (by decide)) (get_same ..) (by simp; lia)
  exact ⟨_, seqN e0 (seqN e1 (seqN e2 rfl)), get_ne (get_ne k30 (by decide)) (by decide), get_same ..⟩
theorem wStep_len {falls : List Nat} {p : Nat} {W : List Nat} : (wStep falls p W).length = p := by
  unfold wStep
  cases falls.contains p <;> simp
theorem ways_loop {falls : List Nat} : ∀ (ps : List Nat) (acc : List (List Nat)) (st : St), WySt falls acc st → (∀ p ∈ ps, p ≤ 50) → 1 ≤ acc.length → acc.length + ps.length ≤ 50 → (wN acc 0).length ≤ 50 →
    ∃ st', forGo 12 waysBody (ps.map fun (p : Nat) => .int (p : Int)) st = some (.next, st') ∧ st'.get 31 = some (.own ((wGo falls ps acc).map fun W => .list (nI W))) := by
  intro ps
  induction ps with
  | nil =>
    intro acc st Y _ _ _ _
    exact ⟨st, rfl, Y.h31⟩
  | cons p ps ih =>
    intro acc st Y hp h1 hn hW
    simp only [List.length_cons] at hn
    obtain ⟨st', e, Y'⟩ := ways_step Y (hp p (.head _)) h1 (by lia) hW
    obtain ⟨st'', e', h'⟩ := ih _ st' Y' (fun q hq => hp q (.tail _ hq)) (by simp) (by simp only [List.length_cons]; lia) (by
      show (wStep falls p (wN acc 0)).length ≤ 50
      rw [wStep_len]; exact hp p (.head _))
    refine ⟨st'', ?_, h'⟩
    rw [List.map_cons]
    rw [forGo_c]
    rw [e]; exact e'
theorem f_ways_ok {falls : List Nat} {count : Nat} (h1 : 1 ≤ count) (hc : count ≤ 40) : f_ways [.d (.list (nI falls)), .d (.int (count : Int))] = some (wD (waysN falls count)) := by
  have e0 : eList (lCons (fzF (eRep (fzF (eList (lCons (eC (.int 1)) lNil))) (eVar 23))) lNil) [(30, .d (.list (nI falls))), (23, .d (.int (count : Int)))] = some [.list (nI (List.replicate count 1))] := by
    have : eRep (fzF (eList (lCons (eC (.int 1)) lNil))) (eVar 23) [(30, .d (.list (nI falls))), (23, .d (.int (count : Int)))] = some (nI (List.replicate count 1)) := by
      refine Option.bind_eq_some_iff.mpr ⟨[.int 1], rfl, Option.bind_eq_some_iff.mpr ⟨(count : Int), rfl, ?_⟩⟩
      rw [if_pos ⟨by lia, by lia, rfl⟩, rep_one]
      unfold nI
      simp
    exact l_1 (fz this)
  have Y : WySt falls [List.replicate count 1] (St.set [(30, .d (.list (nI falls))), (23, .d (.int (count : Int)))] 31 (.own [.list (nI (List.replicate count 1))])) := ⟨rfl, rfl⟩
  have hr : iRange (lCons (e2 oSub (eVar 23) (eC (.int 1))) (lCons (eC (.int 0)) (lCons (e1 oNeg (eC (.int 1))) lNil))) (St.set [(30, .d (.list (nI falls))), (23, .d (.int (count : Int)))] 31 (.own [.list (nI (List.replicate count 1))])) = some (((List.range (count - 1)).map fun i => count - 1 - i).map fun (p : Nat) => .int (p : Int)) := by
    rw [v_range3 (n := count - 1) (v_sub (f := eVar 23) (g := eC (.int 1)) (a := count) (b := 1) rfl rfl h1) rfl rfl (by lia), List.map_map]
    rfl
  obtain ⟨st', e, h⟩ := ways_loop ((List.range (count - 1)).map fun i => count - 1 - i) _ _ Y (fun p hp => by
    obtain ⟨i, hi, rfl⟩ := List.mem_map.mp hp
    omega) (by simp) (by simp; lia) (by show (List.replicate count 1).length ≤ 50; simp; lia)
  have : g_ways [(30, .d (.list (nI falls))), (23, .d (.int (count : Int)))] = some (.ret (wD (waysN falls count)), st') := by
    rw [g_ways_eq]
    exact seqN (asgF e0) (seqN (by unfold sFor; rw [hr]; exact e) (seqR (by
      unfold sRet
      have : eDat (eVar 31) st' = some (wD (waysN falls count)) := by unfold eDat; rw [show eVar 31 st' = _ from h]; rfl
      rw [this]; rfl)))
  exact congrArg outOf this
end Mine
end

section
open PySem PySem.W PyProof.Rows PySem.Calls
namespace Mine
noncomputable def chF : St → Option (Fl × St) := (sSeq (sExpr (mAppend 24 (mV (e2 oMul (eIdx (eVar 24) (e1 oNeg (eC (.int 1)))) (eVar 25))))) sNil)
noncomputable def chI : St → Option (Fl × St) := (sSeq (sIf (tOf truth (e2 oEq (e2 oMod (e2 oFdiv' (eVar 27) (e2 oPow (eC (.int 2)) (eVar 25))) (eC (.int 2))) (eC (.int 1)))) (sSeq (sAug 28 oFdiv' (eIdx (eVar 24) (e2 oSub (eIdx (eVar 22) (eVar 25)) (eVar 29)))) (sSeq (sAssign 29 (eIdx (eVar 22) (eVar 25))) sNil)) (sSeq (sAssign 28 (e1 oNeg (eVar 28))) sNil)) sNil)
noncomputable def co0 : St → Option (Fl × St) := (sAssign 28 (eIdx (eVar 24) (eVar 23)))
noncomputable def co1 : St → Option (Fl × St) := (sAssign 29 (eC (.int 0)))
noncomputable def co2 : St → Option (Fl × St) := (sFor 25 (iRange (lCons (eN oLen (lCons (eVar 22) lNil)) lNil)) (sSeq (sIf (tOf truth (e2 oEq (e2 oMod (e2 oFdiv' (eVar 27) (e2 oPow (eC (.int 2)) (eVar 25))) (eC (.int 2))) (eC (.int 1)))) (sSeq (sAug 28 oFdiv' (eIdx (eVar 24) (e2 oSub (eIdx (eVar 22) (eVar 25)) (eVar 29)))) (sSeq (sAssign 29 (eIdx (eVar 22) (eVar 25))) sNil)) (sSeq (sAssign 28 (e1 oNeg (eVar 28))) sNil)) sNil))
noncomputable def co3 : St → Option (Fl × St) := (sAug 26 oIadd (e2 oFdiv' (eVar 28) (eIdx (eVar 24) (e2 oSub (eVar 23) (eVar 29)))))
noncomputable def chO : St → Option (Fl × St) := (sSeq co0 (sSeq co1 (sSeq co2 (sSeq co3 sNil))))
theorem g_choices_eq : g_choices = sSeq (sAssignF 24 (eList (lCons (eC (.int 1)) lNil))) (sSeq (sFor 25 (iRange (lCons (eC (.int 1)) (lCons (e2 oAdd (eVar 23) (eC (.int 1))) lNil))) chF) (sSeq (sAssign 26 (eC (.int 0))) (sSeq (sFor 27 (iRange (lCons (e2 oPow (eC (.int 2)) (eN oLen (lCons (eVar 22) lNil))) lNil)) chO) (sSeq (sRet (eVar 26)) sNil)))) := rfl
theorem fnOf_ok {init : List LV → Option St} {g : St → Option (Fl × St)} {lvs : List LV} {st s2 : St} {r : PyData} (h : init lvs = some st) (k : g st = some (.ret r, s2)) : fnOfBody init g lvs = some r := by
  unfold fnOfBody
  rw [h]
  simp only [Option.bind_some]
  rw [k]; rfl
theorem bits_le {a : Nat} (h : a ≤ 100000) : Nat.ble (Builtin.Int.intBits (a : Int)) 64 = true := by
  refine Nat.ble_eq_true_of_le ?_
  unfold Builtin.Int.intBits
  by_cases q : a = 0
  · subst q; decide
  · have e : ((a : Int) == 0) = false := beq_eq_false_iff_ne.mpr (by lia)
    rw [e]
    have : a.log2 < 17 := (Nat.log2_lt q).mpr (by lia)
    show ((a : Int).natAbs).log2 + 1 ≤ 64
    rw [Int.natAbs_natCast]
    lia
section
variable {st : St} {f g : St → Option LV}
theorem v_mul {a b : Nat} (hf : f st = some (.d (.int (a : Int)))) (hg : g st = some (.d (.int (b : Int)))) (h : a ≤ 100000) : e2 oMul f g st = some (.d (.int ((a * b : Nat) : Int))) := v_e2 hf hg (by
  unfold oMul
  dsimp only
  rw [bits_le h]; rfl)
theorem v_pow2 {k : Nat} (hg : g st = some (.d (.int (k : Int)))) (h : k ≤ 16) : e2 oPow (eC (.int 2)) g st = some (.d (.int ((2 ^ k : Nat) : Int))) := v_e2 (a := .int 2) rfl hg (by
  unfold oPow
  dsimp only
  have hb : (Builtin.Int.intBits 2 : Int) = 2 := by decide
  rw [if_pos ⟨by lia, by rw [hb]; lia⟩, Int.toNat_natCast]
  unfold retI
  congr 3)
theorem fdiv_op {a : Int} {b : Nat} (h1 : 1 ≤ b) (h2 : b ≤ 100000) : oFdiv' (.int a) (.int (b : Int)) = some (.d (.int (a.fdiv b))) := by
  have hb : Nat.ble ((b : Int).natAbs) 1000000000 = true := by
    rw [Int.natAbs_natCast]
    exact Nat.ble_eq_true_of_le (by lia)
  unfold oFdiv'
  dsimp only
  rw [if_neg (by lia), hb]; rfl
theorem fdiv_nat (a b : Nat) : (a : Int).fdiv (b : Int) = ((a / b : Nat) : Int) := by
  rw [Int.fdiv_eq_ediv_of_nonneg _ (by lia)]; rfl
theorem v_fdiv {a : Int} {b : Nat} (hf : f st = some (.d (.int a))) (hg : g st = some (.d (.int (b : Int)))) (h1 : 1 ≤ b) (h2 : b ≤ 100000) : e2 oFdiv' f g st = some (.d (.int (a.fdiv b))) := v_e2 hf hg (fdiv_op h1 h2)
end
noncomputable def fGo : List Nat → List Nat → Option (List Nat)
  | [], acc => some acc
  | k :: ks, acc => cond (Nat.ble 1 acc.length && Nat.ble (gN acc (acc.length - 1)) 100000) (fGo ks (acc ++ [gN acc (acc.length - 1) * k])) none
theorem fGo_c (k : Nat) (ks acc : List Nat) : fGo (k :: ks) acc = cond (Nat.ble 1 acc.length && Nat.ble (gN acc (acc.length - 1)) 100000) (fGo ks (acc ++ [gN acc (acc.length - 1) * k])) none := rfl
noncomputable def chIn (facts marks : List Nat) (choice : Nat) : List Nat → Int → Nat → Option (Int × Nat)
  | [], s, l => some (s, l)
  | k :: ks, s, l => cond (Nat.beq (choice / 2 ^ k % 2) 1)
      (cond (Nat.ble l (gN marks k) && Nat.blt (gN marks k - l) facts.length && Nat.ble 1 (gN facts (gN marks k - l)) && Nat.ble (gN facts (gN marks k - l)) 100000) (chIn facts marks choice ks (s.fdiv (gN facts (gN marks k - l))) (gN marks k)) none)
      (chIn facts marks choice ks (-s) l)
theorem chIn_c (facts marks : List Nat) (choice k : Nat) (ks : List Nat) (s : Int) (l : Nat) : chIn facts marks choice (k :: ks) s l = cond (Nat.beq (choice / 2 ^ k % 2) 1)
      (cond (Nat.ble l (gN marks k) && Nat.blt (gN marks k - l) facts.length && Nat.ble 1 (gN facts (gN marks k - l)) && Nat.ble (gN facts (gN marks k - l)) 100000) (chIn facts marks choice ks (s.fdiv (gN facts (gN marks k - l))) (gN marks k)) none)
      (chIn facts marks choice ks (-s) l) := rfl
noncomputable def chAll (facts marks : List Nat) (count : Nat) : List Nat → Int → Option Int
  | [], t => some t
  | c :: cs, t => match chIn facts marks c (List.range marks.length) (gN facts count) 0 with
    | some (s, l) => cond (Nat.ble l count && Nat.blt (count - l) facts.length && Nat.ble 1 (gN facts (count - l)) && Nat.ble (gN facts (count - l)) 100000) (chAll facts marks count cs (t + s.fdiv (gN facts (count - l)))) none
    | none => none
theorem chAll_c (facts marks : List Nat) (count c : Nat) (cs : List Nat) (t : Int) : chAll facts marks count (c :: cs) t = match chIn facts marks c (List.range marks.length) (gN facts count) 0 with
    | some (s, l) => cond (Nat.ble l count && Nat.blt (count - l) facts.length && Nat.ble 1 (gN facts (count - l)) && Nat.ble (gN facts (count - l)) 100000) (chAll facts marks count cs (t + s.fdiv (gN facts (count - l)))) none
    | none => none := rfl
noncomputable def chN (marks : List Nat) (count : Nat) : Option Int := match fGo ((List.range count).map (1 + ·)) [1] with
  | some facts => cond (Nat.blt count facts.length && Nat.ble facts.length 50) (chAll facts marks count (List.range (2 ^ marks.length)) 0) none
  | none => none
theorem facts_loop : ∀ (ks acc facts : List Nat) (st : St), st.get 24 = some (.own (nI acc)) → fGo ks acc = some facts → acc.length + ks.length ≤ 500 →
    ∃ st', forGo 25 chF (ks.map fun (k : Nat) => .int (k : Int)) st = some (.next, st') ∧ st'.get 24 = some (.own (nI facts)) ∧ ∀ j, j ≠ 24 → j ≠ 25 → st'.get j = st.get j := by
  intro ks
  induction ks with
  | nil =>
    intro acc facts st h e _
    cases e; exact ⟨st, rfl, h, fun _ _ _ => rfl⟩
  | cons k ks ih =>
    intro acc facts st h e hn
    rw [fGo_c] at e
    simp only [List.length_cons] at hn
    refine cond_elim (c := (Nat.ble 1 acc.length && Nat.ble (gN acc (acc.length - 1)) 100000)) e fun q e => ?_
    simp only [Bool.and_eq_true] at q
    have q1 := Nat.le_of_ble_eq_true q.1
    have q2 := Nat.le_of_ble_eq_true q.2
    have h' := get_ne (i := 25) (v := .d (.int (k : Int))) h (by decide)
    have hl : (nI acc).getLast? = some (.int (gN acc (acc.length - 1) : Int)) := by
      rw [List.getLast?_eq_getElem?, nI_len]
      exact nI_get (by lia)
    have a1 : chF (st.set 25 (.d (.int (k : Int)))) = some (.next, (st.set 25 (.d (.int (k : Int)))).set 24 (.own (nI (acc ++ [gN acc (acc.length - 1) * k])))) := by
      have := append_ok (f := e2 oMul (eIdx (eVar 24) (e1 oNeg (eC (.int 1)))) (eVar 25)) h' (by rw [nI_len]; lia) (v_mul (v_last (f := eVar 24) h' rfl hl) (g := eVar 25) (get_same ..) q2)
      have ap : nI acc ++ [.int ((gN acc (acc.length - 1) * k : Nat) : Int)] = nI (acc ++ [gN acc (acc.length - 1) * k]) := by unfold nI; simp
      rw [ap] at this
      exact seqN this rfl
    obtain ⟨st', e', h2, h3⟩ := ih _ facts ((st.set 25 (.d (.int (k : Int)))).set 24 (.own (nI (acc ++ [gN acc (acc.length - 1) * k])))) (get_same ..) e (by simp; lia)
    refine ⟨st', ?_, h2, fun j j1 j2 => (h3 j j1 j2).trans (get_ne (get_ne rfl j2) j1)⟩
    rw [List.map_cons]
    rw [forGo_c]
    rw [a1]; exact e'
structure ChSt (facts marks : List Nat) (choice : Nat) (s : Int) (l : Nat) (st : St) : Prop where
  h22 : st.get 22 = some (.d (.list (nI marks)))
  h24 : st.get 24 = some (.own (nI facts))
  h27 : st.get 27 = some (.d (.int (choice : Int)))
  h28 : st.get 28 = some (.d (.int s))
  h29 : st.get 29 = some (.d (.int (l : Int)))
theorem chIn_loop {facts marks : List Nat} {choice : Nat} (hf : facts.length ≤ 50) (hm : marks.length ≤ 16) : ∀ (ks : List Nat) (s : Int) (l : Nat) (r : Int) (l' : Nat) (st : St), ChSt facts marks choice s l st → (∀ k ∈ ks, k < marks.length) → chIn facts marks choice ks s l = some (r, l') →
    ∃ st', forGo 25 chI (ks.map fun (k : Nat) => .int (k : Int)) st = some (.next, st') ∧ ChSt facts marks choice r l' st' ∧ ∀ j, j ≠ 25 → j ≠ 28 → j ≠ 29 → st'.get j = st.get j := by
  intro ks
  induction ks with
  | nil =>
    intro s l r l' st C _ e
    cases e; exact ⟨st, rfl, C, fun _ _ _ _ => rfl⟩
  | cons k ks ih =>
    intro s l r l' st C hk e
    have hk0 := hk k (.head _)
    obtain ⟨h22, h24, h27, h28, h29⟩ := C
    rw [chIn_c] at e
    generalize hs0 : st.set 25 (.d (.int (k : Int))) = s0
    have g25 : s0.get 25 = some (.d (.int (k : Int))) := get_sameE hs0
    have g22 := get_neE h22 (by decide) hs0
    have g24 := get_neE h24 (by decide) hs0
    have g27 := get_neE h27 (by decide) hs0
    have g28 := get_neE h28 (by decide) hs0
    have g29 := get_neE h29 (by decide) hs0
    have pw : (2 : Nat) ^ k ≤ 100000 := Nat.le_trans (Nat.pow_le_pow_right (by decide) (show k ≤ 16 by lia)) (by decide)
    have t0 : tOf truth (e2 oEq (e2 oMod (e2 oFdiv' (eVar 27) (e2 oPow (eC (.int 2)) (eVar 25))) (eC (.int 2))) (eC (.int 1))) s0 = some (choice / 2 ^ k % 2 == 1) :=
      v_eqN (y := 1) (v_mod (b := 2) (by rw [v_fdiv (f := eVar 27) g27 (v_pow2 (g := eVar 25) g25 (by lia)) (Nat.pos_of_ne_zero (by
        intro h; have := Nat.pow_pos (n := k) (show 0 < 2 by decide); lia)) pw, fdiv_nat]) rfl (by decide)) rfl
    have keep : ∀ {s2 : St}, (∀ j, j ≠ 28 → j ≠ 29 → s2.get j = s0.get j) → ∀ j, j ≠ 25 → j ≠ 28 → j ≠ 29 → s2.get j = st.get j := fun h j j1 j2 j3 => (h j j2 j3).trans (by rw [← hs0]; exact get_ne rfl j1)
    have fin : ∀ {s2 : St} {sv : Int} {lv : Nat}, chI s0 = some (.next, s2) → ChSt facts marks choice sv lv s2 → (∀ j, j ≠ 28 → j ≠ 29 → s2.get j = s0.get j) → chIn facts marks choice ks sv lv = some (r, l') →
        ∃ st', forGo 25 chI ((k :: ks).map fun (k : Nat) => .int (k : Int)) st = some (.next, st') ∧ ChSt facts marks choice r l' st' ∧ ∀ j, j ≠ 25 → j ≠ 28 → j ≠ 29 → st'.get j = st.get j := fun a1 C' kp e' => by
      obtain ⟨st', e2, C2, k2⟩ := ih _ _ r l' _ C' (fun q hq => hk q (.tail _ hq)) e'
      refine ⟨st', ?_, C2, fun j j1 j2 j3 => (k2 j j1 j2 j3).trans (keep kp j j1 j2 j3)⟩
      rw [List.map_cons]
      rw [forGo_c]
      rw [hs0, a1]; exact e2
    have tb : Nat.beq (choice / 2 ^ k % 2) 1 = (choice / 2 ^ k % 2 == 1) := by rw [beq_dec]; rfl
    rw [tb] at e
    cases q : (choice / 2 ^ k % 2 == 1) with
    | true =>
      rw [q] at e t0
      simp only [cond_true] at e
      generalize hmk : gN marks k = mk at e
      refine cond_elim (c := (Nat.ble l mk && Nat.blt (mk - l) facts.length && Nat.ble 1 (gN facts (mk - l)) && Nat.ble (gN facts (mk - l)) 100000)) e fun q2 e => ?_
      simp only [Bool.and_eq_true, blt_dec, decide_eq_true_eq] at q2
      obtain ⟨⟨⟨a1, a2⟩, a3⟩, a4⟩ := q2
      have a1 := Nat.le_of_ble_eq_true a1
      have a3 := Nat.le_of_ble_eq_true a3
      have a4 := Nat.le_of_ble_eq_true a4
      have im : ∀ s : St, s.get 22 = some (.d (.list (nI marks))) → s.get 25 = some (.d (.int (k : Int))) → eIdx (eVar 22) (eVar 25) s = some (.d (.int (mk : Int))) := fun s b1 b2 => by
        rw [← hmk]; exact v_idxI (f := eVar 22) (g := eVar 25) b1 rfl b2 hk0 (by lia)
      have c1 := augR (i := 28) (op := oFdiv') (st := s0) (v_fdiv (f := eVar 28) (g := eIdx (eVar 24) (e2 oSub (eIdx (eVar 22) (eVar 25)) (eVar 29))) g28 (v_idxI (f := eVar 24) g24 rfl (v_sub (im s0 g22 g25) (g := eVar 29) g29 a1) a2 (by lia)) a3 a4)
      generalize hv : LV.d (.int (s.fdiv (gN facts (mk - l)))) = v1 at c1
      have c2 := asg (i := 29) (st := s0.set 28 v1) (im _ (get_ne g22 (by decide)) (get_ne g25 (by decide)))
      refine fin (seqN (ifT t0 (seqN c1 (seqN c2 rfl))) rfl) ⟨get_ne (get_ne g22 (by decide)) (by decide), get_ne (get_ne g24 (by decide)) (by decide), get_ne (get_ne g27 (by decide)) (by decide), get_ne ((get_same ..).trans (by rw [← hv])) (by decide), get_same ..⟩ (fun j j1 j2 => get_ne (get_ne rfl j1) j2) e
    | false =>
      rw [q] at e t0
      simp only [cond_false] at e
      have c1 := asg (i := 28) (v := e1 oNeg (eVar 28)) (st := s0) (p := .int (-s)) (by unfold e1; rw [v_dat (f := eVar 28) g28]; rfl)
      exact fin (seqN (ifF t0 (seqN c1 rfl)) rfl) ⟨get_ne g22 (by decide), get_ne g24 (by decide), get_ne g27 (by decide), get_same .., get_ne g29 (by decide)⟩ (fun j j1 j2 => get_ne rfl j1) e
structure COSt (facts marks : List Nat) (count : Nat) (t : Int) (st : St) : Prop where
  h22 : st.get 22 = some (.d (.list (nI marks)))
  h23 : st.get 23 = some (.d (.int (count : Int)))
  h24 : st.get 24 = some (.own (nI facts))
  h26 : st.get 26 = some (.d (.int t))
theorem chAll_loop {facts marks : List Nat} {count : Nat} (hf : facts.length ≤ 50) (hc : count < facts.length) (hm : marks.length ≤ 16) : ∀ (cs : List Nat) (t r : Int) (st : St), COSt facts marks count t st → chAll facts marks count cs t = some r →
    ∃ st', forGo 27 chO (cs.map fun (c : Nat) => .int (c : Int)) st = some (.next, st') ∧ st'.get 26 = some (.d (.int r)) := by
  intro cs
  induction cs with
  | nil =>
    intro t r st C e
    cases e; exact ⟨st, rfl, C.h26⟩
  | cons c cs ih =>
    intro t r st C e
    obtain ⟨h22, h23, h24, h26⟩ := C
    rw [chAll_c] at e
    cases q : chIn facts marks c (List.range marks.length) (gN facts count) 0 with
    | none => rw [q] at e; cases e
    | some sl =>
      obtain ⟨s, l⟩ := sl
      rw [q] at e
      dsimp only at e
      refine cond_elim (c := (Nat.ble l count && Nat.blt (count - l) facts.length && Nat.ble 1 (gN facts (count - l)) && Nat.ble (gN facts (count - l)) 100000)) e fun q2 e => ?_
      simp only [Bool.and_eq_true, blt_dec, decide_eq_true_eq] at q2
      obtain ⟨⟨⟨a1, a2⟩, a3⟩, a4⟩ := q2
      have a1 := Nat.le_of_ble_eq_true a1
      have a3 := Nat.le_of_ble_eq_true a3
      have a4 := Nat.le_of_ble_eq_true a4
      generalize hs0 : st.set 27 (.d (.int (c : Int))) = s0
      have g27 : s0.get 27 = some (.d (.int (c : Int))) := get_sameE hs0
      have g22 := get_neE h22 (by decide) hs0
      have g23 := get_neE h23 (by decide) hs0
      have g24 := get_neE h24 (by decide) hs0
      have g26 := get_neE h26 (by decide) hs0
      have e0 : co0 s0 = some (.next, s0.set 28 (.d (.int (gN facts count : Int)))) := asg (v_idxI (f := eVar 24) (g := eVar 23) g24 rfl g23 hc (by lia))
      have e1' : co1 (s0.set 28 (.d (.int (gN facts count : Int)))) = some (.next, (s0.set 28 (.d (.int (gN facts count : Int)))).set 29 (.d (.int ((0 : Nat) : Int)))) := asg rfl
      generalize hs2 : (s0.set 28 (.d (.int (gN facts count : Int)))).set 29 (.d (.int ((0 : Nat) : Int))) = s2 at e1'
      have C2 : ChSt facts marks c (gN facts count) 0 s2 := by
        rw [← hs2]
        exact ⟨get_ne (get_ne g22 (by decide)) (by decide), get_ne (get_ne g24 (by decide)) (by decide), get_ne (get_ne g27 (by decide)) (by decide), get_ne (get_same ..) (by decide), get_same ..⟩
      have k23 : s2.get 23 = some (.d (.int (count : Int))) := by rw [← hs2]; exact get_ne (get_ne g23 (by decide)) (by decide)
      have k26 : s2.get 26 = some (.d (.int t)) := by rw [← hs2]; exact get_ne (get_ne g26 (by decide)) (by decide)
      refine byC fun CC hCC => ?_
      obtain ⟨s3, e2', C3, kp⟩ := chIn_loop hf hm (List.range marks.length) _ _ s l s2 C2 (fun k hk => List.mem_range.mp hk) q
      have hr : iRange (lCons (eN oLen (lCons (eVar 22) lNil)) lNil) s2 = some ((List.range marks.length).map fun i => .int (i : Int)) := v_range1 (by rw [v_len (f := eVar 22) (xs := nI marks) C2.h22 rfl (by rw [nI_len]; lia), nI_len]) (by lia)
      have e2'' : co2 s2 = some (.next, s3) := by show sFor 25 _ chI s2 = _; unfold sFor; rw [hr]; exact e2'
      have m23 : s3.get 23 = some (.d (.int (count : Int))) := (kp 23 (by decide) (by decide) (by decide)).trans k23
      have m26 : s3.get 26 = some (.d (.int t)) := (kp 26 (by decide) (by decide) (by decide)).trans k26
      have e3' : co3 s3 = some (.next, s3.set 26 (.d (.int (t + s.fdiv (gN facts (count - l)))))) := augR (v_e2 (f := eVar 26) m26 (v_fdiv (f := eVar 28) C3.h28 (v_idxI (f := eVar 24) C3.h24 rfl (v_sub (f := eVar 23) (g := eVar 29) m23 C3.h29 a1) a2 (by lia)) a3 a4) rfl)
      obtain ⟨st', e', h'⟩ := ih _ r _ ⟨get_ne C3.h22 (by decide), get_ne m23 (by decide), get_ne C3.h24 (by decide), get_same ..⟩ e
      refine hCC ?_
      clear hCC
      refine ⟨st', ?_, h'⟩
      rw [List.map_cons]
      rw [forGo_c]
      rw [hs0, show chO s0 = _ from seqN e0 (seqN e1' (seqN e2'' (seqN e3' rfl)))]
      exact e'
theorem f_choices_ok {marks : List Nat} {count : Nat} {total : Int} (hc : count ≤ 50) (hm : marks.length ≤ 9) (e : chN marks count = some total) : f_choices [.d (.list (nI marks)), .d (.int (count : Int))] = some (.int total) := by
  unfold chN at e
  cases q : fGo ((List.range count).map (1 + ·)) [1] with
  | none => rw [q] at e; cases e
  | some facts =>
    rw [q] at e
    dsimp only at e
    refine cond_elim (c := (Nat.blt count facts.length && Nat.ble facts.length 50)) e fun q2 e => ?_
    simp only [Bool.and_eq_true, blt_dec, decide_eq_true_eq] at q2
    have q3 := Nat.le_of_ble_eq_true q2.2
    have hr1 : iRange (lCons (eC (.int 1)) (lCons (e2 oAdd (eVar 23) (eC (.int 1))) lNil)) (St.set [(22, .d (.list (nI marks))), (23, .d (.int (count : Int)))] 24 (.own [.int 1])) = some (((List.range count).map (1 + ·)).map fun (k : Nat) => .int (k : Int)) := by
      rw [v_range2 (a := 1) (b := count + 1) rfl (v_add (f := eVar 23) (g := eC (.int 1)) (a := count) (b := 1) rfl rfl) (by decide) (by lia), List.map_map]
      rfl
    refine byC fun CC hCC => ?_
    obtain ⟨s1, e1', h24, kp⟩ := facts_loop ((List.range count).map (1 + ·)) [1] facts (St.set [(22, .d (.list (nI marks))), (23, .d (.int (count : Int)))] 24 (.own [.int 1])) rfl q (by simp; lia)
    have g22 : s1.get 22 = some (.d (.list (nI marks))) := kp 22 (by decide) (by decide)
    have g23 : s1.get 23 = some (.d (.int (count : Int))) := kp 23 (by decide) (by decide)
    have hr2 : iRange (lCons (e2 oPow (eC (.int 2)) (eN oLen (lCons (eVar 22) lNil))) lNil) (s1.set 26 (.d (.int 0))) = some ((List.range (2 ^ marks.length)).map fun i => .int (i : Int)) := by
      refine v_range1 (v_pow2 (k := marks.length) ?_ (by lia)) ?_
      · rw [v_len (f := eVar 22) (xs := nI marks) (get_ne g22 (by decide)) rfl (by rw [nI_len]; lia), nI_len]
      · exact Nat.le_trans (Nat.pow_le_pow_right (by decide) hm) (by decide)
    obtain ⟨s2, e2', h26⟩ := chAll_loop q3 q2.1 (by lia) (List.range (2 ^ marks.length)) 0 total (s1.set 26 (.d (.int 0))) ⟨get_ne g22 (by decide), get_ne g23 (by decide), get_ne h24 (by decide), get_same ..⟩ e
    refine hCC ?_
    clear hCC
    have : g_choices [(22, .d (.list (nI marks))), (23, .d (.int (count : Int)))] = some (.ret (.int total), s2) := by
      rw [g_choices_eq]
      exact seqN rfl (seqN (by unfold sFor; rw [hr1]; exact e1') (seqN (asg rfl) (seqN (by unfold sFor; rw [hr2]; exact e2') (seqR (by
        unfold sRet
        rw [v_dat (f := eVar 26) h26]; rfl)))))
    have hi : initP [22, 23] [.d (.list (nI marks)), .d (.int (count : Int))] = some [(22, .d (.list (nI marks))), (23, .d (.int (count : Int)))] := rfl
    exact fnOf_ok (init := initP [22, 23]) (g := g_choices) hi this
end Mine
end

section
open PySem PySem.W PyProof.Rows PySem.Calls
namespace Mine
end Mine
end

section
open PySem PySem.W PyProof.Rows PySem.Calls
namespace Mine
noncomputable def pk0 : St → Option (Fl × St) := (sAssignM 13 (mPop 45 (e2 oMod (eCall (f_figure) (lCons (eIdx (eVar 44) (eC (.int 1))) (lCons (eVar 25) lNil))) (eN oLen (lCons (eVar 45) lNil)))))
noncomputable def pk1 : St → Option (Fl × St) := (sAssign 47 (fzF (eList (lCons (eVar 13) (lCons (fzF (eList (lCons (e2 oAdd (eIdx (eVar 13) (eC (.int 0))) (eC (.int 9))) (lCons (eIdx (eVar 13) (eC (.int 1))) lNil)))) lNil)))))
noncomputable def pk2 : St → Option (Fl × St) := (sFor 48 (iLst (eVar 47)) (sSeq (sIfNN (mInsort 46 f_insort (eVar 48)) (sSeq (sRetV (eC (.bool false))) sNil) sNil) sNil))
noncomputable def pk3 : St → Option (Fl × St) := (sAssign 49 (eCallK f_bleftK eFn (lCons (eVar 46) (lCons (eCall (f_key) (lCons (eVar 13) lNil)) lNil))))
noncomputable def pk4 : St → Option (Fl × St) := (sIf (tOf truth (e2 oNe (fzF (eSlice (eVar 46) (pSome (eVar 49)) (pSome (eCallK f_brightK eFn (lCons (eVar 46) (lCons (eIdx (eVar 13) (eC (.int 1))) lNil)))) pNone)) (eVar 47))) (sSeq (sRetV (eC (.bool false))) sNil) sNil)
noncomputable def pickBody : St → Option (Fl × St) := (sSeq pk0 (sSeq pk1 (sSeq pk2 (sSeq pk3 (sSeq pk4 sNil)))))
theorem s_law5_eq : s_law5 = sFor 25 (iRange (lCons (eVar 23) lNil)) pickBody := rfl
noncomputable def dN (n : Int) (k : Nat) : Nat := ((n.fdiv (10 ^ k : Nat)).fmod 10).toNat
theorem dN_int (n : Int) (k : Nat) : ((dN n k : Nat) : Int) = (n.fdiv (10 ^ k : Nat)).fmod 10 := by
  unfold dN
  have h1 := Int.fmod_nonneg_of_pos (n.fdiv (10 ^ k : Nat)) (show (0 : Int) < 10 by decide)
  omega
theorem pow10 {k : Nat} (h : k ≤ 8) : oPow (.int 10) (.int (k : Int)) = some (.d (.int ((10 ^ k : Nat) : Int))) := by
  unfold oPow
  dsimp only
  have hb : (Builtin.Int.intBits 10 : Int) = 4 := by decide
  rw [if_pos ⟨by lia, by rw [hb]; lia⟩, Int.toNat_natCast]
  unfold retI
  congr 3
theorem fdiv_op' {a : Int} {b : Nat} (h1 : 1 ≤ b) (h2 : b ≤ 1000000000) : oFdiv' (.int a) (.int (b : Int)) = some (.d (.int (a.fdiv b))) := by
  have hb : Nat.ble ((b : Int).natAbs) 1000000000 = true := by
    rw [Int.natAbs_natCast]
    exact Nat.ble_eq_true_of_le h2
  unfold oFdiv'
  dsimp only
  rw [if_neg (by lia), hb]; rfl
theorem f_fig {n : Int} {k : Nat} (h : k ≤ 8) : f_figure [.d (.int n), .d (.int (k : Int))] = some (.int (dN n k : Int)) := by
  have e : e2 oMod (e2 oFdiv' (eVar 11) (e2 oPow (eC (.int 10)) (eVar 12))) (eC (.int 10)) [(11, .d (.int n)), (12, .d (.int (k : Int)))] = some (.d (.int (dN n k : Int))) := by
    refine v_e2 (a := .int (n.fdiv (10 ^ k : Nat))) (b := .int 10) (v_e2 (f := eVar 11) (a := .int n) rfl (v_e2 (g := eVar 12) rfl rfl (pow10 h)) (fdiv_op' (Nat.pow_pos (by decide)) (Nat.le_trans (Nat.pow_le_pow_right (by decide) h) (by decide)))) rfl ?_
    rw [dN_int]
    unfold oMod
    dsimp only
    rw [if_neg (by decide)]; rfl
  have : g_figure [(11, .d (.int n)), (12, .d (.int (k : Int)))] = some (.ret (.int (dN n k : Int)), [(11, .d (.int n)), (12, .d (.int (k : Int)))]) := seqR (retV e)
  exact fnOf_ok (init := initP [11, 12]) (g := g_figure) rfl this
section
variable {st : St} {g : St → Option LV}
noncomputable def cellsI (c0 c1 c2 : Int) : List PyData := [.int c0, .int c1, .int c2]
theorem v_fig {c0 c1 c2 : Int} {j k : Nat} {c : Int} (h : st.get 44 = some (.own (cellsI c0 c1 c2))) (hj : (cellsI c0 c1 c2)[j]? = some (.int c)) (hj2 : j ≤ 2) (hg : g st = some (.d (.int (k : Int)))) (hk : k ≤ 8) :
    eCall f_figure (lCons (eIdx (eVar 44) (eC (.int (j : Int)))) (lCons g lNil)) st = some (.d (.int (dN c k : Int))) :=
  v_callD (v_l2 (v_idx (f := eVar 44) (g := eC (.int (j : Int))) h rfl rfl hj (by lia)) hg) rfl (f_fig hk)
end
noncomputable def lt2 (a b : Nat) : Bool := Nat.blt (a / 2) (b / 2)
noncomputable def strN : Nat → Str
  | 0 => ""
  | 1 => " "
  | 2 => "A"
  | 3 => "Aa"
  | 4 => "B"
  | 5 => "a"
  | 6 => "aB"
  | 7 => "f"
  | _ => "é"
noncomputable def enN (k : Nat) : Ent := (((8 - k / 2 + 9 * (k % 2) : Nat) : Int), strN (k / 2))
theorem enN_lt : ∀ a < 18, ∀ b < 18, ltE (enN a) (enN b) = lt2 a b := by decide +kernel
theorem strN_ok : ∀ a < 9, PyData.strOk (strN a) = true := by decide +kernel
noncomputable def pkStep (pool tw : List Nat) (i : Nat) : Option (List Nat × List Nat) := match pool[i]? with
  | some x => cond (((insG lt2 (insG lt2 tw (2 * x)) (2 * x + 1)).take (bRG lt2 (insG lt2 (insG lt2 tw (2 * x)) (2 * x + 1)) (2 * x))).drop (bLG lt2 (insG lt2 (insG lt2 tw (2 * x)) (2 * x + 1)) (2 * x)) == [2 * x, 2 * x + 1])
      (some (pool.eraseIdx i, insG lt2 (insG lt2 tw (2 * x)) (2 * x + 1))) none
  | none => none
theorem eL_enN_lt {l : List Nat} {x : Nat} (hl : ∀ a ∈ l, a < 18) (hx : x < 18) : (∀ a ∈ l, ltE (enN a) (enN x) = lt2 a x) ∧ (∀ a ∈ l, ltE (enN x) (enN a) = lt2 x a) := ⟨fun a ha => enN_lt a (hl a ha) x hx, fun a ha => enN_lt x hx a (hl a ha)⟩
noncomputable def poolD (pool : List Nat) : List PyData := eL (pool.map fun x => enN (2 * x))
noncomputable def twD (tw : List Nat) : List PyData := eL (tw.map enN)
structure PkSt (c0 c1 c2 : Int) (pool tw : List Nat) (st : St) : Prop where
  h44 : st.get 44 = some (.own (cellsI c0 c1 c2))
  h45 : st.get 45 = some (.own (poolD pool))
  h46 : st.get 46 = some (.own (twD tw))
theorem ne_same {v : PyData} (h1 : eqOk v v = true) (h2 : PyData.eqv v v = true) : oNe v v = some (.d (.bool false)) := by
  unfold oNe
  rw [h1, h2]; rfl
theorem two_same {i j : Int} {x : Str} (h : PyData.strOk x = true) : oNe (.list [ent (i, x), ent (j, x)]) (.list [ent (i, x), ent (j, x)]) = some (.d (.bool false)) := by
  refine ne_same ?_ ?_
  · have e : PyData.canLay0 (.list [ent (i, x), ent (j, x)]) = true := by
      simp [ent, PyData.canLay0, PyData.canLayAll0, h]
    have d : PyData.depth (.list [ent (i, x), ent (j, x)]) = 2 := by
      simp [ent, PyData.depth, PyData.depthAll]
    unfold eqOk
    rw [e, d]; rfl
  · simp [ent, PyData.eqv, PyData.eqvAll]
theorem pick_step {c0 c1 c2 : Int} {pool tw pool' tw' : List Nat} {k : Nat} {st : St} (P : PkSt c0 c1 c2 pool tw st) (hk : k ≤ 8) (hp : 1 ≤ pool.length) (hpn : pool.length ≤ 9) (hpl : ∀ x ∈ pool, x < 9) (htw : ∀ x ∈ tw, x < 18) (htn : tw.length ≤ 18) (e : pkStep pool tw (dN c1 k % pool.length) = some (pool', tw')) :
    ∃ st', pickBody (st.set 25 (.d (.int (k : Int)))) = some (.next, st') ∧ PkSt c0 c1 c2 pool' tw' st' ∧ st'.get 23 = st.get 23 := by
  obtain ⟨h44, h45, h46⟩ := P
  unfold pkStep at e
  generalize hi : dN c1 k % pool.length = i at e
  have hil : i < pool.length := by rw [← hi]; exact Nat.mod_lt _ (by (first | assumption | exact Nat.le_refl _ | exact Nat.zero_le _ | exact Nat.lt_succ_self _ | exact Nat.le_of_lt (by assumption) | exact Nat.succ_le_of_lt (by assumption) | lia))
  have hx0 : pool[i]? = some pool[i] := List.getElem?_eq_getElem hil
  generalize hxd : pool[i] = x at hx0
  have hx9 : x < 9 := hpl x (by rw [← hxd]; exact List.getElem_mem hil)
  rw [hx0] at e
  dsimp only at e
  generalize ht1 : insG lt2 tw (2 * x) = t1 at e
  generalize ht2 : insG lt2 t1 (2 * x + 1) = t2 at e
  refine cond_elim (c := ((t2.take (bRG lt2 t2 (2 * x))).drop (bLG lt2 t2 (2 * x)) == [2 * x, 2 * x + 1])) e fun q e => ?_
  simp only [cond_true, Option.some.injEq, Prod.mk.injEq] at e
  obtain ⟨rfl, rfl⟩ := e
  have q := eq_of_beq q
  have m1 : ∀ a ∈ t1, a < 18 := fun a ha => by
    rw [← ht1] at ha
    rcases ins_mem ha with rfl | ha
    · lia
    · exact htw a ha
  have m2 : ∀ a ∈ t2, a < 18 := fun a ha => by
    rw [← ht2] at ha
    rcases ins_mem ha with rfl | ha
    · lia
    · exact m1 a ha
  have l1 : t1.length ≤ 19 := by rw [← ht1, ins_len]; lia
  have l2 : t2.length ≤ 20 := by rw [← ht2, ins_len]; lia
  generalize hs0 : st.set 25 (.d (.int (k : Int))) = s0
  have g25 : s0.get 25 = some (.d (.int (k : Int))) := get_sameE hs0
  have g44 := get_neE h44 (by decide) hs0
  have g45 := get_neE h45 (by decide) hs0
  have g46 := get_neE h46 (by decide) hs0
  have g23 : s0.get 23 = st.get 23 := get_neE rfl (by decide) hs0
  have pl : (poolD pool).length = pool.length := by unfold poolD; rw [eL_len, List.length_map]
  have px : (poolD pool)[i]? = some (ent (enN (2 * x))) := by unfold poolD eL; rw [List.getElem?_map, List.getElem?_map, hx0]; rfl
  have p1 := pop_ok (st := s0) (g := e2 oMod (eCall f_figure (lCons (eIdx (eVar 44) (eC (.int 1))) (lCons (eVar 25) lNil))) (eN oLen (lCons (eVar 45) lNil))) (k := i) g45 (by
    rw [← hi]
    exact v_mod (v_fig (j := 1) (k := k) (c := c1) g44 rfl (by decide) (g := eVar 25) g25 hk) (by rw [v_len (f := eVar 45) g45 rfl (by rw [pl]; lia), pl]) (by (first | assumption | exact Nat.le_refl _ | exact Nat.zero_le _ | exact Nat.lt_succ_self _ | exact Nat.le_of_lt (by assumption) | exact Nat.succ_le_of_lt (by assumption) | lia))) px (by rw [pl]; lia)
  have pe : (poolD pool).eraseIdx i = poolD (pool.eraseIdx i) := by unfold poolD eL; rw [era_map, era_map]
  rw [pe] at p1
  have e0 : pk0 s0 = some (.next, (s0.set 45 (.own (poolD (pool.eraseIdx i)))).set 13 (.d (ent (enN (2 * x))))) := by
    show (mPop 45 _ s0).bind _ = _
    rw [p1]; rfl
  generalize hs1 : (s0.set 45 (.own (poolD (pool.eraseIdx i)))).set 13 (.d (ent (enN (2 * x)))) = s1 at e0
  have k13 : s1.get 13 = some (.d (ent (enN (2 * x)))) := get_sameE hs1
  have k45 : s1.get 45 = some (.own (poolD (pool.eraseIdx i))) := by rw [← hs1]; exact get_ne (get_same ..) (by decide)
  have k44 : s1.get 44 = some (.own (cellsI c0 c1 c2)) := by rw [← hs1]; exact get_ne (get_ne g44 (by decide)) (by decide)
  have k46 : s1.get 46 = some (.own (twD tw)) := by rw [← hs1]; exact get_ne (get_ne g46 (by decide)) (by decide)
  have k23 : s1.get 23 = st.get 23 := by rw [← hs1]; exact (get_ne (get_ne rfl (by decide)) (by decide)).trans g23
  have en1 : enN (2 * x + 1) = ((enN (2 * x)).1 + 9, (enN (2 * x)).2) := by
    unfold enN
    have a1 : (2 * x + 1) / 2 = x := by lia
    have a2 : (2 * x) / 2 = x := by lia
    have a3 : (2 * x + 1) % 2 = 1 := by lia
    have a4 : (2 * x) % 2 = 0 := by lia
    rw [a1, a2, a3, a4]
    simp
  have i0 : ∀ s : St, s.get 13 = some (.d (ent (enN (2 * x)))) → eIdx (eVar 13) (eC (.int 0)) s = some (.d (.int (enN (2 * x)).1)) := fun s h => v_idx (f := eVar 13) (i := 0) h rfl rfl rfl (by decide)
  have i1 : ∀ s : St, s.get 13 = some (.d (ent (enN (2 * x)))) → eIdx (eVar 13) (eC (.int 1)) s = some (.d (.str (enN (2 * x)).2)) := fun s h => v_idx (f := eVar 13) (i := 1) h rfl rfl rfl (by decide)
  have e1 : pk1 s1 = some (.next, s1.set 47 (.d (.list [ent (enN (2 * x)), ent (enN (2 * x + 1))]))) := asg (l_2 (a := eVar 13) k13 (by
    rw [en1]
    exact l_2 (v_e2 (i0 s1 k13) rfl rfl) (i1 s1 k13)))
  generalize hs2 : s1.set 47 (.d (.list [ent (enN (2 * x)), ent (enN (2 * x + 1))])) = s2 at e1
  have m47 : s2.get 47 = some (.d (.list [ent (enN (2 * x)), ent (enN (2 * x + 1))])) := get_sameE hs2
  have m13 := get_neE k13 (by decide) hs2
  have m44 := get_neE k44 (by decide) hs2
  have m45 := get_neE k45 (by decide) hs2
  have m46 := get_neE k46 (by decide) hs2
  have m23 : s2.get 23 = st.get 23 := by rw [← hs2]; exact (get_ne rfl (by decide)).trans k23
  have twin : ∀ (s : St) (l : List Nat) (y : Nat), s.get 46 = some (.own (twD l)) → (∀ a ∈ l, a < 18) → y < 18 → l.length ≤ 19 → (sSeq (sIfNN (mInsort 46 f_insort (eVar 48)) (sSeq (sRetV (eC (.bool false))) sNil) sNil) sNil) (s.set 48 (.d (ent (enN y)))) = some (.next, (s.set 48 (.d (ent (enN y)))).set 46 (.own (twD (insG lt2 l y)))) := fun s l y h hl hy hn => by
    refine seqN ?_ rfl
    have := insort_ok (st := s.set 48 (.d (ent (enN y)))) (i := 46) (L := l.map enN) (x := enN y) (f := eVar 48) (get_ne h (by decide)) (get_same ..) (by rw [List.length_map]; lia)
    rw [insG_map (eL_enN_lt hl hy).2] at this
    show (mInsort 46 f_insort (eVar 48) _).bind _ = _
    rw [this]; rfl
  have e2' : pk2 s2 = some (.next, (((s2.set 48 (.d (ent (enN (2 * x))))).set 46 (.own (twD t1))).set 48 (.d (ent (enN (2 * x + 1))))).set 46 (.own (twD t2))) := by
    show sFor 48 (iLst (eVar 47)) _ s2 = _
    unfold sFor
    rw [v_iLst (f := eVar 47) m47 (by simp)]
    show forGo 48 _ [ent (enN (2 * x)), ent (enN (2 * x + 1))] s2 = _
    rw [forGo_c]
    rw [twin s2 tw (2 * x) m46 htw (by lia) (by lia), ht1]
    show forGo 48 _ [ent (enN (2 * x + 1))] _ = _
    rw [forGo_c]
    rw [twin _ t1 (2 * x + 1) (get_same ..) m1 (by lia) l1, ht2]; rfl
  generalize hs3 : (((s2.set 48 (.d (ent (enN (2 * x))))).set 46 (.own (twD t1))).set 48 (.d (ent (enN (2 * x + 1))))).set 46 (.own (twD t2)) = s3 at e2'
  have n46 : s3.get 46 = some (.own (twD t2)) := get_sameE hs3
  have n13 : s3.get 13 = some (.d (ent (enN (2 * x)))) := by rw [← hs3]; exact get_ne (get_ne (get_ne (get_ne m13 (by decide)) (by decide)) (by decide)) (by decide)
  have n44 : s3.get 44 = some (.own (cellsI c0 c1 c2)) := by rw [← hs3]; exact get_ne (get_ne (get_ne (get_ne m44 (by decide)) (by decide)) (by decide)) (by decide)
  have n45 : s3.get 45 = some (.own (poolD (pool.eraseIdx i))) := by rw [← hs3]; exact get_ne (get_ne (get_ne (get_ne m45 (by decide)) (by decide)) (by decide)) (by decide)
  have n47 : s3.get 47 = some (.d (.list [ent (enN (2 * x)), ent (enN (2 * x + 1))])) := by rw [← hs3]; exact get_ne (get_ne (get_ne (get_ne m47 (by decide)) (by decide)) (by decide)) (by decide)
  have n23 : s3.get 23 = st.get 23 := by rw [← hs3]; exact (get_ne (get_ne (get_ne (get_ne rfl (by decide)) (by decide)) (by decide)) (by decide)).trans m23
  have bl := bLG_map (lt' := ltE) (e := enN) (eL_enN_lt m2 (show 2 * x < 18 by lia)).1
  have br := bRG_map (lt' := ltE) (e := enN) (eL_enN_lt m2 (show 2 * x < 18 by lia)).2
  have e3 : pk3 s3 = some (.next, s3.set 49 (.d (.int ((bLG lt2 t2 (2 * x) : Nat) : Int)))) := asg (by
    rw [← bl]
    exact v_bleftK (i := 46) (L := t2.map enN) (x := enN (2 * x)) n46 (v_keyC (f := eVar 13) n13) (by rw [List.length_map]; lia))
  generalize hs4 : s3.set 49 (.d (.int ((bLG lt2 t2 (2 * x) : Nat) : Int))) = s4 at e3
  have o49 : s4.get 49 = some (.d (.int ((bLG lt2 t2 (2 * x) : Nat) : Int))) := get_sameE hs4
  have o46 := get_neE n46 (by decide) hs4
  have o13 := get_neE n13 (by decide) hs4
  have o44 := get_neE n44 (by decide) hs4
  have o45 := get_neE n45 (by decide) hs4
  have o47 := get_neE n47 (by decide) hs4
  have o23 : s4.get 23 = st.get 23 := by rw [← hs4]; exact (get_ne rfl (by decide)).trans n23
  have sl : fzF (eSlice (eVar 46) (pSome (eVar 49)) (pSome (eCallK f_brightK eFn (lCons (eVar 46) (lCons (eIdx (eVar 13) (eC (.int 1))) lNil)))) pNone) s4 = some (.d (.list [ent (enN (2 * x)), ent (enN (2 * x + 1))])) := by
    refine fz ?_
    rw [v_slice (f := eVar 46) (xs := twD t2) o46 rfl (p_some (f := eVar 49) o49) (p_some (i := ((bRG lt2 t2 (2 * x) : Nat) : Int)) (by
      rw [← br]
      exact v_brightK (i := 46) (L := t2.map enN) (x := enN (2 * x)) o46 (i1 s4 o13) (by rw [List.length_map]; lia))) rfl (by simp) (by unfold twD; rw [eL_len, List.length_map]; lia)]
    unfold twD eL
    rw [List.map_map, pickD_map, pickA_run, q]; rfl
  have e4 : pk4 s4 = some (.next, s4) := ifF (v_tOf (v_e2 sl (g := eVar 47) o47 (by
    rw [en1]
    exact two_same (strN_ok _ (by lia))))) rfl
  exact ⟨s4, seqN e0 (seqN e1 (seqN e2' (seqN e3 (seqN e4 rfl)))), ⟨o44, o45, o46⟩, o23⟩
end Mine
end

section
open PySem PySem.W PyProof.Rows PySem.Calls
namespace Mine
theorem bis_thr {r : Nat → Bool} {t : Nat} : ∀ (f lo hi : Nat), lo ≤ t → t ≤ hi → hi - lo < f → (∀ m, lo ≤ m → m < t → r m = true) → (∀ m, t ≤ m → m < hi → r m = false) → bisG r f lo hi = t := by
  intro f
  induction f with
  | zero =>
    intro lo hi _ _ h _ _
    lia
  | succ f ih =>
    intro lo hi h1 h2 hf ha hb
    rw [bisG_c]
    by_cases q : lo < hi
    · have qb : Nat.blt lo hi = true := by rw [blt_dec]; exact decide_eq_true q
      rw [qb]
      simp only [cond_true]
      by_cases w : (lo + hi) / 2 < t
      · rw [ha _ (by lia) w]
        exact ih _ hi (by (first | assumption | exact Nat.le_refl _ | exact Nat.zero_le _ | exact Nat.lt_succ_self _ | exact Nat.le_of_lt (by assumption) | exact Nat.succ_le_of_lt (by assumption) | lia)) h2 (by lia) (fun m a b => ha m (by lia) b) hb
      · rw [hb _ (by lia) (by lia)]
        exact ih lo _ h1 (by lia) (by lia) ha (fun m a b => hb m a (by lia))
    · have qb : Nat.blt lo hi = false := by rw [blt_dec]; exact decide_eq_false q
      rw [qb]
      show lo = t
      lia
section
variable {α : Type} {lt : α → α → Bool} {A B : List α} {x : α}
theorem bLG_app (hA : ∀ a ∈ A, lt a x = true) (hB : ∀ b ∈ B, lt b x = false) (hl : (A ++ B).length ≤ 99) : bLG lt (A ++ B) x = A.length := by
  unfold bLG
  refine bis_thr 100 0 _ (Nat.zero_le _) (by simp) (by lia) (fun m _ hm => ?_) (fun m h1 h2 => ?_)
  · rw [List.getElem?_append_left hm, List.getElem?_eq_getElem hm]
    exact hA _ (List.getElem_mem hm)
  · rw [List.length_append] at h2
    rw [List.getElem?_append_right h1, List.getElem?_eq_getElem (by lia)]
    exact hB _ (List.getElem_mem _)
theorem bRG_app (hA : ∀ a ∈ A, lt x a = false) (hB : ∀ b ∈ B, lt x b = true) (hl : (A ++ B).length ≤ 99) : bRG lt (A ++ B) x = A.length := by
  unfold bRG
  refine bis_thr 100 0 _ (Nat.zero_le _) (by simp) (by lia) (fun m _ hm => ?_) (fun m h1 h2 => ?_)
  · rw [List.getElem?_append_left hm, List.getElem?_eq_getElem hm]
    show (!lt x A[m]) = true
    rw [hA _ (List.getElem_mem hm)]; rfl
  · rw [List.length_append] at h2
    rw [List.getElem?_append_right h1, List.getElem?_eq_getElem (by lia)]
    show (!lt x _) = false
    rw [hB _ (List.getElem_mem _)]; rfl
theorem insG_app (hA : ∀ a ∈ A, lt x a = false) (hB : ∀ b ∈ B, lt x b = true) (hl : (A ++ B).length ≤ 99) : insG lt (A ++ B) x = A ++ x :: B := by
  unfold insG
  rw [bRG_app hA hB hl, List.take_left, List.drop_left]
end
noncomputable def twL (ch : List Nat) : List Nat := ch.flatMap fun x => [2 * x, 2 * x + 1]
theorem twL_app (A B : List Nat) : twL (A ++ B) = twL A ++ twL B := by unfold twL; simp
theorem twL_len : ∀ l : List Nat, (twL l).length = 2 * l.length
  | [] => rfl
  | x :: l => by
    have := twL_len l
    unfold twL at this ⊢
    simp only [List.flatMap_cons, List.length_append, List.length_cons, List.length_nil, this]
    lia
theorem twL_mem {l : List Nat} {y : Nat} (h : y ∈ twL l) : y / 2 ∈ l := by
  unfold twL at h
  obtain ⟨x, hx, hy⟩ := List.mem_flatMap.mp h
  simp only [List.mem_cons, List.not_mem_nil, or_false] at hy
  rcases hy with rfl | rfl
  · rw [show 2 * x / 2 = x by lia]; exact hx
  · rw [show (2 * x + 1) / 2 = x by lia]; exact hx
theorem lt2_t {a b : Nat} (h : a / 2 < b / 2) : lt2 a b = true := by unfold lt2; rw [blt_dec]; exact decide_eq_true h
theorem lt2_f {a b : Nat} (h : ¬ a / 2 < b / 2) : lt2 a b = false := by unfold lt2; rw [blt_dec]; exact decide_eq_false h
theorem split_at {x : Nat} : ∀ {ch : List Nat}, ch.Pairwise (· < ·) → x ∉ ch → ∃ A B, ch = A ++ B ∧ (∀ a ∈ A, a < x) ∧ ∀ b ∈ B, x < b := by
  intro ch
  induction ch with
  | nil =>
    intro _ _
    exact ⟨[], [], rfl, fun _ m => (nomatch m), fun _ m => (nomatch m)⟩
  | cons c ch ih =>
    intro hp hx
    obtain ⟨h1, h2⟩ := List.pairwise_cons.mp hp
    by_cases q : c < x
    · refine byC fun CC hCC => ?_
      obtain ⟨A, B, e, a, b⟩ := ih h2 (fun m => hx (.tail _ m))
      refine hCC ?_
      clear hCC
      refine ⟨c :: A, B, by rw [e]; rfl, fun y hy => ?_, b⟩
      rcases List.mem_cons.mp hy with rfl | hy
      · exact q
      · exact a y hy
    · have : c ≠ x := fun h => hx (h ▸ .head _)
      refine ⟨[], c :: ch, rfl, fun _ m => (nomatch m), fun y hy => ?_⟩
      rcases List.mem_cons.mp hy with rfl | hy
      · lia
      · have := h1 y hy; lia
theorem pkStep_eq {pool A B : List Nat} {i x : Nat} (hi : pool[i]? = some x) (hA : ∀ a ∈ A, a < x) (hB : ∀ b ∈ B, x < b) (hl : (A ++ B).length ≤ 20) : pkStep pool (twL (A ++ B)) i = some (pool.eraseIdx i, twL (A ++ x :: B)) := by
  have lA := twL_len A
  have lB := twL_len B
  rw [List.length_append] at hl
  have mA : ∀ y ∈ twL A, y / 2 < x := fun y hy => hA _ (twL_mem hy)
  have mB : ∀ y ∈ twL B, x < y / 2 := fun y hy => hB _ (twL_mem hy)
  have s1 : insG lt2 (twL (A ++ B)) (2 * x) = twL A ++ 2 * x :: twL B := by
    rw [twL_app]
    exact insG_app (fun a ha => lt2_f (by have := mA a ha; lia)) (fun b hb => lt2_t (by have := mB b hb; lia)) (by rw [List.length_append]; lia)
  have s2 : insG lt2 (twL A ++ 2 * x :: twL B) (2 * x + 1) = twL A ++ [2 * x, 2 * x + 1] ++ twL B := by
    have e : twL A ++ 2 * x :: twL B = (twL A ++ [2 * x]) ++ twL B := by simp
    rw [e, insG_app (fun a ha => ?_) (fun b hb => lt2_t (by have := mB b hb; lia)) (by simp; lia)]
    · simp
    · rcases List.mem_append.mp ha with ha | ha
      · exact lt2_f (by have := mA a ha; lia)
      · rw [List.mem_singleton.mp ha]; exact lt2_f (by lia)
  have s3 : bLG lt2 (twL A ++ [2 * x, 2 * x + 1] ++ twL B) (2 * x) = (twL A).length := by
    rw [List.append_assoc]
    refine bLG_app (fun a ha => lt2_t (by have := mA a ha; lia)) (fun b hb => ?_) (by simp; lia)
    rcases List.mem_append.mp hb with hb | hb
    · simp only [List.mem_cons, List.not_mem_nil, or_false] at hb
      rcases hb with rfl | rfl <;> exact lt2_f (by lia)
    · exact lt2_f (by have := mB b hb; lia)
  have s4 : bRG lt2 (twL A ++ [2 * x, 2 * x + 1] ++ twL B) (2 * x) = (twL A ++ [2 * x, 2 * x + 1]).length := by
    refine bRG_app (fun a ha => ?_) (fun b hb => lt2_t (by have := mB b hb; lia)) (by simp; lia)
    rcases List.mem_append.mp ha with ha | ha
    · exact lt2_f (by have := mA a ha; lia)
    · simp only [List.mem_cons, List.not_mem_nil, or_false] at ha
      rcases ha with rfl | rfl <;> exact lt2_f (by lia)
  unfold pkStep
  rw [hi]
  dsimp only
  rw [s1, s2, s3, s4, List.take_left, List.drop_left, beq_self_eq_true]
  simp only [cond_true]
  rw [twL_app]
  have : twL (x :: B) = [2 * x, 2 * x + 1] ++ twL B := by unfold twL; simp
  rw [this, List.append_assoc]
structure PkInv (c0 c1 c2 : Int) (count : Nat) (k : Nat) (st : St) : Prop where
  ex : ∃ pool ch, PkSt c0 c1 c2 pool (twL ch) st ∧ ch.Pairwise (· < ·) ∧ (∀ x ∈ pool, x ∉ ch) ∧ pool.Nodup ∧ (∀ x ∈ pool, x < 9) ∧ (∀ x ∈ ch, x < 9) ∧ pool.length + ch.length = 9 ∧ ch.length = k
  h23 : st.get 23 = some (.d (.int (count : Int)))
theorem picks_loop {c0 c1 c2 : Int} {count : Nat} (hc : count ≤ 8) : ∀ (n k : Nat) (st : St), k + n = count → PkInv c0 c1 c2 count k st →
    ∃ st', forGo 25 pickBody ((List.range n).map fun i => .int ((k + i : Nat) : Int)) st = some (.next, st') ∧ PkInv c0 c1 c2 count count st' := by
  intro n
  induction n with
  | zero =>
    intro k st hk I
    exact ⟨st, rfl, (show k = count by omega) ▸ I⟩
  | succ n ih =>
    intro k st hk I
    refine byC fun CC hCC => ?_
    obtain ⟨⟨pool, ch, P, hs, hd, hn, hp9, hc9, hl, hcl⟩, h23⟩ := I
    refine hCC ?_
    clear hCC
    have hpos : 0 < pool.length := by lia
    generalize hi : dN c1 k % pool.length = i
    have hil : i < pool.length := by rw [← hi]; exact Nat.mod_lt _ hpos
    have hx : pool[i]? = some pool[i] := List.getElem?_eq_getElem hil
    have hxm : pool[i] ∈ pool := List.getElem_mem hil
    generalize pool[i] = x at hx hxm
    refine byC fun CC hCC => ?_
    obtain ⟨A, B, rfl, hA, hB⟩ := split_at hs (hd x hxm)
    have e := pkStep_eq (pool := pool) (i := i) hx hA hB (by lia)
    have htw : ∀ y ∈ twL (A ++ B), y < 18 := fun y hy => by have := hc9 _ (twL_mem hy); lia
    obtain ⟨st', e', P', g23⟩ := pick_step (k := k) P (by lia) hpos (by lia) hp9 htw (by rw [twL_len]; lia) (by rw [hi]; exact e)
    have hpw := List.pairwise_append.mp hs
    have nx : x ∉ pool.eraseIdx i := fun m => by
      obtain ⟨j, hj, ej⟩ := List.getElem_of_mem m
      have hj' : j < pool.length - 1 := by rw [List.length_eraseIdx_of_lt hil] at hj; exact hj
      have pn := List.pairwise_iff_getElem.mp hn
      have hxi : pool[i] = x := by rw [List.getElem?_eq_getElem hil] at hx; exact Option.some.inj hx
      rw [List.getElem_eraseIdx] at ej
      split at ej
      · exact pn j i (by lia) hil (by omega) (ej.trans hxi.symm)
      · exact pn i (j + 1) hil (by lia) (by lia) (hxi.trans ej.symm)
    have I' : PkInv c0 c1 c2 count (k + 1) st' := by
      refine ⟨⟨pool.eraseIdx i, A ++ x :: B, P', ?_, fun y hy m => ?_, hn.sublist (List.eraseIdx_sublist ..), fun y hy => hp9 y (List.mem_of_mem_eraseIdx hy), fun y hy => ?_, ?_, ?_⟩, g23.trans h23⟩
      · refine List.pairwise_append.mpr ⟨hpw.1, List.pairwise_cons.mpr ⟨hB, hpw.2.1⟩, fun a ha b hb => ?_⟩
        rcases List.mem_cons.mp hb with rfl | hb
        · exact hA a ha
        · exact hpw.2.2 a ha b hb
      · have hy' := List.mem_of_mem_eraseIdx hy
        rcases List.mem_append.mp m with m | m
        · exact hd y hy' (List.mem_append_left _ m)
        · rcases List.mem_cons.mp m with rfl | m
          · exact nx hy
          · exact hd y hy' (List.mem_append_right _ m)
      · rcases List.mem_append.mp hy with m | m
        · exact hc9 y (List.mem_append_left _ m)
        · rcases List.mem_cons.mp m with rfl | m
          · exact hp9 y hxm
          · exact hc9 y (List.mem_append_right _ m)
      · rw [List.length_eraseIdx_of_lt hil]
        simp only [List.length_append, List.length_cons] at hl ⊢
        lia
      · simp only [List.length_append, List.length_cons] at hcl ⊢
        lia
    obtain ⟨st'', e'', I''⟩ := ih (k + 1) st' (by lia) I'
    refine hCC ?_
    clear hCC
    refine ⟨st'', ?_, I''⟩
    rw [List.range_succ_eq_map, List.map_cons, List.map_map]
    rw [forGo_c]
    rw [show PyData.int ((k + 0 : Nat) : Int) = .int (k : Int) from rfl, e']
    show forGo 25 pickBody _ st' = _
    rw [← e'']
    congr 1
    apply List.map_congr_left
    intro j _
    show PyData.int ((k + (j + 1) : Nat) : Int) = _
    congr 2
    lia
end Mine
end

section
open PySem PySem.W PyProof.Rows PySem.Calls
namespace Mine
noncomputable def upd (falls : List Nat) (ways : List (List Nat)) (p r last number : Nat) : Nat := cond (falls.contains p) (number + ((wN ways p).take r).sum) (cond (Nat.blt 0 p) (number + (((wN ways p).take r).drop (last + 1)).sum) number)
noncomputable def bFold {α : Type} (lt : α → α → Bool) (falls : List Nat) (ways : List (List Nat)) : List α → Nat → List α × Nat × Nat → List α × Nat × Nat
  | [], _, s => s
  | x :: rest, p, s => bFold lt falls ways rest (p + 1) (insG lt s.1 x, bLG lt s.1 x, upd falls ways p (bLG lt s.1 x) s.2.1 s.2.2)
theorem bFold_c {α : Type} (lt : α → α → Bool) (falls : List Nat) (ways : List (List Nat)) (x : α) (rest : List α) (p : Nat) (s : List α × Nat × Nat) : bFold lt falls ways (x :: rest) p s = bFold lt falls ways rest (p + 1) (insG lt s.1 x, bLG lt s.1 x, upd falls ways p (bLG lt s.1 x) s.2.1 s.2.2) := rfl
noncomputable def rFold (falls : List Nat) (ways : List (List Nat)) : List Nat → Nat → Nat × Nat → Nat × Nat
  | [], _, s => s
  | r :: rest, p, s => rFold falls ways rest (p + 1) (r, upd falls ways p r s.1 s.2)
theorem rFold_c (falls : List Nat) (ways : List (List Nat)) (r : Nat) (rest : List Nat) (p : Nat) (s : Nat × Nat) : rFold falls ways (r :: rest) p s = rFold falls ways rest (p + 1) (r, upd falls ways p r s.1 s.2) := rfl
section
variable {α : Type} {lt : α → α → Bool} {falls : List Nat} {ways : List (List Nat)}
theorem bGo_fold : ∀ (l : List α) (p : Nat) (laid : List α) (last number : Nat), bGo lt falls ways l p laid last number = (bFold lt falls ways l p (laid, last, number)).2.2 := by
  intro l
  induction l with
  | nil =>
    intro _ _ _ _
    exact rfl
  | cons x l ih =>
    intro p laid last number
    rw [bGo_c, bFold_c]
    rw [ih]; rfl
theorem bFold_snoc (x : α) : ∀ (l : List α) (p : Nat) (s : List α × Nat × Nat), bFold lt falls ways (l ++ [x]) p s = (insG lt (bFold lt falls ways l p s).1 x, bLG lt (bFold lt falls ways l p s).1 x, upd falls ways (p + l.length) (bLG lt (bFold lt falls ways l p s).1 x) (bFold lt falls ways l p s).2.1 (bFold lt falls ways l p s).2.2) := by
  intro l
  induction l with
  | nil =>
    intro p s
    exact rfl
  | cons y l ih =>
    intro p s
    rw [List.cons_append]
    rw [bFold_c]
    rw [ih, List.length_cons, show p + 1 + l.length = p + (l.length + 1) by lia]; rfl
theorem rFold_snoc (r : Nat) : ∀ (l : List Nat) (p : Nat) (s : Nat × Nat), rFold falls ways (l ++ [r]) p s = (r, upd falls ways (p + l.length) r (rFold falls ways l p s).1 (rFold falls ways l p s).2) := by
  intro l
  induction l with
  | nil =>
    intro p s
    exact rfl
  | cons y l ih =>
    intro p s
    rw [List.cons_append]
    rw [rFold_c]
    rw [ih, List.length_cons, show p + 1 + l.length = p + (l.length + 1) by lia]; rfl
theorem oGo_acc : ∀ (rs : List Nat) (left acc : List α), oGo rs left acc = (oGo rs left []).map (· ++ acc) := by
  intro rs
  induction rs with
  | nil =>
    intro _ acc
    exact rfl
  | cons r rs ih =>
    intro left acc
    rw [oGo_c, oGo_c]
    cases left[r]? with
    | none => rfl
    | some x =>
      dsimp only
      rw [ih _ (x :: acc), ih _ [x], Option.map_map]
      congr 1
      funext l
      simp
theorem order_snoc (rs : List Nat) (r : Nat) (left : List α) {x : α} (h : left[r]? = some x) : orderA (rs ++ [r]) left = (orderA rs (left.eraseIdx r)).map (· ++ [x]) := by
  have e : oGo (r :: rs.reverse) left [] = oGo rs.reverse (left.eraseIdx r) [x] := by
    conv => lhs; rw [oGo_c]
    rw [h]
  unfold orderA
  rw [List.reverse_append]
  exact e.trans (oGo_acc _ _ _)
noncomputable abbrev SL (lt : α → α → Bool) (l : List α) : Prop := l.Pairwise fun a b => lt a b = true ∧ lt b a = false
theorem lehmer : ∀ (c : Nat) (rs : List Nat) (left : List α), rs.length = c → left.length = c → c ≤ 50 → SL lt left → (∀ (p r : Nat), rs[p]? = some r → r ≤ p) →
    ∃ order, orderA rs left = some order ∧ order.length = c ∧ bFold lt falls ways order 0 ([], 0, 0) = (left, rFold falls ways rs 0 (0, 0)) ∧ (∀ y, order.getLast? = some y → ∃ r, rs.getLast? = some r ∧ left[r]? = some y) ∧ (∀ y ∈ order, y ∈ left) ∧
      ∀ (k : Nat) (a b : α) (r' r : Nat), order[k]? = some a → order[k + 1]? = some b → rs[k]? = some r' → rs[k + 1]? = some r → (r ≤ r' → lt b a = true ∧ lt a b = false) ∧ (r' < r → lt a b = true ∧ lt b a = false) := by
  intro c
  induction c with
  | zero =>
    intro rs left h1 h2 _ _ _
    have e1 := List.eq_nil_of_length_eq_zero h1
    have e2 := List.eq_nil_of_length_eq_zero h2
    subst e1 e2
    exact ⟨[], rfl, rfl, rfl, fun y h => (by cases h), fun y h => (by cases h), fun k a b r' r h => (by cases h)⟩
  | succ c ih =>
    intro rs left h1 h2 hc hs hr
    obtain ⟨rs', r, rfl⟩ : ∃ rs' r, rs = rs' ++ [r] := by
      rcases List.eq_nil_or_concat rs with h | ⟨l, a, h⟩
      · rw [h] at h1; simp at h1
      · exact ⟨l, a, by rw [h, List.concat_eq_append]⟩
    have h1' : rs'.length = c := by simpa using h1
    have hrc : r ≤ c := hr c r (by rw [List.getElem?_append_right (by lia), h1']; simp)
    have hlt : r < left.length := by lia
    have hx : left[r]? = some left[r] := List.getElem?_eq_getElem hlt
    have hle : (left.eraseIdx r).length = c := by rw [List.length_eraseIdx_of_lt hlt]; lia
    have sp : left = left.take r ++ left[r] :: left.drop (r + 1) := by rw [← List.drop_eq_getElem_cons hlt, List.take_append_drop]
    have se : left.eraseIdx r = left.take r ++ left.drop (r + 1) := List.eraseIdx_eq_take_drop_succ ..
    generalize hxd : left[r] = x at hx sp
    have hs' : SL lt (left.eraseIdx r) := hs.sublist (List.eraseIdx_sublist ..)
    refine byC fun CC hCC => ?_
    obtain ⟨ord, o1, o2, o3, o4, o5, o6⟩ := ih rs' (left.eraseIdx r) h1' hle (by (first | assumption | exact Nat.le_refl _ | exact Nat.zero_le _ | exact Nat.lt_succ_self _ | exact Nat.le_of_lt (by assumption) | exact Nat.succ_le_of_lt (by assumption) | lia)) hs' fun p q hq => hr p q (by
      rw [List.getElem?_append_left (by have := (List.getElem?_eq_some_iff.mp hq).1; exact this)]; exact hq)
    refine hCC ?_
    clear hCC
    rw [sp] at hs
    have hp := List.pairwise_append.mp hs
    have hp2 := List.pairwise_cons.mp hp.2.1
    have hA : ∀ a ∈ left.take r, lt a x = true ∧ lt x a = false := fun a ha => hp.2.2 a ha x (.head _)
    have hB : ∀ b ∈ left.drop (r + 1), lt x b = true ∧ lt b x = false := hp2.1
    have hl : (left.take r).length = r := by rw [List.length_take]; lia
    have hln : (left.take r ++ left.drop (r + 1)).length ≤ 99 := by rw [← se, hle]; lia
    have b1 : bLG lt (left.take r ++ left.drop (r + 1)) x = r := (bLG_app (fun a ha => (hA a ha).1) (fun b hb => (hB b hb).2) hln).trans hl
    have b2 : insG lt (left.take r ++ left.drop (r + 1)) x = left := (insG_app (fun a ha => (hA a ha).2) (fun b hb => (hB b hb).1) hln).trans sp.symm
    refine ⟨ord ++ [x], by rw [order_snoc rs' r left hx, o1]; rfl, by simp [o2], ?_, fun y hy => ?_, fun y hy => ?_, fun k a b r' q ha hb hr' hq => ?_⟩
    · rw [bFold_snoc, o3, rFold_snoc]
      dsimp only
      rw [se, b1, b2, o2, h1']
    · rw [List.getLast?_append] at hy ⊢
      simp at hy
      subst hy
      exact ⟨r, by first | rfl | exact .head _ | exact .tail _ (.head _) | exact if_pos rfl | exact (if_neg (by decide)).trans rfl | simp, hx⟩
    · rcases List.mem_append.mp hy with h | h
      · exact List.mem_of_mem_eraseIdx (o5 y h)
      · rw [List.mem_singleton.mp h, ← hxd]; exact List.getElem_mem hlt
    · by_cases hk : k + 1 < c
      · rw [List.getElem?_append_left (by lia)] at ha hb hr' hq
        exact o6 k a b r' q ha hb hr' hq
      · have hkc : k + 1 = c := by
          have := (List.getElem?_eq_some_iff.mp hb).1
          simp [o2] at this
          lia
        rw [List.getElem?_append_right (by lia)] at hb hq
        rw [List.getElem?_append_left (by lia)] at ha hr'
        rw [o2, hkc] at hb
        rw [h1', hkc] at hq
        simp at hb hq
        subst hb hq
        refine byC fun CC hCC => ?_
        obtain ⟨q', hq', hy⟩ := o4 a (by rw [List.getLast?_eq_getElem?, o2, show c - 1 = k by lia]; exact ha)
        rw [List.getLast?_eq_getElem?, h1', show c - 1 = k by lia] at hq'
        rw [hr'] at hq'
        cases hq'
        refine hCC ?_
        clear hCC
        have hr'c : r' < c := by have := (List.getElem?_eq_some_iff.mp hy).1; lia
        rw [se] at hy
        constructor
        · intro hle'
          rw [List.getElem?_append_right (by lia)] at hy
          exact (hB a (List.mem_of_getElem? hy))
        · intro hlt'
          rw [List.getElem?_append_left (by lia)] at hy
          exact (hA a (List.mem_of_getElem? hy))
end
end Mine
end

section
open PySem PySem.W PyProof.Rows PySem.Calls
namespace Mine
noncomputable def S (W : List Nat) (k : Nat) : Nat := (W.take k).sum
noncomputable def Pos (W : List Nat) : Prop := ∀ x ∈ W, 1 ≤ x
theorem gN_get {W : List Nat} {k : Nat} (h : k < W.length) : gN W k = W[k] := by unfold gN; rw [List.getElem?_eq_getElem h]; rfl
theorem gN_pos {W : List Nat} (hp : Pos W) {k : Nat} (h : k < W.length) : 1 ≤ gN W k := by rw [gN_get h]; exact hp _ (List.getElem_mem h)
theorem S_succ {W : List Nat} {k : Nat} (h : k < W.length) : S W (k + 1) = S W k + gN W k := by
  unfold S
  rw [List.take_add_one, List.sum_append, List.getElem?_eq_getElem h, gN_get h]
  simp
theorem S_big {W : List Nat} {k : Nat} (h : W.length ≤ k) : S W k = S W W.length := by unfold S; rw [List.take_of_length_le h, List.take_length]
theorem S_le {W : List Nat} {i j : Nat} (h : i ≤ j) : S W i ≤ S W j := by
  induction j with
  | zero => rw [Nat.le_zero.mp h]; exact Nat.le_refl _
  | succ j ih =>
    by_cases q : i = j + 1
    · rw [q]; exact Nat.le_refl _
    · have := ih (by lia)
      by_cases w : j < W.length
      · rw [S_succ w]; lia
      · rw [S_big (show W.length ≤ j + 1 by lia), ← S_big (show W.length ≤ j by lia)]; exact this
theorem S_lt {W : List Nat} (hp : Pos W) {i j : Nat} (h : i < j) (hj : j ≤ W.length) : S W i < S W j := by
  have h1 := S_le (W := W) (show i + 1 ≤ j by (first | assumption | exact Nat.le_refl _ | exact Nat.zero_le _ | exact Nat.lt_succ_self _ | exact Nat.le_of_lt (by assumption) | exact Nat.succ_le_of_lt (by assumption) | lia))
  have h2 := S_succ (W := W) (show i < W.length by lia)
  have h3 := gN_pos hp (show i < W.length by lia)
  lia
theorem S_zero (W : List Nat) : S W 0 = 0 := rfl
theorem sum_run (W : List Nat) (a b : Nat) : ((W.take b).drop a).sum = S W b - S W (min a b) := by
  have h : (W.take b).take a ++ (W.take b).drop a = W.take b := List.take_append_drop ..
  have hs : ((W.take b).take a).sum + ((W.take b).drop a).sum = (W.take b).sum := by rw [← List.sum_append, h]
  rw [List.take_take] at hs
  unfold S
  lia
theorem sum_drop (W : List Nat) (a : Nat) : (W.drop a).sum = S W W.length - S W a := by
  have h : W.take a ++ W.drop a = W := List.take_append_drop ..
  have hs : (W.take a).sum + (W.drop a).sum = W.sum := by rw [← List.sum_append, h]
  unfold S
  rw [List.take_length]
  lia
theorem map_gN {f : Nat → Nat} {n m : Nat} (h : m < n) : gN ((List.range n).map f) m = f m := by
  unfold gN
  rw [List.getElem?_map, List.getElem?_range h]; rfl
theorem find_rank {W : List Nat} {n1 lo : Nat} : ∀ (hi : Nat), lo ≤ hi → S W lo ≤ n1 → n1 < S W hi → ∃ r, lo ≤ r ∧ r < hi ∧ S W r ≤ n1 ∧ n1 < S W (r + 1) := by
  intro hi
  induction hi with
  | zero =>
    intro h h1 h2
    rw [S_zero] at h2; lia
  | succ hi ih =>
    intro h h1 h2
    by_cases q : n1 < S W hi
    · by_cases e : lo ≤ hi
      · refine byC fun CC hCC => ?_
        obtain ⟨r, a, b, c, d⟩ := ih e h1 q
        refine hCC ?_
        clear hCC
        exact ⟨r, a, by lia, c, d⟩
      · have : S W hi ≤ S W lo := S_le (by lia)
        lia
    · refine ⟨hi, ?_, by (first | assumption | exact Nat.le_refl _ | exact Nat.zero_le _ | exact Nat.lt_succ_self _ | exact Nat.le_of_lt (by assumption) | exact Nat.succ_le_of_lt (by assumption) | lia), by lia, h2⟩
      by_cases e : lo ≤ hi
      · exact e
      · have e2 : lo = hi + 1 := by lia
        rw [e2] at h1
        lia
theorem b_f {a b : Nat} (h : ¬ a < b) : Nat.blt a b = false := by rw [blt_dec]; exact decide_eq_false h
theorem b_t {a b : Nat} (h : a < b) : Nat.blt a b = true := by rw [blt_dec]; exact decide_eq_true h
noncomputable def loOf (falls : List Nat) (p last : Nat) : Nat := cond (falls.contains p) 0 (last + 1)
noncomputable def hiOf (falls : List Nat) (p last : Nat) : Nat := cond (falls.contains p) (last + 1) (p + 1)
theorem lohi {falls : List Nat} {p last : Nat} (h : last < p) : loOf falls p last < hiOf falls p last ∧ hiOf falls p last ≤ p + 1 ∧ loOf falls p last ≤ p := by
  unfold loOf hiOf
  cases falls.contains p <;> simp only [cond_true, cond_false] <;> lia
theorem rStep_def (falls : List Nat) (ways : List (List Nat)) (p last number : Nat) : rStep falls ways p last number =
    cond (Nat.ble 1 (hiOf falls p last) && Nat.ble (hiOf falls p last) (p + 1) && (bR (flatOf (wN ways p) p (loOf falls p last) (hiOf falls p last)) 0 0 (p + 1) == loOf falls p last && bL (flatOf (wN ways p) p (loOf falls p last) (hiOf falls p last)) (gN (flatOf (wN ways p) p (loOf falls p last) (hiOf falls p last)) p) 0 (p + 1) == hiOf falls p last - 1))
      (cond (bR (sumsOf (wN ways p) p) (number + S (wN ways p) (loOf falls p last)) (loOf falls p last) (hiOf falls p last) == hiOf falls p last) (some none)
        (cond (bL (sumsOf (wN ways p) p) (number + S (wN ways p) (loOf falls p last) + 1) (loOf falls p last) (hiOf falls p last) == bR (sumsOf (wN ways p) p) (number + S (wN ways p) (loOf falls p last)) (loOf falls p last) (hiOf falls p last) &&
            Nat.ble (bR (sumsOf (wN ways p) p) (number + S (wN ways p) (loOf falls p last)) (loOf falls p last) (hiOf falls p last)) (p + 1) &&
            (bL (sumsOf (wN ways p) p) 0 (bR (sumsOf (wN ways p) p) (number + S (wN ways p) (loOf falls p last)) (loOf falls p last) (hiOf falls p last)) (p + 1) == bR (sumsOf (wN ways p) p) (number + S (wN ways p) (loOf falls p last)) (loOf falls p last) (hiOf falls p last) &&
              bR (sumsOf (wN ways p) p) 0 (bR (sumsOf (wN ways p) p) (number + S (wN ways p) (loOf falls p last)) (loOf falls p last) (hiOf falls p last)) (p + 1) == bR (sumsOf (wN ways p) p) (number + S (wN ways p) (loOf falls p last)) (loOf falls p last) (hiOf falls p last)) &&
            (bL (sumsOf (wN ways p) p) (gN (sumsOf (wN ways p) p) p + 1) 0 (bR (sumsOf (wN ways p) p) (number + S (wN ways p) (loOf falls p last)) (loOf falls p last) (hiOf falls p last)) == bR (sumsOf (wN ways p) p) (number + S (wN ways p) (loOf falls p last)) (loOf falls p last) (hiOf falls p last) &&
              bR (sumsOf (wN ways p) p) (gN (sumsOf (wN ways p) p) p + 1) 0 (bR (sumsOf (wN ways p) p) (number + S (wN ways p) (loOf falls p last)) (loOf falls p last) (hiOf falls p last)) == bR (sumsOf (wN ways p) p) (number + S (wN ways p) (loOf falls p last)) (loOf falls p last) (hiOf falls p last)) &&
            Nat.ble (S (wN ways p) (bR (sumsOf (wN ways p) p) (number + S (wN ways p) (loOf falls p last)) (loOf falls p last) (hiOf falls p last))) (number + S (wN ways p) (loOf falls p last)))
          (some (some (bR (sumsOf (wN ways p) p) (number + S (wN ways p) (loOf falls p last)) (loOf falls p last) (hiOf falls p last), number + S (wN ways p) (loOf falls p last) - S (wN ways p) (bR (sumsOf (wN ways p) p) (number + S (wN ways p) (loOf falls p last)) (loOf falls p last) (hiOf falls p last))))) none)) none := rfl
section
variable {falls : List Nat} {ways : List (List Nat)} {p last n : Nat}
theorem flat_checks {W : List Nat} {lo hi : Nat} (hp : Pos W) (hl : W.length = p + 1) (h1 : lo < hi) (h2 : hi ≤ p + 1) (h50 : p ≤ 50) :
    bR (flatOf W p lo hi) 0 0 (p + 1) = lo ∧ bL (flatOf W p lo hi) (gN (flatOf W p lo hi) p) 0 (p + 1) = hi - 1 := by
  have F : ∀ m, m ≤ p → gN (flatOf W p lo hi) m = S W (min (m + 1) hi) - S W (min lo (min (m + 1) hi)) := fun m hm => by
    unfold flatOf
    rw [map_gN (by lia), sum_run]
  constructor
  · refine bis_thr 100 0 _ (Nat.zero_le _) (by lia) (by lia) (fun m _ hm => ?_) (fun m a b => ?_)
    · rw [F m (by lia), show min (m + 1) hi = m + 1 by lia, show min lo (m + 1) = m + 1 by lia, Nat.sub_self]; rfl
    · rw [F m (by lia)]
      have := S_lt hp (show lo < min (m + 1) hi by lia) (by lia)
      rw [show min lo (min (m + 1) hi) = lo by lia, b_t (by lia)]; rfl
  · rw [F p (Nat.le_refl _), show min (p + 1) hi = hi by lia, show min lo hi = lo by lia]
    refine bis_thr 100 0 _ (Nat.zero_le _) (by lia) (by lia) (fun m _ hm => ?_) (fun m a b => ?_)
    · rw [F m (by lia), show min (m + 1) hi = m + 1 by lia]
      refine b_t ?_
      have g1 := S_lt hp (show m + 1 < hi by lia) (by lia)
      have g2 := S_lt hp h1 (by lia)
      by_cases w : lo ≤ m + 1
      · rw [show min lo (m + 1) = lo by lia]
        have := S_le (W := W) w
        lia
      · rw [show min lo (m + 1) = m + 1 by lia]; lia
    · rw [F m (by lia), show min (m + 1) hi = hi by lia, show min lo hi = lo by lia]
      exact b_f (by lia)
theorem sums_get {W : List Nat} {m : Nat} (h : m ≤ p) : gN (sumsOf W p) m = S W (m + 1) := by
  unfold sumsOf
  rw [map_gN (by lia)]; rfl
theorem rStep_some {W : List Nat} (hW : wN ways p = W) (hp : Pos W) (hl : W.length = p + 1) (hlast : last < p) (h50 : p ≤ 50) (hn : n < S W (hiOf falls p last) - S W (loOf falls p last)) :
    ∃ r, loOf falls p last ≤ r ∧ r < hiOf falls p last ∧ S W r ≤ n + S W (loOf falls p last) ∧ n + S W (loOf falls p last) < S W (r + 1) ∧ rStep falls ways p last n = some (some (r, n + S W (loOf falls p last) - S W r)) := by
  obtain ⟨g1, g2, g3⟩ := lohi (falls := falls) hlast
  rw [rStep_def, hW]
  generalize loOf falls p last = lo at *
  generalize hiOf falls p last = hi at *
  obtain ⟨c1, c2⟩ := flat_checks hp hl g1 g2 h50
  generalize hn1 : n + S W lo = n1
  refine byC fun CC hCC => ?_
  obtain ⟨r, r1, r2, r3, r4⟩ := find_rank (W := W) (n1 := n1) (lo := lo) hi (by lia) (by lia) (by lia)
  refine hCC ?_
  clear hCC
  have e1 : bR (sumsOf W p) n1 lo hi = r := bis_thr 100 lo hi r1 (by lia) (by lia) (fun m a b => by
      rw [sums_get (by lia)]
      have := S_le (W := W) (show m + 1 ≤ r by (first | assumption | exact Nat.le_refl _ | exact Nat.zero_le _ | exact Nat.lt_succ_self _ | exact Nat.le_of_lt (by assumption) | exact Nat.succ_le_of_lt (by assumption) | lia))
      rw [b_f (by lia)]; rfl) (fun m a b => by
      rw [sums_get (by lia)]
      have := S_le (W := W) (show r + 1 ≤ m + 1 by lia)
      rw [b_t (by lia)]; rfl)
  have e2 : bL (sumsOf W p) (n1 + 1) lo hi = r := bis_thr 100 lo hi r1 (by lia) (by lia) (fun m a b => by
      rw [sums_get (by lia)]
      have := S_le (W := W) (show m + 1 ≤ r by (first | assumption | exact Nat.le_refl _ | exact Nat.zero_le _ | exact Nat.lt_succ_self _ | exact Nat.le_of_lt (by assumption) | exact Nat.succ_le_of_lt (by assumption) | lia))
      exact b_t (by lia)) (fun m a b => by
      rw [sums_get (by lia)]
      have := S_le (W := W) (show r + 1 ≤ m + 1 by lia)
      exact b_f (by lia))
  have e3 : bL (sumsOf W p) 0 r (p + 1) = r := bis_thr 100 r _ (Nat.le_refl _) (by lia) (by lia) (fun m a b => by lia) (fun m a b => b_f (by lia))
  have e4 : bR (sumsOf W p) 0 r (p + 1) = r := bis_thr 100 r _ (Nat.le_refl _) (by lia) (by lia) (fun m a b => by lia) (fun m a b => by
      rw [sums_get (by lia)]
      have := S_lt hp (show 0 < m + 1 by lia) (by lia)
      rw [b_t (by (first | assumption | exact Nat.le_refl _ | exact Nat.zero_le _ | exact Nat.lt_succ_self _ | exact Nat.le_of_lt (by assumption) | exact Nat.succ_le_of_lt (by assumption) | lia))]; rfl)
  have e5 : bL (sumsOf W p) (gN (sumsOf W p) p + 1) 0 r = r := bis_thr 100 0 r (Nat.zero_le _) (Nat.le_refl _) (by lia) (fun m a b => by
      rw [sums_get (by lia), sums_get (by lia)]
      have := S_le (W := W) (show m + 1 ≤ p + 1 by lia)
      exact b_t (by lia)) (fun m a b => by lia)
  have e6 : bR (sumsOf W p) (gN (sumsOf W p) p + 1) 0 r = r := bis_thr 100 0 r (Nat.zero_le _) (Nat.le_refl _) (by lia) (fun m a b => by
      rw [sums_get (by lia), sums_get (by lia)]
      have := S_le (W := W) (show m + 1 ≤ p + 1 by lia)
      rw [b_f (by lia)]; rfl) (fun m a b => by lia)
  refine ⟨r, r1, r2, r3, r4, ?_⟩
  rw [e1, e2, e3, e4, e5, e6, c1, c2, Nat.ble_eq_true_of_le (show 1 ≤ hi by lia), Nat.ble_eq_true_of_le g2, Nat.ble_eq_true_of_le (show r ≤ p + 1 by lia), Nat.ble_eq_true_of_le r3, beq_eq_false_iff_ne.mpr (show r ≠ hi by lia)]
  simp
theorem rStep_none {W : List Nat} (hW : wN ways p = W) (hp : Pos W) (hl : W.length = p + 1) (hlast : last < p) (h50 : p ≤ 50) (hn : n = S W (hiOf falls p last) - S W (loOf falls p last)) : rStep falls ways p last n = some none := by
  obtain ⟨g1, g2, g3⟩ := lohi (falls := falls) hlast
  rw [rStep_def, hW]
  generalize loOf falls p last = lo at *
  generalize hiOf falls p last = hi at *
  obtain ⟨c1, c2⟩ := flat_checks hp hl g1 g2 h50
  have hlh := S_lt hp g1 (by lia)
  have e1 : bR (sumsOf W p) (n + S W lo) lo hi = hi := bis_thr 100 lo hi (by lia) (Nat.le_refl _) (by lia) (fun m a b => by
      rw [sums_get (by lia)]
      have := S_le (W := W) (show m + 1 ≤ hi by lia)
      rw [b_f (by lia)]; rfl) (fun m a b => by lia)
  rw [e1, c1, c2, Nat.ble_eq_true_of_le (show 1 ≤ hi by lia), Nat.ble_eq_true_of_le g2]
  simp
end
end Mine
end

section
open PySem PySem.W PyProof.Rows PySem.Calls
namespace Mine
noncomputable def downL (q : Nat) : List Nat := (List.range q).map fun i => q - i
theorem downL_succ (q : Nat) : downL (q + 1) = (q + 1) :: downL q := by
  unfold downL
  rw [List.range_succ_eq_map, List.map_cons, List.map_map]
  congr 1
  apply List.map_congr_left
  intro i _
  show q + 1 - (i + 1) = q - i
  lia
theorem wN_drop {R acc : List (List Nat)} {q : Nat} (h : R.drop q = acc) (k : Nat) : wN R (q + k) = wN acc k := by
  unfold wN
  rw [← h, List.getElem?_drop]
theorem wGo_ok {falls : List Nat} : ∀ (q : Nat) (acc : List (List Nat)), (wGo falls (downL q) acc).length = q + acc.length ∧ (wGo falls (downL q) acc).drop q = acc ∧
    ∀ p, p + 1 ≤ q → wN (wGo falls (downL q) acc) p = wStep falls (p + 1) (wN (wGo falls (downL q) acc) (p + 1)) := by
  intro q
  induction q with
  | zero =>
    intro acc
    exact ⟨by show acc.length = 0 + acc.length; lia, rfl, fun p h => by lia⟩
  | succ q ih =>
    intro acc
    rw [downL_succ]
    show (wGo falls (downL q) (wStep falls (q + 1) (wN acc 0) :: acc)).length = _ ∧ (wGo falls (downL q) (wStep falls (q + 1) (wN acc 0) :: acc)).drop (q + 1) = acc ∧ ∀ p, p + 1 ≤ q + 1 → wN (wGo falls (downL q) (wStep falls (q + 1) (wN acc 0) :: acc)) p = wStep falls (p + 1) (wN (wGo falls (downL q) (wStep falls (q + 1) (wN acc 0) :: acc)) (p + 1))
    obtain ⟨h1, h2, h3⟩ := ih (wStep falls (q + 1) (wN acc 0) :: acc)
    refine ⟨by rw [h1, List.length_cons]; lia, ?_, fun p hp => ?_⟩
    · rw [← List.drop_drop, h2]; rfl
    · by_cases e : p = q
      · subst e
        have a0 : wN _ p = _ := wN_drop h2 0
        have a1 := wN_drop h2 1
        rw [a0, a1]; rfl
      · exact h3 p (by lia)
section
variable {falls : List Nat} {count : Nat}
theorem ways_len (h : 1 ≤ count) : (waysN falls count).length = count := by
  have := (wGo_ok (falls := falls) (count - 1) [List.replicate count 1]).1
  show (wGo falls (downL (count - 1)) [List.replicate count 1]).length = count
  rw [this]
  simp; lia
theorem ways_last (h : 1 ≤ count) : wN (waysN falls count) (count - 1) = List.replicate count 1 := by
  have := wN_drop (wGo_ok (falls := falls) (count - 1) [List.replicate count 1]).2.1 0
  exact this
theorem ways_rec {p : Nat} (h : p + 2 ≤ count) : wN (waysN falls count) p = wStep falls (p + 1) (wN (waysN falls count) (p + 1)) :=
  (wGo_ok (falls := falls) (count - 1) [List.replicate count 1]).2.2 p (by lia)
theorem sum_pos {l : List Nat} (h : Pos l) (hn : l ≠ []) : 1 ≤ l.sum := by
  cases l with
  | nil => exact absurd rfl hn
  | cons x l => have := h x (.head _); simp only [List.sum_cons]; lia
theorem ways_row (h : 1 ≤ count) : ∀ (d p : Nat), p + d + 1 = count → (wN (waysN falls count) p).length = p + 1 ∧ Pos (wN (waysN falls count) p) := by
  intro d
  induction d with
  | zero =>
    intro p e
    have : p = count - 1 := by lia
    rw [this, ways_last h]
    exact ⟨by simp; lia, fun x hx => by rw [List.eq_of_mem_replicate hx]; exact Nat.le_refl _⟩
  | succ d ih =>
    intro p e
    obtain ⟨i1, i2⟩ := ih (p + 1) (by lia)
    rw [ways_rec (by lia)]
    generalize wN (waysN falls count) (p + 1) = W at i1 i2
    refine ⟨wStep_len, fun x hx => ?_⟩
    unfold wStep at hx
    cases q : falls.contains (p + 1) with
    | true =>
      rw [q] at hx
      simp only [cond_true] at hx
      refine byC fun CC hCC => ?_
      obtain ⟨r, hr, rfl⟩ := List.mem_map.mp hx
      refine hCC ?_
      clear hCC
      refine sum_pos (fun y hy => i2 y (List.mem_of_mem_take hy)) fun h0 => ?_
      have := congrArg List.length h0
      rw [List.length_take, i1] at this
      simp at this
    | false =>
      rw [q] at hx
      simp only [cond_false] at hx
      refine byC fun CC hCC => ?_
      obtain ⟨r, hr, rfl⟩ := List.mem_map.mp hx
      refine hCC ?_
      clear hCC
      have := List.mem_range.mp hr
      refine sum_pos (fun y hy => i2 y (List.mem_of_mem_drop hy)) fun h0 => ?_
      have := congrArg List.length h0
      rw [List.length_drop, i1] at this
      simp at this; lia
theorem ways_get {p r : Nat} (h : p + 2 ≤ count) (hr : r ≤ p) : gN (wN (waysN falls count) p) r = S (wN (waysN falls count) (p + 1)) (hiOf falls (p + 1) r) - S (wN (waysN falls count) (p + 1)) (loOf falls (p + 1) r) := by
  have hl := (ways_row (falls := falls) (by lia : 1 ≤ count) (count - p - 2) (p + 1) (by lia)).1
  rw [ways_rec h]
  generalize wN (waysN falls count) (p + 1) = W at hl
  unfold wStep hiOf loOf
  cases falls.contains (p + 1) with
  | true => simp only [cond_true]; rw [map_gN (by lia), S_zero]; rfl
  | false => simp only [cond_false]; rw [map_gN (by lia), sum_drop, hl]
noncomputable def Chain (falls : List Nat) : Nat → Nat → List Nat → Prop
  | _, _, [] => True
  | p, last, r :: rs => r ≤ p ∧ (falls.contains p = true → r ≤ last) ∧ (falls.contains p = false → last < r) ∧ Chain falls (p + 1) r rs
theorem rank_all (hc : 1 ≤ count) (h50 : count ≤ 40) : ∀ (m p last n N : Nat) (acc : List Nat), p + m = count → 1 ≤ p → last < p → n < gN (wN (waysN falls count) (p - 1)) last →
    ∃ rs, rGo falls (waysN falls count) ((List.range m).map (p + ·)) last n acc = some (some (acc ++ rs)) ∧ rs.length = m ∧ Chain falls p last rs ∧ (rFold falls (waysN falls count) rs p (last, N)).2 = N + n := by
  intro m
  induction m with
  | zero =>
    intro p last n N acc e hp hl hn
    have : p - 1 = count - 1 := by lia
    rw [this, ways_last hc] at hn
    have g : gN (List.replicate count 1) last = 1 := by rw [gN_get (by simp; lia)]; simp
    rw [g] at hn
    refine ⟨[], by rw [List.append_nil]; rfl, rfl, trivial, ?_⟩
    show N = N + n
    lia
  | succ m ih =>
    intro p last n N acc e hp hl hn
    refine byC fun CC hCC => ?_
    obtain ⟨wl, wp⟩ := ways_row (falls := falls) hc (count - 1 - p) p (by lia)
    have hg := ways_get (falls := falls) (count := count) (p := p - 1) (r := last) (by lia) (by lia)
    rw [show p - 1 + 1 = p by lia] at hg
    rw [hg] at hn
    obtain ⟨r, r1, r2, r3, r4, hs⟩ := rStep_some (falls := falls) (ways := waysN falls count) rfl wp wl hl (by lia) hn
    obtain ⟨g1, g2, g3⟩ := lohi (falls := falls) hl
    refine hCC ?_
    clear hCC
    generalize hn' : n + S (wN (waysN falls count) p) (loOf falls p last) - S (wN (waysN falls count) p) r = n' at hs
    have hn2 : n' < gN (wN (waysN falls count) p) r := by
      have := S_succ (W := wN (waysN falls count) p) (k := r) (by lia)
      lia
    refine byC fun CC hCC => ?_
    obtain ⟨rs, a1, a2, a3, a4⟩ := ih (p + 1) r n' (upd falls (waysN falls count) p r last N) (acc ++ [r]) (by lia) (by lia) (by lia) (by rw [Nat.add_sub_cancel]; exact hn2)
    refine hCC ?_
    clear hCC
    have hu : upd falls (waysN falls count) p r last N = N + (S (wN (waysN falls count) p) r - S (wN (waysN falls count) p) (loOf falls p last)) := by
      unfold upd loOf
      unfold loOf at r1
      cases q : falls.contains p with
      | true => simp only [cond_true]; rw [S_zero]; rfl
      | false =>
        rw [q] at r1
        simp only [cond_false] at r1 ⊢
        rw [b_t (show 0 < p by lia)]
        simp only [cond_true]
        rw [sum_run, show min (last + 1) r = last + 1 by lia]
    refine ⟨r :: rs, ?_, by simp [a2], ⟨by lia, fun q => ?_, fun q => ?_, a3⟩, ?_⟩
    · rw [List.range_succ_eq_map, List.map_cons, List.map_map]
      show rGo falls (waysN falls count) ((p + 0) :: _) last n acc = _
      rw [Nat.add_zero]
      rw [rGo_c]
      rw [hs]
      dsimp only
      have e1 : (List.range m).map ((fun x => p + x) ∘ Nat.succ) = (List.range m).map (p + 1 + ·) := by
        apply List.map_congr_left
        intro i _
        show p + (i + 1) = p + 1 + i
        lia
      rw [e1, a1, List.append_assoc]; rfl
    · unfold hiOf at r2; rw [q] at r2; simp only [cond_true] at r2; lia
    · unfold loOf at r1; rw [q] at r1; simp only [cond_false] at r1; lia
    · rw [rFold_c]
      rw [a4, hu]
      have := S_le (W := wN (waysN falls count) p) r1
      lia
theorem ranks_ok (hc : 1 ≤ count) (h50 : count ≤ 40) {n : Nat} (hn : n < gN (wN (waysN falls count) 0) 0) : ∃ rs, ranksN falls (waysN falls count) n = some (some (0 :: rs)) ∧ rs.length + 1 = count ∧ Chain falls 1 0 rs ∧ (rFold falls (waysN falls count) (0 :: rs) 0 (0, 0)).2 = n + upd falls (waysN falls count) 0 0 0 0 := by
  refine byC fun CC hCC => ?_
  obtain ⟨rs, a1, a2, a3, a4⟩ := rank_all (falls := falls) hc h50 (count - 1) 1 0 n (upd falls (waysN falls count) 0 0 0 0) [0] (by lia) (Nat.le_refl _) (by decide) hn
  refine hCC ?_
  clear hCC
  refine ⟨rs, ?_, by lia, a3, ?_⟩
  · unfold ranksN
    rw [ways_len hc, a1]; rfl
  · rw [rFold_c]
    rw [a4]; lia
theorem ranks_total (hc : 2 ≤ count) (h50 : count ≤ 40) : ranksN falls (waysN falls count) (gN (wN (waysN falls count) 0) 0) = some none := by
  obtain ⟨wl, wp⟩ := ways_row (falls := falls) (by lia : 1 ≤ count) (count - 2) 1 (by lia)
  have hg := ways_get (falls := falls) (count := count) (p := 0) (r := 0) (by lia) (by lia)
  have hs := rStep_none (falls := falls) (ways := waysN falls count) (last := 0) (p := 1) rfl wp wl (by decide) (by decide) hg
  unfold ranksN
  rw [ways_len (by lia), show count - 1 = (count - 2) + 1 by lia, List.range_succ_eq_map, List.map_cons]
  show rGo falls (waysN falls count) (1 :: _) 0 _ [0] = _
  rw [rGo_c]
  rw [hs]
end
end Mine
end

section
open PySem PySem.W PyProof.Rows PySem.Calls
namespace Mine
noncomputable def le' {β : Type} (f g : St → Option β) : Prop := ∀ st r, f st = some r → g st = some r
theorem le_refl' {β : Type} (f : St → Option β) : le' f f := fun _ _ h => h
noncomputable def tNotInP (lk : Str → Option (Option Int)) (f : St → Option LV) : St → Option Bool := fun st => (eStr f st).bind fun x => (lk x).map fun o => !o.isSome
noncomputable def eItemGP (lk : Str → Option (Option Int)) (f : St → Option LV) : St → Option LV := fun st => (eStr f st).bind fun x => (lk x).bind fun o => o.map fun i => .d (.int i)
section
variable {lk : Str → Option (Option Int)} {tab : List (Str × Int)} (H : ∀ x o, lk x = some o → lkS tab x = o)
include H
theorem notIn_le (f : St → Option LV) : le' (tNotInP lk f) (tNotIn tab f) := fun st r h => by
  unfold tNotInP at h
  unfold tNotIn
  refine bind_some (h) fun x hx h => ?_
  refine map_some (h) fun o ho ee => ?_
  subst ee
  rw [hx, ← H x o ho]; rfl
theorem item_le (f : St → Option LV) : le' (eItemGP lk f) (eItemG tab f) := fun st r h => by
  unfold eItemGP at h
  unfold eItemG
  refine bind_some (h) fun x hx h => ?_
  refine bind_some (h) fun o ho h => ?_
  rw [hx]
  simp only [Option.bind_some, H x o ho]
  exact h
end
theorem and_le {t g g' : St → Option Bool} (h : le' g g') : le' (tAnd t g) (tAnd t g') := fun st r e => by
  unfold tAnd at e ⊢
  refine bind_some (e) fun b hb e => ?_
  rw [hb]
  cases b with
  | true => exact h st r e
  | false => exact e
theorem seq_le {f f' g g' : St → Option (Fl × St)} (h : le' f f') (k : le' g g') : le' (sSeq f g) (sSeq f' g') := fun st r e => by
  unfold sSeq at e ⊢
  refine bind_some2 (e) fun fl st' h1 e => ?_
  rw [h st _ h1]
  cases fl with
  | next => exact k st' r e
  | brk => exact e
  | cont => exact e
  | ret p => exact e
theorem mV_le {f f' : St → Option LV} (h : le' f f') : le' (mV f) (mV f') := fun st r e => by
  unfold mV at e ⊢
  refine map_some (e) fun lv h1 ee => ?_
  subst ee
  rw [h st _ h1]; rfl
theorem append_le {x : Nat} {f f' : St → Option (LV × St)} (h : le' f f') : le' (mAppend x f) (mAppend x f') := fun st r e => by
  unfold mAppend at e ⊢
  refine bind_some (e) fun xs h1 e => ?_
  refine bind_some (e) fun q h2 e => ?_
  rw [h1]
  simp only [Option.bind_some, h st q h2]
  exact e
theorem expr_le {f f' : St → Option (LV × St)} (h : le' f f') : le' (sExpr f) (sExpr f') := fun st r e => by
  unfold sExpr at e ⊢
  refine map_some (e) fun lv h1 ee => ?_
  subst ee
  rw [h st _ h1]; rfl
theorem while_le {t t' : St → Option Bool} {g g' : St → Option (Fl × St)} (h : le' t t') (k : le' g g') : ∀ n, le' (whGo t g n) (whGo t' g' n)
  | 0 => fun st r e => by cases e
  | n + 1 => fun st r e => by
    unfold whGo at e ⊢
    refine bind_some (e) fun b h1 e => ?_
    rw [h st _ h1]
    cases b with
    | false => exact e
    | true =>
      refine bind_some2 ((show ((g st).bind _) = some r from e)) fun fl st' h2 e => ?_
      simp only [Option.bind_some, cond_true, k st _ h2]
      cases fl with
      | next => exact while_le h k n st' r e
      | cont => exact while_le h k n st' r e
      | brk => exact e
      | ret p => exact e
noncomputable def g_fallsP (lk : Str → Option (Option Int)) : St → Option (Fl × St) := (sSeq (sAssign 18 (eC (.str ("" : Str)))) (sSeq (sAssignF 19 (eList lNil)) (sSeq (whGo (tOf truth (e2 oLt (eN oLen (lCons (eVar 18) lNil)) (eN oLen (lCons (eVar 16) lNil)))) (sSeq (sAssign 20 (eN oLen (lCons (eVar 18) lNil))) (sSeq (sAssign 21 (eC (.int 3))) (sSeq (whGo (tAnd (tOf truth (e2 oGt (eVar 21) (eC (.int 1)))) (tNotInP lk (eSliceS (eVar 16) (eVar 20) (e2 oAdd (eVar 20) (eVar 21))))) (sSeq (sAug 21 oSub (eC (.int 1))) sNil) 100) (sSeq (sExpr (mAppend 19 (mV (eItemGP lk (eSliceS (eVar 16) (eVar 20) (e2 oAdd (eVar 20) (eVar 21))))))) (sSeq (sAug 18 oIadd (eItemD [(16, ("*" : Str)), (17, ("/" : Str)), (20, ("<" : Str)), (21, (">" : Str)), (33, ("<<" : Str)), (34, (">>" : Str)), (35, ("**" : Str)), (47, ("//" : Str))] (eIdx (eVar 19) (e1 oNeg (eC (.int 1)))))) sNil))))) 100) (sSeq (sIf (tOf truth (e2 oNe (fzF (eComp 25 [19] (iRange (lCons (eC (.int 1)) (lCons (eN oLen (lCons (eVar 19) lNil)) lNil))) (tAnd (tOf truth (e2 oLt (eIdx (eVar 19) (eVar 25)) (eC (.int 33)))) (tOf truth (e2 oEq (eIdx (eVar 19) (e2 oSub (eVar 25) (eC (.int 1)))) (eIdx (eVar 19) (eVar 25))))) (eVar 25))) (fzF (eList lNil)))) (sSeq (sRetV (fzF (eList lNil))) sNil) sNil) (sSeq (sRetV (fzF (eComp 12 [17, 18] (iRange (lCons (eN oLen (lCons (eVar 18) lNil)) lNil)) (tOf truth (e2 oEq (eIdxS (eVar 18) (eVar 12)) (eVar 17))) (e2 oAdd (eVar 12) (eC (.int 1)))))) sNil)))))
noncomputable def f_fallsP (lk : Str → Option (Option Int)) : List LV → Option PyData := fnOfBody (initP [16, 17]) (g_fallsP lk)
theorem falls_le {lk : Str → Option (Option Int)} {tab : List (Str × Int)} (H : ∀ x o, lk x = some o → lkS tab x = o) {ls : List LV} {r : PyData} (h : f_fallsP lk ls = some r) : f_fallsT tab ls = some r := by
  have hg : le' (g_fallsP lk) (g_fallsT tab) := by
    unfold g_fallsP g_fallsT
    refine seq_le (le_refl' _) (seq_le (le_refl' _) (seq_le (while_le (le_refl' _) ?_ 100) (le_refl' _)))
    exact seq_le (le_refl' _) (seq_le (le_refl' _) (seq_le (while_le (and_le (notIn_le H _)) (le_refl' _) 100) (seq_le (expr_le (append_le (mV_le (item_le H _)))) (le_refl' _))))
  unfold f_fallsP fnOfBody at h
  unfold f_fallsT fnOfBody
  refine bind_some (h) fun st h1 h2 => ?_
  rw [h1]
  simp only [Option.bind_some]
  cases q : g_fallsP lk st with
  | none => rw [q] at h2; cases h2
  | some x => rw [hg st x q, ← q]; exact h2
noncomputable def okP (a b : Nat) : Bool := Nat.beq a b || (Nat.beq a 60 && Nat.beq b 62) || (Nat.beq a 62 && Nat.beq b 60) || (Nat.beq a 42 && Nat.beq b 47) || (Nat.beq a 47 && Nat.beq b 42) || (Nat.beq a 47 && Nat.beq b 60) || (Nat.beq a 60 && Nat.beq b 47) || (Nat.beq a 62 && Nat.beq b 42) || (Nat.beq a 42 && Nat.beq b 62)
noncomputable def isC (a : Nat) : Bool := Nat.beq a 60 || Nat.beq a 62 || Nat.beq a 42 || Nat.beq a 47
noncomputable def one8 (a : Nat) : Option Int := cond (Nat.beq a 60) (some 20) (cond (Nat.beq a 62) (some 21) (cond (Nat.beq a 42) (some 16) (some 17)))
noncomputable def two8 (a : Nat) : Option Int := cond (Nat.beq a 60) (some 33) (cond (Nat.beq a 62) (some 34) (cond (Nat.beq a 42) (some 35) (some 47)))
noncomputable def lk8 (s : Str) : Option (Option Int) := match s.cps.toList with
  | [a] => cond (isC a) (some (one8 a)) none
  | [a, b] => cond (isC a && isC b && okP a b) (some (cond (Nat.beq a b) (two8 a) none)) none
  | [a, b, c] => cond (isC a && isC b && isC c && okP a b && okP b c && okP a c) (some none) none
  | _ => none
noncomputable def cs4 : List Nat := [60, 62, 42, 47]
theorem isC_mem {a : Nat} (h : isC a = true) : a ∈ cs4 := by
  unfold isC at h
  simp only [beq_dec, Bool.or_eq_true, decide_eq_true_eq] at h
  unfold cs4
  rcases h with ((h | h) | h) | h <;> subst h <;> simp
theorem w1 : ∀ a ∈ cs4, (⟨#[a]⟩ : Str) ∈ words ∧ lkS tab8 ⟨#[a]⟩ = one8 a := by decide +kernel
theorem w2 : ∀ a ∈ cs4, ∀ b ∈ cs4, okP a b = true → (⟨#[a, b]⟩ : Str) ∈ words ∧ lkS tab8 ⟨#[a, b]⟩ = cond (Nat.beq a b) (two8 a) none := by decide +kernel
theorem w3 : ∀ a ∈ cs4, ∀ b ∈ cs4, ∀ c ∈ cs4, (okP a b && okP b c && okP a c) = true → (⟨#[a, b, c]⟩ : Str) ∈ words ∧ lkS tab8 ⟨#[a, b, c]⟩ = none := by decide +kernel
theorem lk8_ok {tab : List (Str × Int)} (H : ∀ s ∈ words, lkS tab s = lkS tab8 s) : ∀ x o, lk8 x = some o → lkS tab x = o := fun x o h => by
  have hx : x = ⟨x.cps.toList.toArray⟩ := by simp
  unfold lk8 at h
  split at h
  · rename_i a e
    rw [hx, e]
    refine cond_elim (c := isC a) h fun q h => ?_
    simp only [cond_true, Option.some.injEq] at h
    obtain ⟨w, v⟩ := w1 a (isC_mem q)
    exact ((H _ w).trans v).trans h
  · rename_i a b e
    rw [hx, e]
    refine cond_elim (c := (isC a && isC b && okP a b)) h fun q h => ?_
    simp only [cond_true, Option.some.injEq] at h
    simp only [Bool.and_eq_true] at q
    obtain ⟨w, v⟩ := w2 a (isC_mem q.1.1) b (isC_mem q.1.2) q.2
    exact ((H _ w).trans v).trans h
  · rename_i a b c e
    rw [hx, e]
    refine cond_elim (c := (isC a && isC b && isC c && okP a b && okP b c && okP a c)) h fun q h => ?_
    simp only [cond_true, Option.some.injEq] at h
    simp only [Bool.and_eq_true] at q
    obtain ⟨w, v⟩ := w3 a (isC_mem q.1.1.1.1.1) b (isC_mem q.1.1.1.1.2) c (isC_mem q.1.1.1.2) (by simp only [Bool.and_eq_true]; exact ⟨⟨q.1.1.2, q.1.2⟩, q.2⟩)
    exact ((H _ w).trans v).trans h
  · cases h
noncomputable def isL8 (r : Option PyData) (l : List Nat) : Bool := match r with
  | some (.list xs) => (match zsOf xs with | some zs => decide (zs = l.map fun (k : Nat) => (k : Int)) | none => false)
  | _ => false
theorem zs_back : ∀ {xs : List PyData} {zs : List Int}, zsOf xs = some zs → xs = zs.map PyData.int := by
  intro xs
  induction xs with
  | nil =>
    intro zs h
    cases h; rfl
  | cons x xs ih =>
    intro zs h
    cases x <;> first | (cases h; done) | skip
    refine map_some (h) fun ms hm ee => ?_
    subst ee
    rw [ih hm]; rfl
theorem isL8_eq {r : Option PyData} {l : List Nat} (h : isL8 r l = true) : r = some (.list (nI l)) := by
  unfold isL8 at h
  split at h
  · split at h
    · rename_i xs zs hz
      have := of_decide_eq_true h
      rw [zs_back hz, this]
      unfold nI
      rw [List.map_map]; rfl
    · cases h
  · cases h
end Mine
end

section
open PySem PySem.W PyProof.Rows PySem.Calls
namespace Mine
noncomputable def szN (n1 x y z : Nat) : List Nat := ([1 + x, 1 + y, 1 + z] : List Nat).take n1
noncomputable def tailN (way : Nat) : List Nat := match way with
  | 0 => []
  | 1 => [0]
  | 2 => [0, 5]
  | 3 => [127]
  | _ => [127, 2]
noncomputable def isRep (way : Nat) : Bool := Nat.beq way 1 || Nat.beq way 2
noncomputable def dueN (sz : List Nat) (way : Nat) : List Nat := cond (isRep way) ((sz ++ List.replicate 8 (gN sz (sz.length - 1))).take 8) sz
noncomputable def marksN (due : List Nat) (count : Nat) : List Nat := ((List.range due.length).filter fun k => decide ((due.take (k + 1)).sum < count)).map fun k => (due.take (k + 1)).sum
noncomputable def zI (l : List Nat) : List Int := l.map fun (k : Nat) => (k : Int)
theorem zs_nI (l : List Nat) : zsOf (nI l) = some (zI l) := by
  unfold nI zI
  induction l with
  | nil => rfl
  | cons x l ih => show (zsOf (l.map fun (k : Nat) => PyData.int (k : Int))).map (((x : Nat) : Int) :: ·) = _; rw [ih]; rfl
theorem nI_zI (l : List Nat) : (zI l).map PyData.int = nI l := by unfold zI nI; rw [List.map_map]; rfl
theorem nI_app (a b : List Nat) : nI a ++ nI b = nI (a ++ b) := by unfold nI; rw [List.map_append]
noncomputable def szChk (sz : List Nat) (way : Nat) : Bool := giOk (zI (sz ++ tailN way)) none && decide (zTake (gi (zI (sz ++ tailN way)) none) 8 0 = zI (dueN sz way))
theorem szChk_all : ∀ n1 < 3, ∀ x < 3, ∀ y < 3, ∀ z < 3, ∀ way < 5, szChk (szN (n1 + 1) x y z) way = true := by decide +kernel
theorem eqv_nI : ∀ l : List Nat, PyData.eqvAll (nI l) (nI l) = true
  | [] => rfl
  | k :: l => by
    have := eqv_nI l
    unfold nI at this ⊢
    rw [List.map_cons]
    show (PyData.eqv (.int (k : Int)) (.int (k : Int)) && PyData.eqvAll _ _) = true
    rw [eqv_nat, this, beq_self_eq_true]; rfl
theorem ne_nI (l : List Nat) : oNe (.list (nI l)) (.list (nI l)) = some (.d (.bool false)) := ne_same (by
  obtain ⟨h1, h2⟩ := nI_okAll l
  have e : PyData.canLay0 (.list (nI l)) = true := h1
  have d : PyData.depth (.list (nI l)) = 1 := by show PyData.depthAll (nI l) + 1 = 1; rw [h2]
  unfold eqOk
  rw [e, d]; rfl) (eqv_nI l)
section
variable {st : St} {f g : St → Option LV}
theorem plst_of {lv : LV} {xs : List PyData} (h : f st = some lv) (e : lv.plst = some xs) : ePlst f st = some xs := by unfold ePlst; rw [h]; exact e
theorem v_cat {a b : LV} {xs ys : List Nat} (hf : f st = some a) (ha : a.plst = some (nI xs)) (hg : g st = some b) (hb : b.plst = some (nI ys)) (hn : xs.length + ys.length ≤ 1000) : fzF (eCat f g) st = some (.d (.list (nI (xs ++ ys)))) := fz (by
  refine Option.bind_eq_some_iff.mpr ⟨_, plst_of hf ha, Option.bind_eq_some_iff.mpr ⟨_, plst_of hg hb, ?_⟩⟩
  rw [nI_len, nI_len, ble_mil hn, nI_app]; rfl)
theorem v_comp {xi : Nat} {fr : List Nat} {fi : St → Option (List PyData)} {tt : St → Option Bool} {fe : St → Option LV} {xs rs : List PyData} (h : fi st = some xs) (k : compGo tt fe (mkC xi fr st) xs = some rs) : eComp xi fr fi tt fe st = some rs := Option.bind_eq_some_iff.mpr ⟨_, h, k⟩
theorem v_rep8 {a : Nat} (hf : f st = some (.d (.int (a : Int)))) : fzF (eRep (fzF (eList (lCons f lNil))) (eC (.int 8))) st = some (.d (.list (nI (List.replicate 8 a)))) := fz (by
  refine Option.bind_eq_some_iff.mpr ⟨[.int (a : Int)], plst_of (fz (l_1 hf)) rfl, Option.bind_eq_some_iff.mpr ⟨8, rfl, ?_⟩⟩
  rw [if_pos ⟨by decide, by decide, rfl⟩]; rfl)
theorem tail_ok {s : St} : ∀ w < 5, s.get 52 = some (.d (.int ((w : Nat) : Int))) → eIdxT (eTuple (lCons (fzF (eList lNil)) (lCons (fzF (eList (lCons (eC (.int 0)) lNil))) (lCons (fzF (eList (lCons (eC (.int 0)) (lCons (eC (.int 5)) lNil)))) (lCons (fzF (eList (lCons (eC (.int 127)) lNil))) (lCons (fzF (eList (lCons (eC (.int 127)) (lCons (eC (.int 2)) lNil)))) lNil)))))) (eVar 52) s = some (.d (.list (nI (tailN w)))) := by
  intro w hw h
  rcases (show w = 0 ∨ w = 1 ∨ w = 2 ∨ w = 3 ∨ w = 4 by lia) with rfl | rfl | rfl | rfl | rfl <;>
    exact Option.bind_eq_some_iff.mpr ⟨_, rfl, Option.bind_eq_some_iff.mpr ⟨_, v_int (f := eVar 52) h, rfl⟩⟩
theorem rep_ok {s : St} : ∀ w < 5, s.get 52 = some (.d (.int ((w : Nat) : Int))) → tOf truth (e2 oInT (eVar 52) (eTuple (lCons (eC (.int 1)) (lCons (eC (.int 2)) lNil)))) s = some (isRep w) := by
  intro w hw h
  rcases (show w = 0 ∨ w = 1 ∨ w = 2 ∨ w = 3 ∨ w = 4 by lia) with rfl | rfl | rfl | rfl | rfl <;>
    exact v_tOf (v_e2 (f := eVar 52) h rfl rfl)
theorem v_ifF {t : St → Option Bool} (h : t st = some false) : sIfF t st = some (.next, st) := by unfold sIfF; rw [h]; rfl
theorem v_neD {v : PyData} (hf : f st = some (.d v)) (hg : g st = some (.d v)) (h : oNe v v = some (.d (.bool false))) : tOf truth (e2 oNe f g) st = some false := v_tOf (v_e2 hf hg h)
end
noncomputable def Runs (st st' : St) (f : (St → Option (Fl × St)) → St → Option (Fl × St)) : Prop := ∀ K r, K st' = r → f K st = r
structure L8 (c0 c1 c2 : Int) (count : Nat) (row : List Ent) (st : St) : Prop where
  h44 : st.get 44 = some (.own (cellsI c0 c1 c2))
  h23 : st.get 23 = some (.d (.int (count : Int)))
  h39 : st.get 39 = some (.d (.list (eL row)))
theorem L8.set {c0 c1 c2 : Int} {count : Nat} {row : List Ent} {st : St} (H : L8 c0 c1 c2 count row st) {i : Nat} {v : LV} (h1 : i ≠ 44) (h2 : i ≠ 23) (h3 : i ≠ 39) : L8 c0 c1 c2 count row (st.set i v) :=
  ⟨get_ne H.h44 (Ne.symm h1), get_ne H.h23 (Ne.symm h2), get_ne H.h39 (Ne.symm h3)⟩
theorem law_mid {c0 c1 c2 : Int} {count : Nat} {row : List Ent} {st : St} (H : L8 c0 c1 c2 count row st) :
    ∃ n1 x y z way st', n1 < 3 ∧ x < 3 ∧ y < 3 ∧ z < 3 ∧ way < 5 ∧ L8 c0 c1 c2 count row st' ∧ st'.get 22 = some (.d (.list (nI (marksN (dueN (szN (n1 + 1) x y z) way) count)))) ∧
      Runs st st' fun K => sSeq s_law9 (sSeq s_law10 (sSeq s_law11 (sSeq s_law12 (sSeq s_law13 (sSeq s_law14 (sSeq s_law15 K)))))) := by
  refine ⟨dN c0 1 % 3, dN c0 2 % 3, dN c0 3 % 3, dN c0 4 % 3, dN c0 5 % 5, ?_⟩
  have b1 : dN c0 1 % 3 < 3 := Nat.mod_lt _ (by decide)
  have b2 : dN c0 2 % 3 < 3 := Nat.mod_lt _ (by decide)
  have b3 : dN c0 3 % 3 < 3 := Nat.mod_lt _ (by decide)
  have b4 : dN c0 4 % 3 < 3 := Nat.mod_lt _ (by decide)
  have b5 : dN c0 5 % 5 < 5 := Nat.mod_lt _ (by decide)
  have chk := szChk_all _ b1 _ b2 _ b3 _ b4 _ b5
  generalize hsz : szN (dN c0 1 % 3 + 1) (dN c0 2 % 3) (dN c0 3 % 3) (dN c0 4 % 3) = sz at chk ⊢
  have hszl : sz.length = dN c0 1 % 3 + 1 := by rw [← hsz]; unfold szN; rw [List.length_take]; simp; lia
  -- sizes
  have e9 : s_law9 st = some (.next, st.set 51 (.d (.list (nI sz)))) := by
    refine asgC (v_comp (v_range1 (n := 1 + dN c0 1 % 3) (v_add (a := 1) (f := eC (.int 1)) (g := e2 oMod (eCall f_figure (lCons (eIdx (eVar 44) (eC (.int 0))) (lCons (eC (.int 1)) lNil))) (eC (.int 3))) rfl (v_mod (b := 3) (v_fig (j := 0) (k := 1) (c := c0) (g := eC (.int 1)) H.h44 rfl (by decide) rfl (by decide)) rfl (by decide))) (by lia)) ?_)
    rw [comp_map (fun (i : Nat) => PyData.int (i : Int)) (fun k => .int ((1 + dN c0 (2 + k) % 3 : Nat) : Int)) (List.range (1 + dN c0 1 % 3)) fun k hk => ⟨?_, rfl⟩]
    · rw [← hsz]
      unfold nI
      have : szN (dN c0 1 % 3 + 1) (dN c0 2 % 3) (dN c0 3 % 3) (dN c0 4 % 3) = (List.range (1 + dN c0 1 % 3)).map fun k => 1 + dN c0 (2 + k) % 3 := by
        generalize dN c0 1 % 3 = n1 at b1
        rcases (show n1 = 0 ∨ n1 = 1 ∨ n1 = 2 by lia) with rfl | rfl | rfl <;> rfl
      rw [this, List.map_map]; rfl
    · have := List.mem_range.mp hk
      exact v_add (a := 1) (f := eC (.int 1)) (g := e2 oMod (eCall f_figure (lCons (eIdx (eVar 44) (eC (.int 0))) (lCons (e2 oAdd (eC (.int 2)) (eVar 25)) lNil))) (eC (.int 3))) rfl (v_mod (b := 3) (v_fig (j := 0) (k := 2 + k) (c := c0) (g := e2 oAdd (eC (.int 2)) (eVar 25)) (mkC_get H.h44 (by decide) (by decide)) rfl (by decide) (v_add (a := 2) (f := eC (.int 2)) (g := eVar 25) rfl mkC_x) (by lia)) rfl (by decide))
  have H9 := H.set (i := 51) (v := .d (.list (nI sz))) (by decide) (by decide) (by decide)
  generalize hs9 : st.set 51 (.d (.list (nI sz))) = s9 at e9 H9
  have g51 : s9.get 51 = some (.d (.list (nI sz))) := get_sameE hs9
  generalize hway : dN c0 5 % 5 = way at b5 chk ⊢
  have e10 : s_law10 s9 = some (.next, s9.set 52 (.d (.int (way : Int)))) := asg (by
    rw [← hway]
    exact v_mod (b := 5) (v_fig (j := 0) (k := 5) (c := c0) (g := eC (.int 5)) H9.h44 rfl (by decide) rfl (by decide)) rfl (by decide))
  have H10 := H9.set (i := 52) (v := .d (.int (way : Int))) (by decide) (by decide) (by decide)
  generalize hs10 : s9.set 52 (.d (.int (way : Int))) = s10 at e10 H10
  have k52 : s10.get 52 = some (.d (.int (way : Int))) := get_sameE hs10
  have k51 := get_neE g51 (by decide) hs10
  have e11 : s_law11 s10 = some (.next, s10.set 53 (.d (.list (nI (tailN way))))) := asg (tail_ok way b5 k52)
  have H11 := H10.set (i := 53) (v := .d (.list (nI (tailN way)))) (by decide) (by decide) (by decide)
  generalize hs11 : s10.set 53 (.d (.list (nI (tailN way)))) = s11 at e11 H11
  have m53 : s11.get 53 = some (.d (.list (nI (tailN way)))) := get_sameE hs11
  have m52 := get_neE k52 (by decide) hs11
  have m51 := get_neE k51 (by decide) hs11
  have tl : (tailN way).length ≤ 2 := by rcases (show way = 0 ∨ way = 1 ∨ way = 2 ∨ way = 3 ∨ way = 4 by lia) with rfl | rfl | rfl | rfl | rfl <;> decide
  have e12 : s_law12 s11 = some (.next, s11) := by
    refine v_ifF ?_
    have h1 : eLst (fzF (eCat (fzF (eCat (fzF (eList (lCons (eC (.int 0)) lNil))) (eVar 51))) (eVar 53))) s11 = some (nI ([0] ++ sz ++ tailN way)) := v_lst (v_cat (v_cat (f := fzF (eList (lCons (eC (.int 0)) lNil))) (xs := [0]) rfl rfl (g := eVar 51) m51 rfl (by simp; lia)) rfl (g := eVar 53) m53 rfl (by simp; lia)) rfl
    have h2 : eLst (fzF (eCat (fzF (eList (lCons (eC (.int 127)) lNil))) (eVar 51))) s11 = some (nI ([127] ++ sz)) := v_lst (v_cat (f := fzF (eList (lCons (eC (.int 127)) lNil))) (xs := [127]) rfl rfl (g := eVar 51) m51 rfl (by simp; lia)) rfl
    have h3 : eComp0 (fzF (eCat (fzF (eList (lCons (eC (.int 127)) lNil))) (eVar 51))) s11 = some (.d (.list [])) := Option.bind_eq_some_iff.mpr ⟨_, h2, Option.bind_eq_some_iff.mpr ⟨_, zs_nI _, rfl⟩⟩
    refine Option.bind_eq_some_iff.mpr ⟨_, h1, Option.bind_eq_some_iff.mpr ⟨_, zs_nI _, ?_⟩⟩
    exact v_neD h3 rfl (ne_nI [])
  have e13 : s_law13 s11 = some (.next, s11.set 54 (.d (.list (nI (dueN sz way))))) := asg (v_ite (rep_ok way b5 m52) (by
    unfold dueN
    have hl : (nI sz).getLast? = some (.int (gN sz (sz.length - 1) : Int)) := by
      rw [List.getLast?_eq_getElem?, nI_len]
      exact nI_get (by lia)
    cases isRep way with
    | true => exact v_upto (f := fzF (eCat (eVar 51) (fzF (eRep (fzF (eList (lCons (eIdx (eVar 51) (e1 oNeg (eC (.int 1)))) lNil))) (eC (.int 8)))))) (g := eC (.int 8)) (b := 8) (v_cat (f := eVar 51) m51 rfl (v_rep8 (v_last (f := eVar 51) m51 rfl hl)) rfl (by simp; lia)) rfl rfl (by simp; lia)
    | false => exact m51))
  have H13 := H11.set (i := 54) (v := .d (.list (nI (dueN sz way)))) (by decide) (by decide) (by decide)
  generalize hs13 : s11.set 54 (.d (.list (nI (dueN sz way)))) = s13 at e13 H13
  have n54 : s13.get 54 = some (.d (.list (nI (dueN sz way)))) := get_sameE hs13
  have n53 := get_neE m53 (by decide) hs13
  have n51 := get_neE m51 (by decide) hs13
  have hdl : (dueN sz way).length ≤ 8 := by
    unfold dueN
    cases isRep way with
    | true => simp only [cond_true]; rw [List.length_take]; lia
    | false => simp only [cond_false]; lia
  unfold szChk at chk
  simp only [Bool.and_eq_true, decide_eq_true_eq] at chk
  have e14 : s_law14 s13 = some (.next, s13) := by
    have h1 : eLst (fzF (eCat (eVar 51) (eVar 53))) s13 = some (nI (sz ++ tailN way)) := v_lst (v_cat (f := eVar 51) n51 rfl (g := eVar 53) n53 rfl (by lia)) rfl
    have h2 : eCompZ (fzF (eCat (eVar 51) (eVar 53))) s13 = some (.d (.list (nI (dueN sz way)))) := Option.bind_eq_some_iff.mpr ⟨_, h1, Option.bind_eq_some_iff.mpr ⟨_, zs_nI _, by rw [chk.1, chk.2, nI_zI]; rfl⟩⟩
    exact v_ifF (v_neD h2 (g := eVar 54) n54 (ne_nI _))
  have e15 : s_law15 s13 = some (.next, s13.set 22 (.d (.list (nI (marksN (dueN sz way) count))))) := asg (fz (by
    refine v_comp (v_range1 (n := (dueN sz way).length) (by rw [v_len (f := eVar 54) n54 rfl (by rw [nI_len]; lia), nI_len]) (by lia)) ?_
    have sm : ∀ k, eN oSum (lCons (fzF (eSlice (eVar 54) pNone (pSome (e2 oAdd (eVar 25) (eC (.int 1)))) pNone)) lNil) (mkC 25 [54, 23] s13 (.int ((k : Nat) : Int))) = some (.d (.int ((((dueN sz way).take (k + 1)).sum : Nat) : Int))) := fun k =>
      v_sum (v_upto (f := eVar 54) (l := dueN sz way) (mkC_get n54 (by decide) (by decide)) rfl (v_add (f := eVar 25) (g := eC (.int 1)) (b := 1) mkC_x rfl) (by lia)) rfl
    rw [comp_filter (fun (i : Nat) => PyData.int (i : Int)) (fun k => .int ((((dueN sz way).take (k + 1)).sum : Nat) : Int)) (fun k => decide (((dueN sz way).take (k + 1)).sum < count)) (List.range (dueN sz way).length) fun k _ => ⟨v_lt (sm k) (g := eVar 23) (mkC_get H13.h23 (by decide) (by decide)), fun _ => ⟨sm k, rfl⟩⟩]
    unfold marksN nI
    rw [List.map_map]; rfl))
  exact ⟨_, b1, b2, b3, b4, b5, H13.set (by decide) (by decide) (by decide), get_same .., fun K r h => seqN e9 (seqN e10 (seqN e11 (seqN e12 (seqN e13 (seqN e14 (seqN e15 h))))))⟩
end Mine
end

section
open PySem PySem.W PyProof.Rows PySem.Calls
namespace Mine
noncomputable def cellBody : St → Option (Fl × St) := sSeq (sAugIdx 44 oIadd (e2 oMod (eVar 25) (eC (.int 3))) (eIdx (eVar 43) (eVar 25))) sNil
theorem s_law1_eq : s_law1 = sFor 25 (iRange (lCons (eN oLen (lCons (eVar 43) lNil)) lNil)) cellBody := rfl
theorem augIdx_ok {st : St} {x i : Nat} {xs : List PyData} {a b r : PyData} {op : PyData → PyData → Option LV} {g f : St → Option LV} (h : st.get x = some (.own xs)) (hg : g st = some (.d (.int (i : Int)))) (hf : f st = some (.d b)) (hn : xs.length ≤ 1000) (ha : xs[i]? = some a) (ho : op a b = some (.d r)) : sAugIdx x op g f st = some (.next, st.set x (.own (xs.set i r))) :=
  Option.bind_eq_some_iff.mpr ⟨_, own_of h, Option.bind_eq_some_iff.mpr ⟨_, v_int hg, Option.bind_eq_some_iff.mpr ⟨_, v_dat hf, by
    rw [ble_mil hn, if_pos (Int.natCast_nonneg i), Int.toNat_natCast, ha]
    simp only [Option.bind_some, ho, cond_true]⟩⟩⟩
structure CeSt (xs : List Int) (st : St) : Prop where
  h43 : st.get 43 = some (.arg (xs.map .int))
  h44 : ∃ c0 c1 c2, st.get 44 = some (.own (cellsI c0 c1 c2))
theorem cells_step {xs : List Int} {st : St} {k : Nat} (C : CeSt xs st) (hk : k < xs.length) (hn : xs.length ≤ 63) : ∃ st', cellBody (st.set 25 (.d (.int (k : Int)))) = some (.next, st') ∧ CeSt xs st' := by
  refine byC fun CC hCC => ?_
  obtain ⟨h43, c0, c1, c2, h44⟩ := C
  refine hCC ?_
  clear hCC
  have hx : (xs.map PyData.int)[k]? = some (.int xs[k]) := by rw [List.getElem?_map, List.getElem?_eq_getElem hk]; rfl
  generalize xs[k] = x at hx
  generalize hs0 : st.set 25 (.d (.int (k : Int))) = s0
  have g25 : s0.get 25 = some (.d (.int (k : Int))) := get_sameE hs0
  have g43 := get_neE h43 (by decide) hs0
  have g44 := get_neE h44 (by decide) hs0
  have hi : e2 oMod (eVar 25) (eC (.int 3)) s0 = some (.d (.int ((k % 3 : Nat) : Int))) := v_mod (f := eVar 25) (g := eC (.int 3)) (b := 3) g25 rfl (by decide)
  have hv : eIdx (eVar 43) (eVar 25) s0 = some (.d (.int x)) := v_idx (f := eVar 43) (g := eVar 25) g43 rfl g25 hx (by lia)
  have hm : k % 3 < 3 := Nat.mod_lt _ (by decide)
  rcases (show k % 3 = 0 ∨ k % 3 = 1 ∨ k % 3 = 2 by lia) with h | h | h
  · rw [h] at hi
    exact ⟨_, seqN (augIdx_ok (op := oIadd) g44 hi hv (by unfold cellsI; simp) (i := 0) rfl rfl) rfl, get_ne g43 (by decide), c0 + x, c1, c2, get_same ..⟩
  · rw [h] at hi
    exact ⟨_, seqN (augIdx_ok (op := oIadd) g44 hi hv (by unfold cellsI; simp) (i := 1) rfl rfl) rfl, get_ne g43 (by decide), c0, c1 + x, c2, get_same ..⟩
  · rw [h] at hi
    exact ⟨_, seqN (augIdx_ok (op := oIadd) g44 hi hv (by unfold cellsI; simp) (i := 2) rfl rfl) rfl, get_ne g43 (by decide), c0, c1, c2 + x, get_same ..⟩
theorem cells_loop {xs : List Int} (hn : xs.length ≤ 63) : ∀ (ks : List Nat) (st : St), CeSt xs st → (∀ k ∈ ks, k < xs.length) → ∃ st', forGo 25 cellBody (ks.map fun (k : Nat) => .int (k : Int)) st = some (.next, st') ∧ CeSt xs st' := by
  intro ks
  induction ks with
  | nil =>
    intro st C _
    exact ⟨st, rfl, C⟩
  | cons k ks ih =>
    intro st C hk
    refine byC fun CC hCC => ?_
    obtain ⟨st', e, C'⟩ := cells_step C (hk k (.head _)) hn
    obtain ⟨st'', e', C''⟩ := ih st' C' fun j hj => hk j (.tail _ hj)
    refine hCC ?_
    clear hCC
    refine ⟨st'', ?_, C''⟩
    rw [List.map_cons]
    rw [forGo_c]
    rw [e]; exact e'
theorem twos : ∀ l : List Nat, ((List.range l.length).map fun j => 2 * j).filterMap ((twL l)[·]?) = l.map (2 * ·)
  | [] => rfl
  | x :: l => by
    have ih := twos l
    rw [List.length_cons, List.range_succ_eq_map, List.map_cons, List.map_map, List.filterMap_cons]
    have e0 : (twL (x :: l))[2 * 0]? = some (2 * x) := rfl
    rw [e0]
    dsimp only
    rw [List.map_cons, ← ih, List.filterMap_map, List.filterMap_map]
    rfl
theorem pickA_two (l : List Nat) : pickA (twL l) none none (some 2) = l.map (2 * ·) := by
  unfold pickA
  have hb : sliceBounds none none (some 2) (twL l).length = (0, ((twL l).length : Int), 2) := by unfold sliceBounds; simp
  have hr : sliceRange 0 (((2 * l.length : Nat)) : Int) 2 = (List.range l.length).map fun j => 2 * j := by
    unfold sliceRange
    have hc : (if (2 : Int) > 0 then (if (0 : Int) < ((2 * l.length : Nat) : Int) then (((2 * l.length : Nat) : Int) - 0 + 2 - 1) / 2 else 0) else (if (0 : Int) > ((2 * l.length : Nat) : Int) then (0 - ((2 * l.length : Nat) : Int) - 2 - 1) / (-2) else 0)) = (l.length : Int) := by
      rw [if_pos (by decide)]
      by_cases q : (0 : Int) < ((2 * l.length : Nat) : Int)
      · rw [if_pos q]; lia
      · rw [if_neg q]; lia
    simp only [hc, Int.toNat_natCast]
    apply List.map_congr_left
    intro j _
    lia
  rw [hb]
  dsimp only
  rw [twL_len, hr]
  exact twos l
theorem numbers_sorted {ch : List Nat} (hs : ch.Pairwise (· < ·)) (h9 : ∀ x ∈ ch, x < 9) : sortI (zI (ch.map (8 - ·))) = zI (ch.map (8 - ·)).reverse := by
  refine sortI_eq ?_ ?_
  · unfold zI; rw [List.map_reverse]; exact List.reverse_perm _
  · unfold zI
    rw [List.map_reverse, List.pairwise_reverse, List.map_map]
    refine List.pairwise_map.mpr (hs.imp_of_mem fun {a b} ha hb hab => ?_)
    have := h9 a ha
    have := h9 b hb
    show (((8 - b : Nat)) : Int) ≤ ((8 - a : Nat) : Int)
    lia
theorem law_start (xs : List Int) (hn : xs.length ≤ 63) : ∃ (c0 c1 c2 : Int) (d : Nat) (ch : List Nat) (st' : St), d < 3 ∧ ch.Pairwise (· < ·) ∧ (∀ x ∈ ch, x < 9) ∧ ch.length = 5 + d ∧ L8 c0 c1 c2 (5 + d) (ch.map fun x => enN (2 * x)) st' ∧
    Runs [(43, .arg (xs.map .int))] st' fun K => sSeq s_law0 (sSeq s_law1 (sSeq s_law2 (sSeq s_law3 (sSeq s_law4 (sSeq s_law5 (sSeq s_law6 (sSeq s_law7 (sSeq s_law8 K)))))))) := by
  have e0 : s_law0 [(43, .arg (xs.map .int))] = some (.next, St.set [(43, .arg (xs.map .int))] 44 (.own (cellsI 100211 513724 4))) := asgF rfl
  have C0 : CeSt xs (St.set [(43, .arg (xs.map .int))] 44 (.own (cellsI 100211 513724 4))) := ⟨rfl, _, _, _, rfl⟩
  generalize St.set [(43, .arg (xs.map .int))] 44 (.own (cellsI 100211 513724 4)) = s0 at e0 C0
  refine byC fun CC hCC => ?_
  obtain ⟨s1, ec1, C1⟩ := cells_loop hn (List.range xs.length) s0 C0 fun k hk => List.mem_range.mp hk
  have hr1 : iRange (lCons (eN oLen (lCons (eVar 43) lNil)) lNil) s0 = some ((List.range xs.length).map fun i => .int (i : Int)) := v_range1 (by rw [v_len (f := eVar 43) C0.h43 rfl (by rw [List.length_map]; lia), List.length_map]) (by lia)
  have e1' : s_law1 s0 = some (.next, s1) := by rw [s_law1_eq]; unfold sFor; rw [hr1]; exact ec1
  obtain ⟨_, c0, c1, c2, g44⟩ := C1
  refine hCC ?_
  clear hCC
  have hd : dN c0 0 % 3 < 3 := Nat.mod_lt _ (by decide)
  have e2' : s_law2 s1 = some (.next, s1.set 23 (.d (.int ((5 + dN c0 0 % 3 : Nat) : Int)))) := asg (v_add (a := 5) (f := eC (.int 5)) rfl (v_mod (b := 3) (v_fig (j := 0) (k := 0) (c := c0) (g := eC (.int 0)) g44 rfl (by decide) rfl (by decide)) rfl (by decide)))
  generalize dN c0 0 % 3 = d at hd e2'
  generalize hs2 : s1.set 23 (.d (.int ((5 + d : Nat) : Int))) = s2 at e2'
  have k23 : s2.get 23 = some (.d (.int ((5 + d : Nat) : Int))) := get_sameE hs2
  have k44 := get_neE g44 (by decide) hs2
  have e3 : s_law3 s2 = some (.next, s2.set 45 (.own (poolD (List.range 9)))) := asgF rfl
  have e4 : s_law4 (s2.set 45 (.own (poolD (List.range 9)))) = some (.next, (s2.set 45 (.own (poolD (List.range 9)))).set 46 (.own (twD (twL [])))) := asgF rfl
  have I0 : PkInv c0 c1 c2 (5 + d) 0 ((s2.set 45 (.own (poolD (List.range 9)))).set 46 (.own (twD (twL [])))) := ⟨⟨List.range 9, [], ⟨get_ne (get_ne k44 (by decide)) (by decide), get_ne (get_same ..) (by decide), get_same ..⟩, List.Pairwise.nil, fun _ _ m => (nomatch m), List.nodup_range, fun x hx => List.mem_range.mp hx, fun _ m => (nomatch m), rfl, rfl⟩, get_ne (get_ne k23 (by decide)) (by decide)⟩
  generalize (s2.set 45 (.own (poolD (List.range 9)))).set 46 (.own (twD (twL []))) = s4 at e4 I0
  refine byC fun CC hCC => ?_
  obtain ⟨s5, e5, ⟨pool, ch, P, hs, _, _, _, h9, _, hl⟩, m23⟩ := picks_loop (by lia) (5 + d) 0 s4 (by lia) I0
  refine hCC ?_
  clear hCC
  have hr5 : iRange (lCons (eVar 23) lNil) s4 = some ((List.range (5 + d)).map fun i => .int ((0 + i : Nat) : Int)) := by
    rw [v_range1 (f := eVar 23) (n := 5 + d) I0.h23 (by lia)]
    simp
  have e5' : s_law5 s4 = some (.next, s5) := by rw [s_law5_eq]; unfold sFor; rw [hr5]; exact e5
  have lt : (twD (twL ch)).length ≤ 1000 := by unfold twD; rw [eL_len, List.length_map, twL_len]; lia
  have e6 : s_law6 s5 = some (.next, s5.set 39 (.d (.list (eL (ch.map fun x => enN (2 * x)))))) := asg (fz (by
    rw [v_slice (f := eVar 46) P.h46 rfl rfl rfl (c := pSome (eC (.int 2))) (stp := some 2) rfl (by decide) lt]
    unfold twD eL
    rw [List.map_map, pickD_map, pickA_two, List.map_map, List.map_map]; rfl))
  generalize hrow : (ch.map fun x => enN (2 * x)) = row at e6 ⊢
  have lrow : row.length = 5 + d := by rw [← hrow, List.length_map, hl]
  have L6 : L8 c0 c1 c2 (5 + d) row (s5.set 39 (.d (.list (eL row)))) := ⟨get_ne P.h44 (by decide), get_ne m23 (by decide), get_same ..⟩
  generalize s5.set 39 (.d (.list (eL row))) = s6 at e6 L6
  have e7 : s_law7 s6 = some (.next, s6.set 50 (.d (.list (nI (ch.map (8 - ·)))))) := asgC (by
    refine v_comp (v_iLst (f := eVar 39) L6.h39 (by rw [eL_len]; lia)) ?_
    unfold eL
    rw [comp_map ent (fun p => .int p.1) row fun p _ => ⟨v_idx (f := eVar 13) (i := 0) mkC_x rfl rfl rfl (by decide), rfl⟩, ← hrow, List.map_map]
    unfold nI
    rw [List.map_map]
    refine congrArg some (List.map_congr_left fun x hx => ?_)
    show PyData.int (((8 - 2 * x / 2 + 9 * (2 * x % 2) : Nat)) : Int) = .int ((8 - x : Nat) : Int)
    rw [show 2 * x / 2 = x by lia, show 2 * x % 2 = 0 by lia, Nat.mul_zero, Nat.add_zero])
  have L7 := L6.set (i := 50) (v := .d (.list (nI (ch.map (8 - ·))))) (by decide) (by decide) (by decide)
  have n50 := get_same s6 50 (.d (.list (nI (ch.map (8 - ·)))))
  generalize s6.set 50 (.d (.list (nI (ch.map (8 - ·))))) = s7 at e7 L7 n50
  have t1 : tOf truth (e2 oNe (eN oLen (lCons (eVar 39) lNil)) (eVar 23)) s7 = some false := by
    rw [v_neN (x := 5 + d) (y := 5 + d) (by rw [v_len (f := eVar 39) L7.h39 rfl (by rw [eL_len]; lia), eL_len, lrow]) (g := eVar 23) L7.h23, beq_self_eq_true]; rfl
  have t2 : tOf truth (e2 oNe (eVar 50) (fzF (eSlice (fzF (eSorted (eVar 50))) pNone pNone (pSome (e1 oNeg (eC (.int 1))))))) s7 = some false := by
    have hso : fzF (eSorted (eVar 50)) s7 = some (.d (.list (nI (ch.map (8 - ·)).reverse))) := fz (by
      refine Option.bind_eq_some_iff.mpr ⟨_, v_lst (f := eVar 50) n50 rfl, Option.bind_eq_some_iff.mpr ⟨_, zs_nI _, ?_⟩⟩
      rw [b_t (show (zI (ch.map (8 - ·))).length < 64 by unfold zI; simp; lia), numbers_sorted hs h9, nI_zI]; rfl)
    refine v_neD (f := eVar 50) n50 (fz ?_) (ne_nI _)
    rw [v_slice (lv := .d (.list (nI (ch.map (8 - ·)).reverse))) hso rfl rfl rfl (c := pSome (e1 oNeg (eC (.int 1)))) (stp := some (-1)) rfl (by decide) (by rw [nI_len]; simp; lia), nI_pick, pickA_rev, List.reverse_reverse]
  have e8 : s_law8 s7 = some (.next, s7) := ifF (by
    unfold tOr
    rw [t1, t2]; rfl) rfl
  exact ⟨c0, c1, c2, d, ch, s7, hd, hs, h9, hl, by rw [hrow]; exact L7, fun K r h => seqN e0 (seqN e1' (seqN e2' (seqN e3 (seqN e4 (seqN e5' (seqN e6 (seqN e7 (seqN e8 h))))))))⟩
end Mine
end

section
open PySem PySem.W PyProof.Rows PySem.Calls
namespace Mine
noncomputable def lb0 : St → Option (Fl × St) := (sAssign 35 (eCall (f_ranks) (lCons (eVar 11) (lCons (eVar 30) (lCons (eVar 31) lNil)))))
noncomputable def lb1 : St → Option (Fl × St) := (sIf (tNot (tOf truth (eVar 35))) (sSeq (sRetV (eC (.bool false))) sNil) sNil)
noncomputable def lb2 : St → Option (Fl × St) := (sAssign 41 (eCall (f_order) (lCons (eVar 35) (lCons (eVar 39) lNil))))
noncomputable def lb3 : St → Option (Fl × St) := (sAssignC 56 (eComp 25 [41] (iRange (lCons (eC (.int 1)) (lCons (eVar 23) lNil))) tTrue (eCall (f_coll) (lCons (eIdx (eIdx (eVar 41) (e2 oSub (eVar 25) (eC (.int 1)))) (eC (.int 1))) (lCons (eIdx (eIdx (eVar 41) (eVar 25)) (eC (.int 1))) lNil)))))
noncomputable def lb4 : St → Option (Fl × St) := (sIf (tOf truth (e2 oNe (fzF (eComp 60 [] (iLst (eVar 56)) (tOf truth (eIsB (eVar 60))) (eVar 60))) (fzF (eList lNil)))) (sSeq (sRetV (eC (.bool false))) sNil) sNil)
noncomputable def lb5 : St → Option (Fl × St) := (sIf (tOf truth (e2 oNe (eVar 56) (fzF (eComp 59 [55] (iStr (eVar 16)) tTrue (eIf (tOf truth (e2 oEq (eVar 59) (eIdxS (eVar 55) (eC (.int 1))))) (eC (.int 1)) (e1 oNeg (eC (.int 1)))))))) (sSeq (sRetV (eC (.bool false))) sNil) sNil)
noncomputable def lb6 : St → Option (Fl × St) := (sIf (tOf truth (e2 oNe (eCall (f_back) (lCons (eVar 41) (lCons (eVar 30) (lCons (eVar 31) lNil)))) (eVar 11))) (sSeq (sRetV (eC (.bool false))) sNil) sNil)
noncomputable def lawBody : St → Option (Fl × St) := (sSeq lb0 (sSeq lb1 (sSeq lb2 (sSeq lb3 (sSeq lb4 (sSeq lb5 (sSeq lb6 sNil)))))))
theorem s_law22_eq : s_law22 = sFor 11 (iTup (eTuple (lCons (e2 oMod (eIdx (eVar 44) (eC (.int 2))) (eVar 26)) (lCons (e2 oMod (e2 oSub (e1 oNeg (eC (.int 1))) (eIdx (eVar 44) (eC (.int 2)))) (eVar 26)) lNil)))) lawBody := rfl
noncomputable def RM : Nat → List (List Nat)
  | 0 => [[1], [1, 2], [1, 2, 3], [1, 2, 3, 4], [1, 2, 4], [1, 3], [1, 3, 4], [1, 4], [2], [2, 3], [2, 3, 4], [2, 4], [3], [3, 4]]
  | 1 => [[1], [1, 2], [1, 2, 3], [1, 2, 3, 4, 5], [1, 2, 4], [1, 2, 5], [1, 3], [1, 3, 4], [1, 3, 4, 5], [1, 3, 5], [1, 4], [1, 4, 5], [2], [2, 3], [2, 3, 4], [2, 3, 4, 5], [2, 3, 5], [2, 4], [2, 4, 5], [2, 5], [3], [3, 4], [3, 4, 5], [3, 5]]
  | _ => [[1], [1, 2], [1, 2, 3], [1, 2, 3, 4, 5, 6], [1, 2, 4], [1, 2, 4, 6], [1, 2, 5], [1, 3], [1, 3, 4], [1, 3, 4, 5, 6], [1, 3, 5], [1, 3, 6], [1, 4], [1, 4, 5], [1, 4, 5, 6], [1, 4, 6], [2], [2, 3], [2, 3, 4], [2, 3, 4, 5, 6], [2, 3, 5], [2, 3, 6], [2, 4], [2, 4, 5], [2, 4, 5, 6], [2, 4, 6], [2, 5], [2, 5, 6], [3], [3, 4], [3, 4, 5], [3, 4, 5, 6], [3, 4, 6], [3, 5], [3, 5, 6], [3, 6]]
noncomputable def pS : Nat → Str
  | 0 => "<>"
  | 1 => "*/"
  | 2 => "/<"
  | _ => ">*"
noncomputable def pa : Nat → Nat
  | 0 => 60
  | 1 => 42
  | 2 => 47
  | _ => 62
noncomputable def pb : Nat → Nat
  | 0 => 62
  | 1 => 47
  | 2 => 60
  | _ => 42
theorem pS_get : ∀ q < 4, (pS q).cps[0]? = some (pa q) ∧ (pS q).cps[1]? = some (pb q) := by decide +kernel
noncomputable def signsL (q : Nat) (marks : List Nat) (count : Nat) : List Nat := (List.range (count - 1)).map fun i => cond (marks.contains (1 + i)) (pb q) (pa q)
noncomputable def txtJ (q : Nat) (marks : List Nat) (count : Nat) : Str := Txt.join ("" : Str) ((signsL q marks count).map fun c => (⟨#[c]⟩ : Str))
noncomputable def fallJ (q : Nat) (marks : List Nat) (count : Nat) : Bool := isL8 (f_fallsP lk8 [.d (.str (txtJ q marks count)), .d (.str ⟨#[pb q]⟩)]) marks && decide ((txtJ q marks count).cps.toList = signsL q marks count)
noncomputable def finChk (d : Nat) (m : List Nat) : Bool := (match chN m (5 + d) with | some t => decide (t = ((gN (wN (waysN m (5 + d)) 0) 0 : Nat) : Int)) | none => false) && Nat.ble m.length 6 && (fallJ 0 m (5 + d) && fallJ 1 m (5 + d) && fallJ 2 m (5 + d) && fallJ 3 m (5 + d))
section
variable {st : St} {f g a b : St → Option LV}
theorem v_idx0 {x : Str} {c : Nat} (h : f st = some (.d (.str x))) (hj : x.cps[0]? = some c) : eIdxS f (eC (.int 0)) st = some (.d (.str ⟨#[c]⟩)) :=
  Option.bind_eq_some_iff.mpr ⟨_, v_dat h, Option.bind_eq_some_iff.mpr ⟨0, rfl, by
    show (if (0 : Int) ≤ 0 ∧ (0 : Int) < 1000000000 then (x.cps[(0 : Int).toNat]?).map (fun c => LV.d (.str ⟨#[c]⟩)) else none) = _
    rw [if_pos ⟨by decide, by decide⟩]
    show (x.cps[0]?).map _ = _
    rw [hj]; rfl⟩⟩
theorem v_idx1 {x : Str} {c : Nat} (h : f st = some (.d (.str x))) (hj : x.cps[1]? = some c) : eIdxS f (eC (.int 1)) st = some (.d (.str ⟨#[c]⟩)) :=
  Option.bind_eq_some_iff.mpr ⟨_, v_dat h, Option.bind_eq_some_iff.mpr ⟨1, rfl, by
    show (if (0 : Int) ≤ 1 ∧ (1 : Int) < 1000000000 then (x.cps[(1 : Int).toNat]?).map (fun c => LV.d (.str ⟨#[c]⟩)) else none) = _
    rw [if_pos ⟨by decide, by decide⟩]
    show (x.cps[1]?).map _ = _
    rw [hj]; rfl⟩⟩
theorem pair_ok : ∀ q < 4, g st = some (.d (.int ((q : Nat) : Int))) → eIdxT (eTuple (lCons (eC (.str ("<>" : Str))) (lCons (eC (.str ("*/" : Str))) (lCons (eC (.str ("/<" : Str))) (lCons (eC (.str (">*" : Str))) lNil))))) g st = some (.d (.str (pS q))) := by
  intro q hq h
  rcases (show q = 0 ∨ q = 1 ∨ q = 2 ∨ q = 3 by lia) with rfl | rfl | rfl | rfl <;>
    exact Option.bind_eq_some_iff.mpr ⟨_, rfl, Option.bind_eq_some_iff.mpr ⟨_, v_int h, rfl⟩⟩
theorem strs_of : ∀ l : List Nat, strsOf (l.map fun c => PyData.str ⟨#[c]⟩) = some (l.map fun c => (⟨#[c]⟩ : Str)) ∧ ((l.map fun c => (⟨#[c]⟩ : Str)).map (·.length)).sum = l.length
  | [] => ⟨rfl, rfl⟩
  | c :: l => by
    obtain ⟨h1, h2⟩ := strs_of l
    refine ⟨by show (strsOf (l.map fun c => PyData.str ⟨#[c]⟩)).map ((⟨#[c]⟩ : Str) :: ·) = _; rw [h1]; rfl, ?_⟩
    simp only [List.map_cons, List.sum_cons, h2, List.length_cons]
    show 1 + l.length = l.length + 1
    lia
theorem v_join {l : List Nat} (h : f st = some (.d (.list (l.map fun c => .str ⟨#[c]⟩)))) (hn : l.length ≤ 500) : eJoin ("" : Str) f st = some (.d (.str (Txt.join ("" : Str) (l.map fun c => (⟨#[c]⟩ : Str))))) :=
  Option.bind_eq_some_iff.mpr ⟨_, v_lst h rfl, Option.bind_eq_some_iff.mpr ⟨_, (strs_of l).1, by
    rw [(strs_of l).2, ble_mil (by rw [show Str.length ("" : Str) = 0 from rfl]; lia)]; rfl⟩⟩
theorem v_truthL {p : PyData} {xs : List PyData} (h : f st = some (.d (.list (p :: xs)))) (hn : (p :: xs).length ≤ 1000) : tOf truth f st = some true := by
  unfold tOf
  rw [h]
  show (cond (Nat.ble (p :: xs).length 1000000) (some (!(p :: xs).isEmpty)) none) = _
  rw [ble_mil hn]; rfl
theorem v_isB {i : Int} (h : f st = some (.d (.int i))) : eIsB f st = some (.d (.bool false)) := Option.bind_eq_some_iff.mpr ⟨_, v_dat h, rfl⟩
theorem v_iStr {x : Str} (h : f st = some (.d (.str x))) (hn : x.cps.toList.length ≤ 1000) : iStr f st = some (x.cps.toList.map fun c => .str ⟨#[c]⟩) := Option.bind_eq_some_iff.mpr ⟨_, v_dat h, by
  show cond (Nat.ble x.cps.size 1000000) (some (signsOf x)) none = _
  rw [ble_mil (by simpa using hn)]; rfl⟩
noncomputable def modN (a : Int) (t : Nat) : Nat := (a.fmod t).toNat
theorem modN_lt {a : Int} {t : Nat} (h : 0 < t) : modN a t < t := by
  unfold modN
  have h1 := Int.fmod_nonneg_of_pos a (show (0 : Int) < t by lia)
  have h2 := Int.fmod_lt_of_pos a (show (0 : Int) < t by lia)
  lia
theorem v_modI {x : Int} {t : Nat} (hf : f st = some (.d (.int x))) (hg : g st = some (.d (.int (t : Int)))) (h : 0 < t) : e2 oMod f g st = some (.d (.int ((modN x t : Nat) : Int))) := v_e2 hf hg (by
  unfold oMod retI
  dsimp only
  rw [if_neg (by lia)]
  have h1 := Int.fmod_nonneg_of_pos x (show (0 : Int) < t by lia)
  congr 3
  unfold modN
  lia)
theorem v_iTup2 {p q : PyData} (ha : a st = some (.d p)) (hb : b st = some (.d q)) : iTup (eTuple (lCons a (lCons b lNil))) st = some [p, q] := by
  have h : eTuple (lCons a (lCons b lNil)) st = some (.d (.tuple [p, q])) := by unfold eTuple; rw [v_l2 ha hb]; rfl
  unfold iTup
  rw [h]; rfl
theorem f_coll_ok (x y : Str) : f_coll [.d (.str x), .d (.str y)] = some (.int (b2i (strLt y x) - b2i (strLt x y))) := rfl
end
theorem ints_okAll : ∀ l : List Int, PyData.canLayAll0 (l.map .int) = true ∧ PyData.depthAll (l.map .int) = 0 ∧ PyData.eqvAll (l.map .int) (l.map .int) = true
  | [] => ⟨rfl, rfl, rfl⟩
  | k :: l => by
    obtain ⟨a, b, c⟩ := ints_okAll l
    simp only [List.map_cons, PyData.canLayAll0, PyData.canLay0, PyData.depthAll, PyData.depth, a, b]
    refine ⟨rfl, rfl, ?_⟩
    show ((k == k) && PyData.eqvAll _ _) = true
    rw [c, beq_self_eq_true]; rfl
theorem ne_ints (l : List Int) : oNe (.list (l.map .int)) (.list (l.map .int)) = some (.d (.bool false)) := ne_same (by
  obtain ⟨h1, h2, _⟩ := ints_okAll l
  have e : PyData.canLay0 (.list (l.map .int)) = true := h1
  have d : PyData.depth (.list (l.map .int)) = 1 := by show PyData.depthAll (l.map .int) + 1 = 1; rw [h2]
  unfold eqOk
  rw [e, d]; rfl) (ints_okAll l).2.2
theorem chain_get {falls : List Nat} {rs : List Nat} : ∀ {p last : Nat}, Chain falls p last rs → ∀ (k r' r : Nat), (last :: rs)[k]? = some r' → (last :: rs)[k + 1]? = some r → r ≤ p + k ∧ (falls.contains (p + k) = true → r ≤ r') ∧ (falls.contains (p + k) = false → r' < r) := by
  induction rs with
  | nil => intro p last _ k r' r h1 h2; cases h2
  | cons x rs ih =>
    intro p last C k r' r h1 h2
    cases k with
    | zero => cases h1; cases h2; exact ⟨C.1, C.2.1, C.2.2.1⟩
    | succ k =>
      have := ih C.2.2.2 k r' r h1 h2
      rw [show p + 1 + k = p + (k + 1) by lia] at this
      exact this
theorem row_sorted {ch : List Nat} (hs : ch.Pairwise (· < ·)) (h9 : ∀ x ∈ ch, x < 9) : SL ltE (ch.map fun x => enN (2 * x)) := by
  refine List.pairwise_map.mpr (hs.imp_of_mem fun {a b} ha hb hab => ?_)
  have ha := h9 a ha
  have hb := h9 b hb
  rw [enN_lt _ (by lia) _ (by lia), enN_lt _ (by lia) _ (by lia)]
  exact ⟨lt2_t (by lia), lt2_f (by lia)⟩
theorem upd_zero (falls : List Nat) (ways : List (List Nat)) : upd falls ways 0 0 0 0 = 0 := by
  unfold upd
  cases falls.contains 0 <;> rfl
noncomputable def sgnI (marks : List Nat) (i : Nat) : Int := cond (marks.contains (1 + i)) 1 (-1)
structure LB (count : Nat) (marks : List Nat) (q : Nat) (row : List Ent) (st : St) : Prop where
  h23 : st.get 23 = some (.d (.int (count : Int)))
  h39 : st.get 39 = some (.d (.list (eL row)))
  h30 : st.get 30 = some (.d (.list (nI marks)))
  h31 : st.get 31 = some (.d (wD (waysN marks count)))
  h55 : st.get 55 = some (.d (.str (pS q)))
  h16 : st.get 16 = some (.d (.str (txtJ q marks count)))
theorem LB.set {count : Nat} {marks : List Nat} {q : Nat} {row : List Ent} {st : St} (H : LB count marks q row st) {i : Nat} {v : LV} (h1 : i ≠ 23) (h2 : i ≠ 39) (h3 : i ≠ 30) (h4 : i ≠ 31) (h5 : i ≠ 55) (h6 : i ≠ 16) : LB count marks q row (st.set i v) :=
  ⟨get_ne H.h23 (Ne.symm h1), get_ne H.h39 (Ne.symm h2), get_ne H.h30 (Ne.symm h3), get_ne H.h31 (Ne.symm h4), get_ne H.h55 (Ne.symm h5), get_ne H.h16 (Ne.symm h6)⟩
theorem sgn_ok {st : St} {f : St → Option LV} {q : Nat} {bb : Bool} (hq : q < 4) (hf : f st = some (.d (.str ⟨#[cond bb (pb q) (pa q)]⟩))) {g : St → Option LV} (hg : g st = some (.d (.str ⟨#[pb q]⟩))) : tOf truth (e2 oEq f g) st = some bb := by
  rcases (show q = 0 ∨ q = 1 ∨ q = 2 ∨ q = 3 by lia) with rfl | rfl | rfl | rfl <;> cases bb <;> exact v_tOf (v_e2 hf hg (by kernel_rfl))
theorem ways_rows {marks : List Nat} {count : Nat} (hc : 1 ≤ count) (h : count ≤ 40) : ∀ p, (wN (waysN marks count) p).length ≤ 50 := fun p => by
  by_cases hp : p < count
  · rw [(ways_row (falls := marks) hc (count - 1 - p) p (by lia)).1]; lia
  · have : wN (waysN marks count) p = [] := by
      unfold wN
      rw [List.getElem?_eq_none (by rw [ways_len hc]; lia)]; rfl
    rw [this]; simp
theorem law_body {count n q : Nat} {marks ch : List Nat} {st : St} (hc : 2 ≤ count) (h9c : count ≤ 9) (hq : q < 4) (hpat : (txtJ q marks count).cps.toList = signsL q marks count) (hs : ch.Pairwise (· < ·)) (h9 : ∀ x ∈ ch, x < 9) (hl : ch.length = count)
    (B : LB count marks q (ch.map fun x => enN (2 * x)) st) (hn : n < gN (wN (waysN marks count) 0) 0) : ∃ st', lawBody (st.set 11 (.d (.int (n : Int)))) = some (.next, st') ∧ LB count marks q (ch.map fun x => enN (2 * x)) st' := by
  have hrowS := row_sorted hs h9
  generalize hrow : (ch.map fun x => enN (2 * x)) = row at B hrowS ⊢
  have lrow : row.length = count := by rw [← hrow, List.length_map, hl]
  refine byC fun CC hCC => ?_
  obtain ⟨rs, r1, r2, r3, r4⟩ := ranks_ok (falls := marks) (count := count) (by lia) (by lia) hn
  rw [upd_zero, Nat.add_zero] at r4
  have hrk : ∀ (p r : Nat), (0 :: rs)[p]? = some r → r ≤ p := fun p r h => by
    cases p with
    | zero => simp at h; lia
    | succ p =>
      have hp : p < (0 :: rs).length := by have := (List.getElem?_eq_some_iff.mp h).1; lia
      have := (chain_get r3 p _ r (List.getElem?_eq_getElem hp) h).1
      lia
  obtain ⟨order, o1, o2, o3, _, _, o6⟩ := lehmer (lt := ltE) (falls := marks) (ways := waysN marks count) count (0 :: rs) row (by simp; lia) lrow (by lia) hrowS hrk
  refine hCC ?_
  clear hCC
  have hgo : bGo ltE marks (waysN marks count) order 0 [] 0 0 = n := by rw [bGo_fold, o3]; exact r4
  have B0 := B.set (i := 11) (v := .d (.int (n : Int))) (by decide) (by decide) (by decide) (by decide) (by decide) (by decide)
  have g11 := get_same st 11 (.d (.int (n : Int)))
  generalize st.set 11 (.d (.int (n : Int))) = s0 at B0 g11
  have wr := ways_rows (marks := marks) (count := count) (by lia) (by lia)
  have wl := ways_len (falls := marks) (count := count) (by lia)
  have e0 : lb0 s0 = some (.next, s0.set 35 (.d (.list (nI (0 :: rs))))) := asg (v_callD (v_lc (f := eVar 11) g11 (v_l2 (f := eVar 30) (g := eVar 31) B0.h30 B0.h31)) rfl ((f_ranks_ok (by lia) (by lia) wr).2 _ r1))
  have B1 := B0.set (i := 35) (v := .d (.list (nI (0 :: rs)))) (by decide) (by decide) (by decide) (by decide) (by decide) (by decide)
  have k35 := get_same s0 35 (.d (.list (nI (0 :: rs))))
  have k11 := get_ne (i := 35) (v := .d (.list (nI (0 :: rs)))) g11 (by decide)
  generalize s0.set 35 (.d (.list (nI (0 :: rs)))) = s1 at e0 B1 k35 k11
  have e1' : lb1 s1 = some (.next, s1) := ifF (by
    unfold tNot
    rw [v_truthL (f := eVar 35) (p := .int 0) (xs := nI rs) k35 (by rw [List.length_cons, nI_len]; lia)]; rfl) rfl
  have e2' : lb2 s1 = some (.next, s1.set 41 (.d (.list (eL order)))) := asg (v_callD (v_l2 (f := eVar 35) (g := eVar 39) k35 B1.h39) rfl (f_order_ok (by simp; lia) (by rw [eL_len]; lia) (by
    unfold eL
    rw [order_map, o1]; rfl)))
  have B2 := B1.set (i := 41) (v := .d (.list (eL order))) (by decide) (by decide) (by decide) (by decide) (by decide) (by decide)
  have m41 := get_same s1 41 (.d (.list (eL order)))
  have m11 := get_ne (i := 41) (v := .d (.list (eL order))) k11 (by decide)
  generalize s1.set 41 (.d (.list (eL order))) = s2 at e2' B2 m41 m11
  have lor : (eL order).length = count := by rw [eL_len, o2]
  have e3' : lb3 s2 = some (.next, s2.set 56 (.d (.list (((List.range (count - 1)).map (sgnI marks)).map .int)))) := asgC (by
    refine v_comp (v_range2 (a := 1) (b := count) (f := eC (.int 1)) (g := eVar 23) rfl B2.h23 (by decide) (by lia)) ?_
    rw [comp_map (fun (i : Nat) => PyData.int ((1 + i : Nat) : Int)) (fun i => .int (sgnI marks i)) (List.range (count - 1)) fun i hi => ⟨?_, rfl⟩]
    · rw [List.map_map]; rfl
    · have hi := List.mem_range.mp hi
      refine byC fun CC hCC => ?_
      obtain ⟨x, ha⟩ : ∃ x, order[i]? = some x := ⟨_, List.getElem?_eq_getElem (by lia)⟩
      obtain ⟨y, hb⟩ : ∃ y, order[i + 1]? = some y := ⟨_, List.getElem?_eq_getElem (by lia)⟩
      obtain ⟨u', hr'⟩ : ∃ u, (0 :: rs)[i]? = some u := ⟨_, List.getElem?_eq_getElem (by simp; lia)⟩
      obtain ⟨u, hr⟩ : ∃ u, (0 :: rs)[i + 1]? = some u := ⟨_, List.getElem?_eq_getElem (by simp; lia)⟩
      obtain ⟨_, c1, c2⟩ := chain_get r3 i _ _ hr' hr
      obtain ⟨s1', s2'⟩ := o6 i x y _ _ ha hb hr' hr
      refine hCC ?_
      clear hCC
      have hx : (eL order)[i]? = some (ent x) := by unfold eL; rw [List.getElem?_map, ha]; rfl
      have hy : (eL order)[1 + i]? = some (ent y) := by unfold eL; rw [Nat.add_comm, List.getElem?_map, hb]; rfl
      have mk : (mkC 25 [41] s2 (.int ((1 + i : Nat) : Int))).get 41 = some (.d (.list (eL order))) := mkC_get m41 (by decide) (by decide)
      have ea : eIdx (eIdx (eVar 41) (e2 oSub (eVar 25) (eC (.int 1)))) (eC (.int 1)) (mkC 25 [41] s2 (.int ((1 + i : Nat) : Int))) = some (.d (.str x.2)) := v_idx (i := 1) (v_idx (f := eVar 41) mk rfl (v_sub (f := eVar 25) (g := eC (.int 1)) (a := 1 + i) (b := 1) mkC_x rfl (by lia)) (by rw [Nat.add_sub_cancel_left]; exact hx) (by lia)) rfl rfl rfl (by decide)
      have eb : eIdx (eIdx (eVar 41) (eVar 25)) (eC (.int 1)) (mkC 25 [41] s2 (.int ((1 + i : Nat) : Int))) = some (.d (.str y.2)) := v_idx (i := 1) (v_idx (f := eVar 41) (g := eVar 25) mk rfl mkC_x hy (by lia)) rfl rfl rfl (by decide)
      have hv : (.int (b2i (strLt y.2 x.2) - b2i (strLt x.2 y.2)) : PyData) = .int (sgnI marks i) := by
        unfold sgnI
        cases w : marks.contains (1 + i) with
        | true =>
          obtain ⟨l1, l2⟩ := s1' (c1 w)
          rw [show strLt y.2 x.2 = true from l1, show strLt x.2 y.2 = false from l2]; rfl
        | false =>
          obtain ⟨l1, l2⟩ := s2' (c2 w)
          rw [show strLt x.2 y.2 = true from l1, show strLt y.2 x.2 = false from l2]; rfl
      rw [← hv]
      exact v_callD (v_l2 ea eb) rfl (f_coll_ok x.2 y.2))
  generalize hT : ((List.range (count - 1)).map (sgnI marks)).map PyData.int = T at e3'
  have lT : T.length = count - 1 := by rw [← hT]; simp
  have B3 := B2.set (i := 56) (v := .d (.list T)) (by decide) (by decide) (by decide) (by decide) (by decide) (by decide)
  have n56 := get_same s2 56 (.d (.list T))
  have n41 := get_ne (i := 56) (v := .d (.list T)) m41 (by decide)
  have n11 := get_ne (i := 56) (v := .d (.list T)) m11 (by decide)
  generalize s2.set 56 (.d (.list T)) = s3 at e3' B3 n56 n41 n11
  have e4' : lb4 s3 = some (.next, s3) := ifF (v_neD (v := .list []) (fz (by
    refine v_comp (v_iLst (f := eVar 56) n56 (by lia)) ?_
    rw [← hT, List.map_map]
    show compGo _ _ _ ((List.range (count - 1)).map fun i => PyData.int (sgnI marks i)) = _
    rw [comp_filter (fun i => PyData.int (sgnI marks i)) (fun i => .int (sgnI marks i)) (fun _ => false) (List.range (count - 1)) fun i _ => ⟨v_tOf (v_isB (f := eVar 60) mkC_x), fun h => (by cases h)⟩]
    simp)) rfl (ne_nI [])) rfl
  have e5' : lb5 s3 = some (.next, s3) := ifF (v_neD (f := eVar 56) n56 (fz (by
    have hsg : iStr (eVar 16) s3 = some ((List.range (count - 1)).map fun i => .str ⟨#[cond (marks.contains (1 + i)) (pb q) (pa q)]⟩) := by
      rw [v_iStr (f := eVar 16) B3.h16 (by rw [hpat]; unfold signsL; simp; lia), hpat]
      unfold signsL
      rw [List.map_map]; rfl
    refine v_comp hsg ?_
    rw [comp_map (fun i => PyData.str ⟨#[cond (marks.contains (1 + i)) (pb q) (pa q)]⟩) (fun i => .int (sgnI marks i)) (List.range (count - 1)) fun i _ => ⟨?_, rfl⟩]
    · rw [← hT, List.map_map]; rfl
    · refine v_ite (sgn_ok (f := eVar 59) (bb := marks.contains (1 + i)) hq mkC_x (v_idx1 (f := eVar 55) (mkC_get B3.h55 (by decide) (by decide)) (pS_get q hq).2)) ?_
      unfold sgnI
      cases marks.contains (1 + i) <;> rfl)) (by rw [← hT]; exact ne_ints _)) rfl
  have e6' : lb6 s3 = some (.next, s3) := ifF (by
    rw [v_neN (x := n) (y := n) (v_callD (v_lc (f := eVar 41) n41 (v_l2 (f := eVar 30) (g := eVar 31) B3.h30 B3.h31)) rfl (by rw [f_back_ok (by lia) wr (by lia), hgo])) (g := eVar 11) n11, beq_self_eq_true]; rfl) rfl
  exact ⟨s3, seqN e0 (seqN e1' (seqN e2' (seqN e3' (seqN e4' (seqN e5' (seqN e6' rfl)))))), B3⟩
end Mine
end

section
open PySem PySem.W PyProof.Rows PySem.Calls
namespace Mine
theorem law_finish {tab : List (Str × Int)} (Ht : ∀ s ∈ words, lkS tab s = lkS tab8 s) {c0 c1 c2 : Int} {d : Nat} {marks ch : List Nat} {st : St} (hd : d < 3) (hs : ch.Pairwise (· < ·)) (h9 : ∀ x ∈ ch, x < 9) (hl : ch.length = 5 + d)
    (H : L8 c0 c1 c2 (5 + d) (ch.map fun x => enN (2 * x)) st) (h22 : st.get 22 = some (.d (.list (nI marks)))) (hf : finChk d marks = true) :
    ∃ st', sSeq s_law16 (sSeq s_law17 (sSeq (s_law18T tab) (sSeq s_law19 (sSeq s_law20 (sSeq s_law21 (sSeq s_law22 (sSeq s_law23 sNil))))))) st = some (.ret (.bool true), st') := by
  unfold finChk at hf
  simp only [Bool.and_eq_true] at hf
  obtain ⟨⟨hch, hml⟩, hfl⟩ := hf
  have hml := Nat.le_of_ble_eq_true hml
  have hch : chN marks (5 + d) = some (((gN (wN (waysN marks (5 + d)) 0) 0 : Nat)) : Int) := by
    cases q : chN marks (5 + d) with
    | none => rw [q] at hch; cases hch
    | some t => rw [q] at hch; rw [of_decide_eq_true hch]
  generalize hcnt : 5 + d = count at *
  have hc2 : 2 ≤ count := by lia
  have hc9 : count ≤ 7 := by lia
  have hpos : 0 < gN (wN (waysN marks count) 0) 0 := by
    obtain ⟨wl, wp⟩ := ways_row (falls := marks) (by lia : 1 ≤ count) (count - 1) 0 (by lia)
    exact gN_pos wp (by lia)
  have hq : dN c0 6 % 4 < 4 := Nat.mod_lt _ (by decide)
  have e16 : s_law16 st = some (.next, st.set 55 (.d (.str (pS (dN c0 6 % 4))))) := asg (pair_ok _ hq (v_mod (b := 4) (v_fig (j := 0) (k := 6) (c := c0) (g := eC (.int 6)) H.h44 rfl (by decide) rfl (by decide)) rfl (by decide)))
  generalize dN c0 6 % 4 = q at hq e16
  have hfq : fallJ q marks count = true := by
    rcases (show q = 0 ∨ q = 1 ∨ q = 2 ∨ q = 3 by lia) with rfl | rfl | rfl | rfl
    · exact hfl.1.1.1
    · exact hfl.1.1.2
    · exact hfl.1.2
    · exact hfl.2
  unfold fallJ at hfq
  simp only [Bool.and_eq_true, decide_eq_true_eq] at hfq
  obtain ⟨hfa, hpat⟩ := hfq
  have H1 := H.set (i := 55) (v := .d (.str (pS q))) (by decide) (by decide) (by decide)
  have g55 := get_same st 55 (.d (.str (pS q)))
  have g22 := get_ne (i := 55) (v := .d (.str (pS q))) h22 (by decide)
  generalize st.set 55 (.d (.str (pS q))) = s1 at e16 H1 g55 g22
  have e17 : s_law17 s1 = some (.next, s1.set 16 (.d (.str (txtJ q marks count)))) := asg (v_join (l := signsL q marks count) (fz (by
    refine v_comp (v_range2 (a := 1) (b := count) (f := eC (.int 1)) (g := eVar 23) rfl H1.h23 (by decide) (by lia)) ?_
    rw [comp_map (fun (i : Nat) => PyData.int ((1 + i : Nat) : Int)) (fun i => .str ⟨#[cond (marks.contains (1 + i)) (pb q) (pa q)]⟩) (List.range (count - 1)) fun i hi => ⟨?_, rfl⟩]
    · unfold signsL
      rw [List.map_map]; rfl
    · refine v_ite (v_in (f := eVar 12) (g := eVar 22) mkC_x (mkC_get g22 (by decide) (by decide))) ?_
      cases marks.contains (1 + i)
      · exact v_idx0 (f := eVar 55) (mkC_get g55 (by decide) (by decide)) (pS_get q hq).1
      · exact v_idx1 (f := eVar 55) (mkC_get g55 (by decide) (by decide)) (pS_get q hq).2)) (by unfold signsL; simp; lia))
  have H2 := H1.set (i := 16) (v := .d (.str (txtJ q marks count))) (by decide) (by decide) (by decide)
  have k16 := get_same s1 16 (.d (.str (txtJ q marks count)))
  have k55 := get_ne (i := 16) (v := .d (.str (txtJ q marks count))) g55 (by decide)
  have k22 := get_ne (i := 16) (v := .d (.str (txtJ q marks count))) g22 (by decide)
  generalize s1.set 16 (.d (.str (txtJ q marks count))) = s2 at e17 H2 k16 k55 k22
  have e18 : s_law18T tab s2 = some (.next, s2.set 30 (.d (.list (nI marks)))) := asg (v_callD (v_l2 (f := eVar 16) k16 (v_idx1 (f := eVar 55) k55 (pS_get q hq).2)) rfl (falls_le (lk8_ok Ht) (isL8_eq hfa)))
  have H3 := H2.set (i := 30) (v := .d (.list (nI marks))) (by decide) (by decide) (by decide)
  have m30 := get_same s2 30 (.d (.list (nI marks)))
  have m16 := get_ne (i := 30) (v := .d (.list (nI marks))) k16 (by decide)
  have m55 := get_ne (i := 30) (v := .d (.list (nI marks))) k55 (by decide)
  have m22 := get_ne (i := 30) (v := .d (.list (nI marks))) k22 (by decide)
  generalize s2.set 30 (.d (.list (nI marks))) = s3 at e18 H3 m30 m16 m55 m22
  have e19 : s_law19 s3 = some (.next, s3.set 31 (.d (wD (waysN marks count)))) := asg (v_callD (v_l2 (f := eVar 30) (g := eVar 23) m30 H3.h23) rfl (f_ways_ok (by lia) (by lia)))
  have H4 := H3.set (i := 31) (v := .d (wD (waysN marks count))) (by decide) (by decide) (by decide)
  have n31 := get_same s3 31 (.d (wD (waysN marks count)))
  have n30 := get_ne (i := 31) (v := .d (wD (waysN marks count))) m30 (by decide)
  have n16 := get_ne (i := 31) (v := .d (wD (waysN marks count))) m16 (by decide)
  have n55 := get_ne (i := 31) (v := .d (wD (waysN marks count))) m55 (by decide)
  have n22 := get_ne (i := 31) (v := .d (wD (waysN marks count))) m22 (by decide)
  generalize s3.set 31 (.d (wD (waysN marks count))) = s4 at e19 H4 n31 n30 n16 n55 n22
  have wr := ways_rows (marks := marks) (count := count) (by lia) (by lia)
  have wl := ways_len (falls := marks) (count := count) (by lia)
  have htot := ranks_total (falls := marks) (count := count) hc2 (by lia)
  have hlt := fun (n : Nat) (h : n < gN (wN (waysN marks count) 0) 0) (s : St) (B : LB count marks q (ch.map fun x => enN (2 * x)) s) => law_body hc2 (by lia) hq hpat hs h9 hl B h
  generalize gN (wN (waysN marks count) 0) 0 = T at hch hpos htot hlt
  have e20 : s_law20 s4 = some (.next, s4.set 26 (.d (.int (T : Int)))) := asg (v_callD (v_l2 (f := eVar 22) (g := eVar 23) n22 H4.h23) rfl (f_choices_ok (by lia) (by lia) hch))
  have H5 := H4.set (i := 26) (v := .d (.int (T : Int))) (by decide) (by decide) (by decide)
  have o26 := get_same s4 26 (.d (.int (T : Int)))
  have o31 := get_ne (i := 26) (v := .d (.int (T : Int))) n31 (by decide)
  have o30 := get_ne (i := 26) (v := .d (.int (T : Int))) n30 (by decide)
  have o16 := get_ne (i := 26) (v := .d (.int (T : Int))) n16 (by decide)
  have o55 := get_ne (i := 26) (v := .d (.int (T : Int))) n55 (by decide)
  have o22 := get_ne (i := 26) (v := .d (.int (T : Int))) n22 (by decide)
  generalize s4.set 26 (.d (.int (T : Int))) = s5 at e20 H5 o26 o31 o30 o16 o55 o22
  have t1 : tOf truth (e2 oNe (eVar 30) (eVar 22)) s5 = some false := v_neD (f := eVar 30) (g := eVar 22) o30 o22 (ne_nI marks)
  have t2 : tOf truth (e2 oNe (eCall (f_ranks) (lCons (eVar 26) (lCons (eVar 30) (lCons (eVar 31) lNil)))) (fzF (eList lNil))) s5 = some false :=
    v_neD (v := .list []) (v_callD (v_lc (f := eVar 26) o26 (v_l2 (f := eVar 30) (g := eVar 31) o30 o31)) rfl ((f_ranks_ok (by lia) (by lia) wr).1 htot)) rfl (ne_nI [])
  have e21 : s_law21 s5 = some (.next, s5) := ifF (by
    unfold tOr
    rw [t1, t2]; rfl) rfl
  have hi : iTup (eTuple (lCons (e2 oMod (eIdx (eVar 44) (eC (.int 2))) (eVar 26)) (lCons (e2 oMod (e2 oSub (e1 oNeg (eC (.int 1))) (eIdx (eVar 44) (eC (.int 2)))) (eVar 26)) lNil))) s5 = some [.int ((modN c2 T : Nat) : Int), .int ((modN (-1 - c2) T : Nat) : Int)] := by
    have h2 : eIdx (eVar 44) (eC (.int 2)) s5 = some (.d (.int c2)) := v_idx (f := eVar 44) (i := 2) H5.h44 rfl rfl rfl (by decide)
    exact v_iTup2 (v_modI h2 (g := eVar 26) o26 hpos) (v_modI (x := -1 - c2) (v_e2 (a := .int (-1)) rfl h2 rfl) (g := eVar 26) o26 hpos)
  have B5 : LB count marks q (ch.map fun x => enN (2 * x)) s5 := ⟨H5.h23, H5.h39, o30, o31, o55, o16⟩
  refine byC fun CC hCC => ?_
  obtain ⟨s6, e6, B6⟩ := hlt (modN c2 T) (modN_lt hpos) s5 B5
  obtain ⟨s7, e7, B7⟩ := hlt (modN (-1 - c2) T) (modN_lt hpos) s6 B6
  refine hCC ?_
  clear hCC
  have e22 : s_law22 s5 = some (.next, s7) := by
    rw [s_law22_eq]
    unfold sFor
    rw [hi]
    show forGo 11 lawBody [_, _] s5 = _
    rw [forGo_c]
    rw [e6]
    show forGo 11 lawBody [_] s6 = _
    rw [forGo_c]
    rw [e7]; rfl
  exact ⟨s7, seqN e16 (seqN e17 (seqN e18 (seqN e19 (seqN e20 (seqN e21 (seqN e22 (seqR (retV rfl)))))))) ⟩
theorem marks_in0 : ∀ n1 < 3, ∀ x < 3, ∀ y < 3, ∀ z < 3, ∀ way < 5, (RM 0).contains (marksN (dueN (szN (n1 + 1) x y z) way) (5 + 0)) = true := by decide +kernel
theorem marks_in1 : ∀ n1 < 3, ∀ x < 3, ∀ y < 3, ∀ z < 3, ∀ way < 5, (RM 1).contains (marksN (dueN (szN (n1 + 1) x y z) way) (5 + 1)) = true := by decide +kernel
theorem marks_in2 : ∀ n1 < 3, ∀ x < 3, ∀ y < 3, ∀ z < 3, ∀ way < 5, (RM 2).contains (marksN (dueN (szN (n1 + 1) x y z) way) (5 + 2)) = true := by decide +kernel
theorem marks_in : ∀ d < 3, ∀ n1 < 3, ∀ x < 3, ∀ y < 3, ∀ z < 3, ∀ way < 5, marksN (dueN (szN (n1 + 1) x y z) way) (5 + d) ∈ RM d := by
  intro d hd n1 h1 x h2 y h3 z h4 way h5
  rcases (show d = 0 ∨ d = 1 ∨ d = 2 by lia) with rfl | rfl | rfl
  · exact List.contains_iff_mem.mp (marks_in0 n1 h1 x h2 y h3 z h4 way h5)
  · exact List.contains_iff_mem.mp (marks_in1 n1 h1 x h2 y h3 z h4 way h5)
  · exact List.contains_iff_mem.mp (marks_in2 n1 h1 x h2 y h3 z h4 way h5)
theorem fin0 : (RM 0).all (finChk 0) = true := by decide +kernel
theorem fin1 : (RM 1).all (finChk 1) = true := by decide +kernel
theorem fin2a : ((RM 2).take 9).all (finChk 2) = true := by decide +kernel
theorem fin2b : (((RM 2).drop 9).take 9).all (finChk 2) = true := by decide +kernel
theorem fin2c : (((RM 2).drop 18).take 9).all (finChk 2) = true := by decide +kernel
theorem fin2d : ((RM 2).drop 27).all (finChk 2) = true := by decide +kernel
theorem fin_all : ∀ d < 3, ∀ m ∈ RM d, finChk d m = true := by
  intro d hd m hm
  rcases (show d = 0 ∨ d = 1 ∨ d = 2 by lia) with rfl | rfl | rfl
  · exact List.all_eq_true.mp fin0 m hm
  · exact List.all_eq_true.mp fin1 m hm
  · have sp : RM 2 = (RM 2).take 9 ++ (((RM 2).drop 9).take 9 ++ (((RM 2).drop 18).take 9 ++ (RM 2).drop 27)) := rfl
    rw [sp] at hm
    rcases List.mem_append.mp hm with h | h
    · exact List.all_eq_true.mp fin2a m h
    · rcases List.mem_append.mp h with h | h
      · exact List.all_eq_true.mp fin2b m h
      · rcases List.mem_append.mp h with h | h
        · exact List.all_eq_true.mp fin2c m h
        · exact List.all_eq_true.mp fin2d m h
theorem plainT : Plain := fun G L xs hn Ht => by
  rw [g_law_eq]
  refine byC fun CC hCC => ?_
  obtain ⟨c0, c1, c2, d, ch, s8, hd, hs, h9, hl, H8, R8⟩ := law_start xs hn
  obtain ⟨n1, x, y, z, way, s15, b1, b2, b3, b4, b5, H15, h22, R15⟩ := law_mid H8
  obtain ⟨st', e⟩ := law_finish (tab := L.tab) Ht hd hs h9 hl H15 h22 (fin_all d hd _ (marks_in d hd n1 b1 x b2 y b3 z b4 way b5))
  refine hCC ?_
  clear hCC
  refine ⟨st', ?_⟩
  unfold g_lawT
  exact R8 _ _ (R15 _ _ e)
end Mine
end

namespace Mine
open PySem PySem.W PySem.W.X PySem.W.ZRun PyProof.Rows
set_option maxHeartbeats 8000000 in
noncomputable def head.tw12913799642070618334 : Program := by
  refine' (?f : ∀ x : Program, PySem.Challenge.pw_uc0017_01 = x → Program) _ (by
    have ts : Str.ofString "" = ⟨⟨[]⟩⟩ ∧ Str.ofString " " = ⟨⟨[32]⟩⟩ ∧ Str.ofString "!" = ⟨⟨[33]⟩⟩ ∧ Str.ofString "!=" = ⟨⟨[33, 61]⟩⟩ ∧ Str.ofString "%" = ⟨⟨[37]⟩⟩ ∧ Str.ofString "%=" = ⟨⟨[37, 61]⟩⟩ ∧ Str.ofString "&" = ⟨⟨[38]⟩⟩ ∧ Str.ofString "&=" = ⟨⟨[38, 61]⟩⟩ ∧ Str.ofString "(" = ⟨⟨[40]⟩⟩ ∧ Str.ofString ")" = ⟨⟨[41]⟩⟩ ∧ Str.ofString "*" = ⟨⟨[42]⟩⟩ ∧ Str.ofString "**" = ⟨⟨[42, 42]⟩⟩ ∧ Str.ofString "**=" = ⟨⟨[42, 42, 61]⟩⟩ ∧ Str.ofString "*/" = ⟨⟨[42, 47]⟩⟩ ∧ Str.ofString "*=" = ⟨⟨[42, 61]⟩⟩ ∧ Str.ofString "+" = ⟨⟨[43]⟩⟩ ∧ Str.ofString "+=" = ⟨⟨[43, 61]⟩⟩ ∧ Str.ofString "," = ⟨⟨[44]⟩⟩ ∧ Str.ofString "-" = ⟨⟨[45]⟩⟩ ∧ Str.ofString "-=" = ⟨⟨[45, 61]⟩⟩ ∧ Str.ofString "->" = ⟨⟨[45, 62]⟩⟩ ∧ Str.ofString "." = ⟨⟨[46]⟩⟩ ∧ Str.ofString "..." = ⟨⟨[46, 46, 46]⟩⟩ ∧ Str.ofString ".0" = ⟨⟨[46, 48]⟩⟩ ∧ Str.ofString "/" = ⟨⟨[47]⟩⟩ ∧ Str.ofString "//" = ⟨⟨[47, 47]⟩⟩ ∧ Str.ofString "//=" = ⟨⟨[47, 47, 61]⟩⟩ ∧ Str.ofString "/<" = ⟨⟨[47, 60]⟩⟩ ∧ Str.ofString "/=" = ⟨⟨[47, 61]⟩⟩ ∧ Str.ofString "/claim/cut.py" = ⟨⟨[47, 99, 108, 97, 105, 109, 47, 99, 117, 116, 46, 112, 121]⟩⟩ ∧ Str.ofString ":" = ⟨⟨[58]⟩⟩ ∧ Str.ofString ":=" = ⟨⟨[58, 61]⟩⟩ ∧ Str.ofString ";" = ⟨⟨[59]⟩⟩ ∧ Str.ofString "<" = ⟨⟨[60]⟩⟩ ∧ Str.ofString "<<" = ⟨⟨[60, 60]⟩⟩ ∧ Str.ofString "<<=" = ⟨⟨[60, 60, 61]⟩⟩ ∧ Str.ofString "<=" = ⟨⟨[60, 61]⟩⟩ ∧ Str.ofString "<>" = ⟨⟨[60, 62]⟩⟩ ∧ Str.ofString "=" = ⟨⟨[61]⟩⟩ ∧ Str.ofString "==" = ⟨⟨[61, 61]⟩⟩ ∧ Str.ofString ">" = ⟨⟨[62]⟩⟩ ∧ Str.ofString ">*" = ⟨⟨[62, 42]⟩⟩ ∧ Str.ofString ">=" = ⟨⟨[62, 61]⟩⟩ ∧ Str.ofString ">>" = ⟨⟨[62, 62]⟩⟩ ∧ Str.ofString ">>=" = ⟨⟨[62, 62, 61]⟩⟩ ∧ Str.ofString "@" = ⟨⟨[64]⟩⟩ ∧ Str.ofString "@=" = ⟨⟨[64, 61]⟩⟩ ∧ Str.ofString "A" = ⟨⟨[65]⟩⟩ ∧ Str.ofString "AMPER" = ⟨⟨[65, 77, 80, 69, 82]⟩⟩ ∧ Str.ofString "AMPEREQUAL" = ⟨⟨[65, 77, 80, 69, 82, 69, 81, 85, 65, 76]⟩⟩ ∧ Str.ofString "AT" = ⟨⟨[65, 84]⟩⟩ ∧ Str.ofString "ATEQUAL" = ⟨⟨[65, 84, 69, 81, 85, 65, 76]⟩⟩ ∧ Str.ofString "Aa" = ⟨⟨[65, 97]⟩⟩ ∧ Str.ofString "B" = ⟨⟨[66]⟩⟩ ∧ Str.ofString "CHAR_MAX" = ⟨⟨[67, 72, 65, 82, 95, 77, 65, 88]⟩⟩ ∧ Str.ofString "CIRCUMFLEX" = ⟨⟨[67, 73, 82, 67, 85, 77, 70, 76, 69, 88]⟩⟩ ∧ Str.ofString "CIRCUMFLEXEQUAL" = ⟨⟨[67, 73, 82, 67, 85, 77, 70, 76, 69, 88, 69, 81, 85, 65, 76]⟩⟩ ∧ Str.ofString "COLON" = ⟨⟨[67, 79, 76, 79, 78]⟩⟩ ∧ Str.ofString "COLONEQUAL" = ⟨⟨[67, 79, 76, 79, 78, 69, 81, 85, 65, 76]⟩⟩ ∧ Str.ofString "COMMA" = ⟨⟨[67, 79, 77, 77, 65]⟩⟩ ∧ Str.ofString "DOT" = ⟨⟨[68, 79, 84]⟩⟩ ∧ Str.ofString "DOUBLESLASH" = ⟨⟨[68, 79, 85, 66, 76, 69, 83, 76, 65, 83, 72]⟩⟩ ∧ Str.ofString "DOUBLESLASHEQUAL" = ⟨⟨[68, 79, 85, 66, 76, 69, 83, 76, 65, 83, 72, 69, 81, 85, 65, 76]⟩⟩ ∧ Str.ofString "DOUBLESTAR" = ⟨⟨[68, 79, 85, 66, 76, 69, 83, 84, 65, 82]⟩⟩ ∧ Str.ofString "DOUBLESTAREQUAL" = ⟨⟨[68, 79, 85, 66, 76, 69, 83, 84, 65, 82, 69, 81, 85, 65, 76]⟩⟩ ∧ Str.ofString "ELLIPSIS" = ⟨⟨[69, 76, 76, 73, 80, 83, 73, 83]⟩⟩ ∧ Str.ofString "EQEQUAL" = ⟨⟨[69, 81, 69, 81, 85, 65, 76]⟩⟩ ∧ Str.ofString "EQUAL" = ⟨⟨[69, 81, 85, 65, 76]⟩⟩ ∧ Str.ofString "EXACT_TOKEN_TYPES" = ⟨⟨[69, 88, 65, 67, 84, 95, 84, 79, 75, 69, 78, 95, 84, 89, 80, 69, 83]⟩⟩ ∧ Str.ofString "EXCLAMATION" = ⟨⟨[69, 88, 67, 76, 65, 77, 65, 84, 73, 79, 78]⟩⟩ ∧ Str.ofString "GREATER" = ⟨⟨[71, 82, 69, 65, 84, 69, 82]⟩⟩ ∧ Str.ofString "GREATEREQUAL" = ⟨⟨[71, 82, 69, 65, 84, 69, 82, 69, 81, 85, 65, 76]⟩⟩ ∧ Str.ofString "LBRACE" = ⟨⟨[76, 66, 82, 65, 67, 69]⟩⟩ ∧ Str.ofString "LEFTSHIFT" = ⟨⟨[76, 69, 70, 84, 83, 72, 73, 70, 84]⟩⟩ ∧ Str.ofString "LEFTSHIFTEQUAL" = ⟨⟨[76, 69, 70, 84, 83, 72, 73, 70, 84, 69, 81, 85, 65, 76]⟩⟩ ∧ Str.ofString "LESS" = ⟨⟨[76, 69, 83, 83]⟩⟩ ∧ Str.ofString "LESSEQUAL" = ⟨⟨[76, 69, 83, 83, 69, 81, 85, 65, 76]⟩⟩ ∧ Str.ofString "LPAR" = ⟨⟨[76, 80, 65, 82]⟩⟩ ∧ Str.ofString "LSQB" = ⟨⟨[76, 83, 81, 66]⟩⟩ ∧ Str.ofString "MINEQUAL" = ⟨⟨[77, 73, 78, 69, 81, 85, 65, 76]⟩⟩ ∧ Str.ofString "MINUS" = ⟨⟨[77, 73, 78, 85, 83]⟩⟩ ∧ Str.ofString "NOTEQUAL" = ⟨⟨[78, 79, 84, 69, 81, 85, 65, 76]⟩⟩ ∧ Str.ofString "PERCENT" = ⟨⟨[80, 69, 82, 67, 69, 78, 84]⟩⟩ ∧ Str.ofString "PERCENTEQUAL" = ⟨⟨[80, 69, 82, 67, 69, 78, 84, 69, 81, 85, 65, 76]⟩⟩ ∧ Str.ofString "PLUS" = ⟨⟨[80, 76, 85, 83]⟩⟩ ∧ Str.ofString "PLUSEQUAL" = ⟨⟨[80, 76, 85, 83, 69, 81, 85, 65, 76]⟩⟩ ∧ Str.ofString "RARROW" = ⟨⟨[82, 65, 82, 82, 79, 87]⟩⟩ ∧ Str.ofString "RBRACE" = ⟨⟨[82, 66, 82, 65, 67, 69]⟩⟩ ∧ Str.ofString "RIGHTSHIFT" = ⟨⟨[82, 73, 71, 72, 84, 83, 72, 73, 70, 84]⟩⟩ ∧ Str.ofString "RIGHTSHIFTEQUAL" = ⟨⟨[82, 73, 71, 72, 84, 83, 72, 73, 70, 84, 69, 81, 85, 65, 76]⟩⟩ ∧ Str.ofString "RPAR" = ⟨⟨[82, 80, 65, 82]⟩⟩ ∧ Str.ofString "RSQB" = ⟨⟨[82, 83, 81, 66]⟩⟩ ∧ Str.ofString "SEMI" = ⟨⟨[83, 69, 77, 73]⟩⟩ ∧ Str.ofString "SLASH" = ⟨⟨[83, 76, 65, 83, 72]⟩⟩ ∧ Str.ofString "SLASHEQUAL" = ⟨⟨[83, 76, 65, 83, 72, 69, 81, 85, 65, 76]⟩⟩ ∧ Str.ofString "STAR" = ⟨⟨[83, 84, 65, 82]⟩⟩ ∧ Str.ofString "STAREQUAL" = ⟨⟨[83, 84, 65, 82, 69, 81, 85, 65, 76]⟩⟩ ∧ Str.ofString "TILDE" = ⟨⟨[84, 73, 76, 68, 69]⟩⟩ ∧ Str.ofString "VBAR" = ⟨⟨[86, 66, 65, 82]⟩⟩ ∧ Str.ofString "VBAREQUAL" = ⟨⟨[86, 66, 65, 82, 69, 81, 85, 65, 76]⟩⟩ ∧ Str.ofString "ValueError" = ⟨⟨[86, 97, 108, 117, 101, 69, 114, 114, 111, 114]⟩⟩ ∧ Str.ofString "[" = ⟨⟨[91]⟩⟩ ∧ Str.ofString "]" = ⟨⟨[93]⟩⟩ ∧ Str.ofString "^" = ⟨⟨[94]⟩⟩ ∧ Str.ofString "^=" = ⟨⟨[94, 61]⟩⟩ ∧ Str.ofString "__name__" = ⟨⟨[95, 95, 110, 97, 109, 101, 95, 95]⟩⟩ ∧ Str.ofString "_grouping_intervals" = ⟨⟨[95, 103, 114, 111, 117, 112, 105, 110, 103, 95, 105, 110, 116, 101, 114, 118, 97, 108, 115]⟩⟩ ∧ Str.ofString "_law_back" = ⟨⟨[95, 108, 97, 119, 95, 98, 97, 99, 107]⟩⟩ ∧ Str.ofString "_law_by_choices" = ⟨⟨[95, 108, 97, 119, 95, 98, 121, 95, 99, 104, 111, 105, 99, 101, 115]⟩⟩ ∧ Str.ofString "_law_falls" = ⟨⟨[95, 108, 97, 119, 95, 102, 97, 108, 108, 115]⟩⟩ ∧ Str.ofString "_law_figure" = ⟨⟨[95, 108, 97, 119, 95, 102, 105, 103, 117, 114, 101]⟩⟩ ∧ Str.ofString "_law_key" = ⟨⟨[95, 108, 97, 119, 95, 107, 101, 121]⟩⟩ ∧ Str.ofString "_law_order" = ⟨⟨[95, 108, 97, 119, 95, 111, 114, 100, 101, 114]⟩⟩ ∧ Str.ofString "_law_ranks" = ⟨⟨[95, 108, 97, 119, 95, 114, 97, 110, 107, 115]⟩⟩ ∧ Str.ofString "_law_refused" = ⟨⟨[95, 108, 97, 119, 95, 114, 101, 102, 117, 115, 101, 100]⟩⟩ ∧ Str.ofString "_law_ways" = ⟨⟨[95, 108, 97, 119, 95, 119, 97, 121, 115]⟩⟩ ∧ Str.ofString "_strcoll" = ⟨⟨[95, 115, 116, 114, 99, 111, 108, 108]⟩⟩ ∧ Str.ofString "_strxfrm" = ⟨⟨[95, 115, 116, 114, 120, 102, 114, 109]⟩⟩ ∧ Str.ofString "a" = ⟨⟨[97]⟩⟩ ∧ Str.ofString "aB" = ⟨⟨[97, 66]⟩⟩ ∧ Str.ofString "ahead" = ⟨⟨[97, 104, 101, 97, 100]⟩⟩ ∧ Str.ofString "append" = ⟨⟨[97, 112, 112, 101, 110, 100]⟩⟩ ∧ Str.ofString "at" = ⟨⟨[97, 116]⟩⟩ ∧ Str.ofString "b" = ⟨⟨[98]⟩⟩ ∧ Str.ofString "behind" = ⟨⟨[98, 101, 104, 105, 110, 100]⟩⟩ ∧ Str.ofString "bisect_left" = ⟨⟨[98, 105, 115, 101, 99, 116, 95, 108, 101, 102, 116]⟩⟩ ∧ Str.ofString "bisect_right" = ⟨⟨[98, 105, 115, 101, 99, 116, 95, 114, 105, 103, 104, 116]⟩⟩ ∧ Str.ofString "bool" = ⟨⟨[98, 111, 111, 108]⟩⟩ ∧ Str.ofString "both" = ⟨⟨[98, 111, 116, 104]⟩⟩ ∧ Str.ofString "cells" = ⟨⟨[99, 101, 108, 108, 115]⟩⟩ ∧ Str.ofString "choice" = ⟨⟨[99, 104, 111, 105, 99, 101]⟩⟩ ∧ Str.ofString "count" = ⟨⟨[99, 111, 117, 110, 116]⟩⟩ ∧ Str.ofString "cpy313.bisect" = ⟨⟨[99, 112, 121, 51, 49, 51, 46, 98, 105, 115, 101, 99, 116]⟩⟩ ∧ Str.ofString "cpy313.locale" = ⟨⟨[99, 112, 121, 51, 49, 51, 46, 108, 111, 99, 97, 108, 101]⟩⟩ ∧ Str.ofString "due" = ⟨⟨[100, 117, 101]⟩⟩ ∧ Str.ofString "entry" = ⟨⟨[101, 110, 116, 114, 121]⟩⟩ ∧ Str.ofString "f" = ⟨⟨[102]⟩⟩ ∧ Str.ofString "facts" = ⟨⟨[102, 97, 99, 116, 115]⟩⟩ ∧ Str.ofString "fall" = ⟨⟨[102, 97, 108, 108]⟩⟩ ∧ Str.ofString "falls" = ⟨⟨[102, 97, 108, 108, 115]⟩⟩ ∧ Str.ofString "fast" = ⟨⟨[102, 97, 115, 116]⟩⟩ ∧ Str.ofString "flat" = ⟨⟨[102, 108, 97, 116]⟩⟩ ∧ Str.ofString "grouping" = ⟨⟨[103, 114, 111, 117, 112, 105, 110, 103]⟩⟩ ∧ Str.ofString "hi" = ⟨⟨[104, 105]⟩⟩ ∧ Str.ofString "high" = ⟨⟨[104, 105, 103, 104]⟩⟩ ∧ Str.ofString "insert" = ⟨⟨[105, 110, 115, 101, 114, 116]⟩⟩ ∧ Str.ofString "insort_right" = ⟨⟨[105, 110, 115, 111, 114, 116, 95, 114, 105, 103, 104, 116]⟩⟩ ∧ Str.ofString "interval" = ⟨⟨[105, 110, 116, 101, 114, 118, 97, 108]⟩⟩ ∧ Str.ofString "invalid grouping" = ⟨⟨[105, 110, 118, 97, 108, 105, 100, 32, 103, 114, 111, 117, 112, 105, 110, 103]⟩⟩ ∧ Str.ofString "isinstance" = ⟨⟨[105, 115, 105, 110, 115, 116, 97, 110, 99, 101]⟩⟩ ∧ Str.ofString "join" = ⟨⟨[106, 111, 105, 110]⟩⟩ ∧ Str.ofString "k" = ⟨⟨[107]⟩⟩ ∧ Str.ofString "key" = ⟨⟨[107, 101, 121]⟩⟩ ∧ Str.ofString "laid" = ⟨⟨[108, 97, 105, 100]⟩⟩ ∧ Str.ofString "last" = ⟨⟨[108, 97, 115, 116]⟩⟩ ∧ Str.ofString "last_interval" = ⟨⟨[108, 97, 115, 116, 95, 105, 110, 116, 101, 114, 118, 97, 108]⟩⟩ ∧ Str.ofString "law" = ⟨⟨[108, 97, 119]⟩⟩ ∧ Str.ofString "law_uc0017_01" = ⟨⟨[108, 97, 119, 95, 117, 99, 48, 48, 49, 55, 95, 48, 49]⟩⟩ ∧ Str.ofString "left" = ⟨⟨[108, 101, 102, 116]⟩⟩ ∧ Str.ofString "len" = ⟨⟨[108, 101, 110]⟩⟩ ∧ Str.ofString "list" = ⟨⟨[108, 105, 115, 116]⟩⟩ ∧ Str.ofString "lo" = ⟨⟨[108, 111]⟩⟩ ∧ Str.ofString "lo must be non-negative" = ⟨⟨[108, 111, 32, 109, 117, 115, 116, 32, 98, 101, 32, 110, 111, 110, 45, 110, 101, 103, 97, 116, 105, 118, 101]⟩⟩ ∧ Str.ofString "low" = ⟨⟨[108, 111, 119]⟩⟩ ∧ Str.ofString "marks" = ⟨⟨[109, 97, 114, 107, 115]⟩⟩ ∧ Str.ofString "mid" = ⟨⟨[109, 105, 100]⟩⟩ ∧ Str.ofString "min" = ⟨⟨[109, 105, 110]⟩⟩ ∧ Str.ofString "more" = ⟨⟨[109, 111, 114, 101]⟩⟩ ∧ Str.ofString "number" = ⟨⟨[110, 117, 109, 98, 101, 114]⟩⟩ ∧ Str.ofString "numbers" = ⟨⟨[110, 117, 109, 98, 101, 114, 115]⟩⟩ ∧ Str.ofString "order" = ⟨⟨[111, 114, 100, 101, 114]⟩⟩ ∧ Str.ofString "pair" = ⟨⟨[112, 97, 105, 114]⟩⟩ ∧ Str.ofString "place" = ⟨⟨[112, 108, 97, 99, 101]⟩⟩ ∧ Str.ofString "pool" = ⟨⟨[112, 111, 111, 108]⟩⟩ ∧ Str.ofString "pop" = ⟨⟨[112, 111, 112]⟩⟩ ∧ Str.ofString "range" = ⟨⟨[114, 97, 110, 103, 101]⟩⟩ ∧ Str.ofString "rank" = ⟨⟨[114, 97, 110, 107]⟩⟩ ∧ Str.ofString "ranks" = ⟨⟨[114, 97, 110, 107, 115]⟩⟩ ∧ Str.ofString "reach" = ⟨⟨[114, 101, 97, 99, 104]⟩⟩ ∧ Str.ofString "read" = ⟨⟨[114, 101, 97, 100]⟩⟩ ∧ Str.ofString "row" = ⟨⟨[114, 111, 119]⟩⟩ ∧ Str.ofString "ruler" = ⟨⟨[114, 117, 108, 101, 114]⟩⟩ ∧ Str.ofString "s" = ⟨⟨[115]⟩⟩ ∧ Str.ofString "said" = ⟨⟨[115, 97, 105, 100]⟩⟩ ∧ Str.ofString "script" = ⟨⟨[115, 99, 114, 105, 112, 116]⟩⟩ ∧ Str.ofString "share" = ⟨⟨[115, 104, 97, 114, 101]⟩⟩ ∧ Str.ofString "sign" = ⟨⟨[115, 105, 103, 110]⟩⟩ ∧ Str.ofString "signs" = ⟨⟨[115, 105, 103, 110, 115]⟩⟩ ∧ Str.ofString "sizes" = ⟨⟨[115, 105, 122, 101, 115]⟩⟩ ∧ Str.ofString "sorted" = ⟨⟨[115, 111, 114, 116, 101, 100]⟩⟩ ∧ Str.ofString "spot" = ⟨⟨[115, 112, 111, 116]⟩⟩ ∧ Str.ofString "step" = ⟨⟨[115, 116, 101, 112]⟩⟩ ∧ Str.ofString "sum" = ⟨⟨[115, 117, 109]⟩⟩ ∧ Str.ofString "sums" = ⟨⟨[115, 117, 109, 115]⟩⟩ ∧ Str.ofString "tail" = ⟨⟨[116, 97, 105, 108]⟩⟩ ∧ Str.ofString "text" = ⟨⟨[116, 101, 120, 116]⟩⟩ ∧ Str.ofString "told" = ⟨⟨[116, 111, 108, 100]⟩⟩ ∧ Str.ofString "total" = ⟨⟨[116, 111, 116, 97, 108]⟩⟩ ∧ Str.ofString "twin" = ⟨⟨[116, 119, 105, 110]⟩⟩ ∧ Str.ofString "twins" = ⟨⟨[116, 119, 105, 110, 115]⟩⟩ ∧ Str.ofString "way" = ⟨⟨[119, 97, 121]⟩⟩ ∧ Str.ofString "ways" = ⟨⟨[119, 97, 121, 115]⟩⟩ ∧ Str.ofString "x" = ⟨⟨[120]⟩⟩ ∧ Str.ofString "zip" = ⟨⟨[122, 105, 112]⟩⟩ ∧ Str.ofString "{" = ⟨⟨[123]⟩⟩ ∧ Str.ofString "|" = ⟨⟨[124]⟩⟩ ∧ Str.ofString "|=" = ⟨⟨[124, 61]⟩⟩ ∧ Str.ofString "}" = ⟨⟨[125]⟩⟩ ∧ Str.ofString "~" = ⟨⟨[126]⟩⟩ ∧ Str.ofString "é" = ⟨⟨[233]⟩⟩ := ⟨by kernel_rfl, by kernel_rfl, by kernel_rfl, by kernel_rfl, by kernel_rfl, by kernel_rfl, by kernel_rfl, by kernel_rfl, by kernel_rfl, by kernel_rfl, by kernel_rfl, by kernel_rfl, by kernel_rfl, by kernel_rfl, by kernel_rfl, by kernel_rfl, by kernel_rfl, by kernel_rfl, by kernel_rfl, by kernel_rfl, by kernel_rfl, by kernel_rfl, by kernel_rfl, by kernel_rfl, by kernel_rfl, by kernel_rfl, by kernel_rfl, by kernel_rfl, by kernel_rfl, by kernel_rfl, by kernel_rfl, by kernel_rfl, by kernel_rfl, by kernel_rfl, by kernel_rfl, by kernel_rfl, by kernel_rfl, by kernel_rfl, by kernel_rfl, by kernel_rfl, by kernel_rfl, by kernel_rfl, by kernel_rfl, by kernel_rfl, by kernel_rfl, by kernel_rfl, by kernel_rfl, by kernel_rfl, by kernel_rfl, by kernel_rfl, by kernel_rfl, by kernel_rfl, by kernel_rfl, by kernel_rfl, by kernel_rfl, by kernel_rfl, by kernel_rfl, by kernel_rfl, by kernel_rfl, by kernel_rfl, by kernel_rfl, by kernel_rfl, by kernel_rfl, by kernel_rfl, by kernel_rfl, by kernel_rfl, by kernel_rfl, by kernel_rfl, by kernel_rfl, by kernel_rfl, by kernel_rfl, by kernel_rfl, by kernel_rfl, by kernel_rfl, by kernel_rfl, by kernel_rfl, by kernel_rfl, by kernel_rfl, by kernel_rfl, by kernel_rfl, by kernel_rfl, by kernel_rfl, by kernel_rfl, by kernel_rfl, by kernel_rfl, by kernel_rfl, by kernel_rfl, by kernel_rfl, by kernel_rfl, by kernel_rfl, by kernel_rfl, by kernel_rfl, by kernel_rfl, by kernel_rfl, by kernel_rfl, by kernel_rfl, by kernel_rfl, by kernel_rfl, by kernel_rfl, by kernel_rfl, by kernel_rfl, by kernel_rfl, by kernel_rfl, by kernel_rfl, by kernel_rfl, by kernel_rfl, by kernel_rfl, by kernel_rfl, by kernel_rfl, by kernel_rfl, by kernel_rfl, by kernel_rfl, by kernel_rfl, by kernel_rfl, by kernel_rfl, by kernel_rfl, by kernel_rfl, by kernel_rfl, by kernel_rfl, by kernel_rfl, by kernel_rfl, by kernel_rfl, by kernel_rfl, by kernel_rfl, by kernel_rfl, by kernel_rfl, by kernel_rfl, by kernel_rfl, by kernel_rfl, by kernel_rfl, by kernel_rfl, by kernel_rfl, by kernel_rfl, by kernel_rfl, by kernel_rfl, by kernel_rfl, by kernel_rfl, by kernel_rfl, by kernel_rfl, by kernel_rfl, by kernel_rfl, by kernel_rfl, by kernel_rfl, by kernel_rfl, by kernel_rfl, by kernel_rfl, by kernel_rfl, by kernel_rfl, by kernel_rfl, by kernel_rfl, by kernel_rfl, by kernel_rfl, by kernel_rfl, by kernel_rfl, by kernel_rfl, by kernel_rfl, by kernel_rfl, by kernel_rfl, by kernel_rfl, by kernel_rfl, by kernel_rfl, by kernel_rfl, by kernel_rfl, by kernel_rfl, by kernel_rfl, by kernel_rfl, by kernel_rfl, by kernel_rfl, by kernel_rfl, by kernel_rfl, by kernel_rfl, by kernel_rfl, by kernel_rfl, by kernel_rfl, by kernel_rfl, by kernel_rfl, by kernel_rfl, by kernel_rfl, by kernel_rfl, by kernel_rfl, by kernel_rfl, by kernel_rfl, by kernel_rfl, by kernel_rfl, by kernel_rfl, by kernel_rfl, by kernel_rfl, by kernel_rfl, by kernel_rfl, by kernel_rfl, by kernel_rfl, by kernel_rfl, by kernel_rfl, by kernel_rfl, by kernel_rfl, by kernel_rfl, by kernel_rfl, by kernel_rfl, by kernel_rfl, by kernel_rfl, by kernel_rfl, by kernel_rfl, by kernel_rfl, by kernel_rfl, by kernel_rfl, by kernel_rfl, by kernel_rfl, by kernel_rfl, by kernel_rfl, by kernel_rfl⟩
    delta PySem.Challenge.pw_uc0017_01
    simp only [ts]
    exact rfl)
  exact fun x _ => x
theorem head.te12913799642070618334 : PySem.Challenge.pw_uc0017_01 = head.tw12913799642070618334 := by kernel_rfl
def st (i : Nat) : Stmt := PySem.Challenge.pw_uc0017_01.main.body.getD i (.Pass ⟨0, 0, 0, 0⟩)
def pwS : Program := { PySem.Challenge.pw_uc0017_01 with main := { PySem.Challenge.pw_uc0017_01.main with body := [st 0, st 1, st 2, st 3, st 4, st 5, st 6, st 7, st 8, st 9, st 10, st 11, st 12, st 13, st 14, st 15, st 16, st 17, st 18, st 19, st 20, st 21, st 22, st 23, st 24, st 25, st 26, st 27, st 28, st 29, st 30, st 31, st 32, st 33, st 34, st 35, st 36, st 37, st 38, st 39, st 40, st 41, st 42, st 43, st 44, st 45, st 46, st 47, st 48, st 49, st 50, st 51, st 52, st 53, st 54, st 55, st 56, st 57, st 58, st 59, st 60, st 61, st 62, st 63, st 64, st 65, st 66, st 67, st 68] } }
def rwS : PySem.W.OpenLaw :=
  { prog := pwS, name := (PySem.Str.ofString "law"), about := [(PySem.Str.ofString "_grouping_intervals")], foot := 10, most := some 63, bound := none, writes := false }
theorem rw_eq : PySem.Challenge.rw_uc0017_01 = rwS := by kernel_rfl
set_option Elab.async true
set_option maxHeartbeats 8000000 in
theorem head : rwS.Holds := by
  w_on; o_law; z_head
  (case hw => w_witness2)
  k_fill
  intro w s₀ s₁ mg mb G y fa o pm cd doc dV kV ho hd hcd hD hmg hg args vals as L hpre hlay hrd hwl hlo
  z_open y L KX ZH ZN ZT
  refine Ground.open G ?_
  intro T B D TE TW
  wrow_args hpre hlay hrd hwl hlo
  obtain ⟨hat, hsz⟩ := script_at L
  have htk := script_toks L ZT
  rw [ZN] at hat hsz
  subst hat
  x_fa T KX hmg
  show wpAny _ _ (call _ _) _ _ _
  refine law_end plainT _ KX T.g T.b T.nolimit T.builtins hg (by assumption) (by assumption) (by omega) (by kernel_rfl) ?_ fun h' tk gs x hb => ?_
  · exact {
      fns := by
        repeat (first | exact all_nil | refine all_cons ⟨by kernel_rfl, by kernel_rfl, by kernel_rfl, by kernel_rfl, by kernel_rfl, by kernel_rfl, by kernel_rfl, by kernel_rfl⟩ ?_)
      bi := by
        repeat (first | exact all_nil | refine all_cons (by kernel_rfl) ?_)
      b1 := by
        repeat (first | exact all_nil | refine all_cons (fun _ _ => by kernel_rfl) ?_)
      b2 := by
        repeat (first | exact all_nil | refine all_cons (fun _ _ _ => by kernel_rfl) ?_)
      b3 := by
        repeat (first | exact all_nil | refine all_cons (fun _ _ _ _ => by kernel_rfl) ?_)
      bb2 := all_cons ⟨230, fun _ _ _ => by kernel_rfl⟩ (all_cons ⟨244, fun _ _ _ => by kernel_rfl⟩ all_nil)
      bb3 := by
        repeat (first | exact all_nil | refine all_cons (fun _ _ _ _ => by kernel_rfl) ?_)
      bb4 := by
        repeat (first | exact all_nil | refine all_cons (fun _ _ _ _ _ => by kernel_rfl) ?_)
      bk2 := all_cons ⟨217, fun _ _ _ _ => by kernel_rfl⟩ (all_cons ⟨230, fun _ _ _ _ => by kernel_rfl⟩ (all_cons ⟨244, fun _ _ _ _ => by kernel_rfl⟩ all_nil))
      bk4 := by
        repeat (first | exact all_nil | refine all_cons (fun _ _ _ _ _ _ => by kernel_rfl) ?_)
      sys := by kernel_rfl
      cm := ⟨_, by rfl⟩
      td1 := by kernel_rfl
      td2 := by kernel_rfl
      td3 := ⟨_, by rfl⟩
      td4 := by kernel_rfl
      td5 := by kernel_rfl
      td6 := by kernel_rfl }
  · refine ⟨.inl ⟨.bool true, .bool true, [], rfl, raisesW_false ?_, .bool true, ?_, fun _ => ⟨List.nodup_nil, fun _ m => nomatch m⟩⟩, .of_keep x, rfl, hb⟩
    · wrow_none_raised
    · wrow_post
end Mine
theorem PySem.Challenge.cw_uc0017_01_holds : PySem.Challenge.rw_uc0017_01.Holds := by
  rw [Mine.rw_eq]
  exact Mine.head
