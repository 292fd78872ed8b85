import PyProof.Rows.All
import Wide.All
import OpenK.AllK
import Wide.FinOn
import PySem.Challenge.RW_op0001_01
open PySem PySem.W PyProof.Rows
set_option Elab.async false
namespace Mine
set_option maxRecDepth 100000
set_option maxHeartbeats 8000000
open_top hd for PySem.Challenge.rw_op0001_01
end Mine
namespace Mine

/-- all of h stands in h' -/
def Inc (h h' : Heap) : Prop := ∀ b o, h.get? b = some o → h'.get? b = some o
theorem Inc.refl (h : Heap) : Inc h h := fun _ _ e => e
theorem Inc.trans {a b c : Heap} (x : Inc a b) (y : Inc b c) : Inc a c := fun _ _ e => y _ _ (x _ _ e)

/-- the part of a heap at the addresses of p -/
def cut (h : Heap) (p : Addr → Bool) : Heap := ⟨h.objs.mapIdx fun i o => if p i then o else { cls := .none, data := .freed }, h.life⟩
theorem cut_get (h : Heap) (p : Addr → Bool) (b : Addr) : (cut h p).get? b = if p b then h.get? b else none := by
  unfold cut Heap.get?
  simp only [Array.getElem?_mapIdx]
  cases hb : h.objs[b]? with
  | none => simp
  | some o =>
    cases hp : p b with
    | false => simp
    | true => simp

/-- data a value tells on a heap -/
def Rd (h : Heap) (v : Value) (d : PyData) : Prop := ∃ as, Reads h v d as
def Rds (h : Heap) (vs : List Value) (ds : List PyData) : Prop := ∃ as, ReadsAll h vs ds as

mutual
theorem Reads.up {h h' : Heap} (k : Inc h h') : ∀ {v : Value} {d : PyData} {as : List Addr}, Reads h v d as → Reads h' v d as
  | _, _, _, .none => .none
  | _, _, _, .bool b => .bool b
  | _, _, _, .int i t => .int i t
  | _, _, _, .str x t => .str x t
  | _, _, _, .list a b c r => .list (k _ _ a) b c (ReadsAll.up k r)
  | _, _, _, .tuple a b c r => .tuple (k _ _ a) b c (ReadsAll.up k r)
  | _, _, _, .dict a b c r r' => .dict (k _ _ a) b c (ReadsAll.up k r) (ReadsAll.up k r')
theorem ReadsAll.up {h h' : Heap} (k : Inc h h') : ∀ {vs : List Value} {ds : List PyData} {as : List Addr}, ReadsAll h vs ds as → ReadsAll h' vs ds as
  | _, _, _, .nil => .nil
  | _, _, _, .cons r r' => .cons (Reads.up k r) (ReadsAll.up k r')
end
theorem Rd.up {h h' : Heap} {v : Value} {d : PyData} (r : Rd h v d) (k : Inc h h') : Rd h' v d := let ⟨as, x⟩ := r; ⟨as, Reads.up k x⟩
theorem Rds.up {h h' : Heap} {vs : List Value} {ds : List PyData} (r : Rds h vs ds) (k : Inc h h') : Rds h' vs ds := let ⟨as, x⟩ := r; ⟨as, ReadsAll.up k x⟩
theorem Rd.int {h : Heap} {i : Int} {t : Tok} : Rd h (.int i t) (.int i) := ⟨_, .int i t⟩
theorem Rd.str {h : Heap} {x : Str} {t : Tok} : Rd h (.str x t) (.str x) := ⟨_, .str x t⟩
theorem Rd.bool {h : Heap} {b : Bool} : Rd h (.bool b) (.bool b) := ⟨_, .bool b⟩
theorem Rd.none {h : Heap} : Rd h .none .none := ⟨_, .none⟩
theorem Rds.nil {h : Heap} : Rds h [] [] := ⟨_, .nil⟩
theorem Rds.cons {h : Heap} {v : Value} {d : PyData} {vs : List Value} {ds : List PyData} (a : Rd h v d) (b : Rds h vs ds) : Rds h (v :: vs) (d :: ds) :=
  let ⟨_, x⟩ := a; let ⟨_, y⟩ := b; ⟨_, .cons x y⟩
theorem Rd.list {h : Heap} {a : Addr} {vs : List Value} {ds : List PyData} (hl : h.IsList a vs.toArray) (r : Rds h vs ds) : Rd h (.ref a) (.list ds) := by
  obtain ⟨o, ho, hc, n, hd⟩ := hl
  obtain ⟨as, r⟩ := r
  exact ⟨_, .list ho hc hd (by simpa using r)⟩
theorem Rd.int_inv {h : Heap} {v : Value} {i : Int} (r : Rd h v (.int i)) : ∃ t, v = .int i t := by obtain ⟨_, r⟩ := r; cases r; exact ⟨_, rfl⟩
theorem Rd.str_inv {h : Heap} {v : Value} {i : Str} (r : Rd h v (.str i)) : ∃ t, v = .str i t := by obtain ⟨_, r⟩ := r; cases r; exact ⟨_, rfl⟩
theorem Rd.bool_inv {h : Heap} {v : Value} {i : Bool} (r : Rd h v (.bool i)) : v = .bool i := by obtain ⟨_, r⟩ := r; cases r; rfl
theorem Rd.none_inv {h : Heap} {v : Value} (r : Rd h v .none) : v = .none := by obtain ⟨_, r⟩ := r; cases r; rfl
theorem Rds.nil_inv {h : Heap} {vs : List Value} (r : Rds h vs []) : vs = [] := by obtain ⟨_, r⟩ := r; cases r; rfl
theorem Rds.cons_inv {h : Heap} {vs : List Value} {d : PyData} {ds : List PyData} (r : Rds h vs (d :: ds)) : ∃ v vs', vs = v :: vs' ∧ Rd h v d ∧ Rds h vs' ds := by
  obtain ⟨_, r⟩ := r; cases r with
  | cons a b => exact ⟨_, _, rfl, ⟨_, a⟩, ⟨_, b⟩⟩
theorem Rd.list_inv {h : Heap} {v : Value} {ds : List PyData} (r : Rd h v (.list ds)) : ∃ a vs, v = .ref a ∧ h.IsList a vs.toArray ∧ Rds h vs ds := by
  obtain ⟨_, r⟩ := r
  cases r with
  | list ho hc hd r => exact ⟨_, _, rfl, ⟨_, ho, hc, _, by simpa using hd⟩, ⟨_, r⟩⟩
theorem Rds.length {h : Heap} : ∀ {vs : List Value} {ds : List PyData}, Rds h vs ds → vs.length = ds.length
  | _, [], r => by rw [r.nil_inv]; rfl
  | _, d :: ds, r => by obtain ⟨v, vs', rfl, _, r'⟩ := r.cons_inv; simp [r'.length]
theorem Rds.append {h : Heap} : ∀ {vs : List Value} {ds : List PyData} {ws : List Value} {es : List PyData}, Rds h vs ds → Rds h ws es → Rds h (vs ++ ws) (ds ++ es)
  | _, [], _, _, r, q => by rw [r.nil_inv]; exact q
  | _, d :: ds, _, _, r, q => by obtain ⟨v, vs', rfl, a, r'⟩ := r.cons_inv; exact Rds.cons a (r'.append q)
theorem Rds.take {h : Heap} (n : Nat) : ∀ {vs : List Value} {ds : List PyData}, Rds h vs ds → Rds h (vs.take n) (ds.take n) := by
  induction n with
  | zero => intro vs ds _; exact Rds.nil
  | succ n ih =>
    intro vs ds r
    cases ds with
    | nil => rw [r.nil_inv]; exact Rds.nil
    | cons d ds => obtain ⟨v, vs', rfl, a, r'⟩ := r.cons_inv; exact Rds.cons a (ih r')
theorem Rds.drop {h : Heap} (n : Nat) : ∀ {vs : List Value} {ds : List PyData}, Rds h vs ds → Rds h (vs.drop n) (ds.drop n) := by
  induction n with
  | zero => intro vs ds r; exact r
  | succ n ih =>
    intro vs ds r
    cases ds with
    | nil => rw [r.nil_inv]; exact Rds.nil
    | cons d ds => obtain ⟨v, vs', rfl, a, r'⟩ := r.cons_inv; exact ih r'
theorem Rds.get {h : Heap} : ∀ {vs : List Value} {ds : List PyData} {i : Nat} {v : Value}, Rds h vs ds → vs[i]? = some v → ∃ d, ds[i]? = some d ∧ Rd h v d
  | _, [], i, v, r, e => by rw [r.nil_inv] at e; simp at e
  | _, d :: ds, 0, v, r, e => by obtain ⟨v', vs', rfl, a, r'⟩ := r.cons_inv; simp at e; subst e; exact ⟨d, rfl, a⟩
  | _, d :: ds, i + 1, v, r, e => by obtain ⟨v', vs', rfl, a, r'⟩ := r.cons_inv; simp at e; simpa using r'.get e
theorem Rds.get' {h : Heap} : ∀ {vs : List Value} {ds : List PyData} {i : Nat} {d : PyData}, Rds h vs ds → ds[i]? = some d → ∃ v, vs[i]? = some v ∧ Rd h v d
  | _, [], i, d, r, e => by simp at e
  | _, d' :: ds, 0, d, r, e => by obtain ⟨v', vs', rfl, a, r'⟩ := r.cons_inv; simp at e; subst e; exact ⟨v', rfl, a⟩
  | _, d' :: ds, i + 1, d, r, e => by obtain ⟨v', vs', rfl, a, r'⟩ := r.cons_inv; simp at e; simpa using r'.get' e

theorem isList_up {h h' : Heap} {a : Addr} {vs : Array Value} (x : h.IsList a vs) (k : Inc h h') : h'.IsList a vs := let ⟨o, ho, r⟩ := x; ⟨o, k _ _ ho, r⟩
theorem isCell_up {h h' : Heap} {a : Addr} {v : Option Value} (x : h.IsCell a v) (k : Inc h h') : h'.IsCell a v := let ⟨o, ho, r⟩ := x; ⟨o, k _ _ ho, r⟩

/-- a pure step: the frozen part grows by new objects alone, all that stood stands -/
structure Mv (fz h fz' h' : Heap) : Prop where
  ff : Inc fz fz'
  hh : Inc h h'
  fh : Inc fz' h'
  old : ∀ b o, h.get? b = some o → fz.get? b = none → fz'.get? b = none
theorem Mv.refl {fz h : Heap} (x : Inc fz h) : Mv fz h fz h := ⟨.refl _, .refl _, x, fun _ _ _ e => e⟩
theorem Mv.trans {a h b h' c h'' : Heap} (x : Mv a h b h') (y : Mv b h' c h'') : Mv a h c h'' :=
  ⟨x.ff.trans y.ff, x.hh.trans y.hh, y.fh, fun b o e f => y.old b o (x.hh _ _ e) (x.old b o e f)⟩
theorem Mv.up {fz h h' : Heap} (x : Inc fz h) (k : Inc h h') : Mv fz h fz h' := ⟨.refl _, k, x.trans k, fun _ _ _ e => e⟩

/-- one address more is frozen -/
theorem freeze {fz h : Heap} {r : Addr} (x : Inc fz h) : ∃ fz', Inc fz fz' ∧ Inc fz' h ∧ fz'.get? r = h.get? r ∧ ∀ b, b ≠ r → fz.get? b = none → fz'.get? b = none := by
  refine ⟨cut h fun b => (fz.get? b).isSome || b == r, fun b o e => ?_, fun b o e => ?_, ?_, fun b hb e => ?_⟩
  · rw [cut_get, e]; simpa using x b o e
  · rw [cut_get] at e; split at e
    · exact e
    · cases e
  · rw [cut_get]; simp
  · rw [cut_get, e]; simp [hb]

theorem get_new (h : Heap) : h.get? h.objs.size = none := by
  cases e : h.get? h.objs.size with
  | none => rfl
  | some o => exact absurd (Heap.lt_size e) (Nat.lt_irrefl _)
theorem inc_push (h : Heap) (o : Obj) : Inc h (h.push o) := fun _ _ e => Heap.get?_push_of_some o e

/-- a new list -/
theorem Mv.new {fz h : Heap} (x : Inc fz h) {o : Obj} (hf : o.isFreed = false) : ∃ fz', Mv fz h fz' (h.push o) ∧ fz'.get? h.objs.size = some o := by
  obtain ⟨fz', a, b, c, d⟩ := freeze (r := h.objs.size) (x.trans (inc_push h o))
  refine ⟨fz', ⟨a, inc_push h o, b, fun b' o' e f => d b' ?_ f⟩, c.trans (Heap.get?_push_size _ hf)⟩
  rintro rfl
  rw [get_new] at e; cases e

structure Base (w : World) (h : Heap) : Prop where
  k : (hd.heap_39 w.params).In h
  b : ∃ mb, h.Ns builtinsNs mb ∧ ∀ x : Str, x ≠ "__name__" → mb x = bootBuiltins x
  m : ∃ mg bm ob, BMod h mainGlobals mg bm ob
theorem Base.up {w : World} {h h' : Heap} (x : Base w h) (k : Inc h h') : Base w h' :=
  ⟨x.k.keeps k, let ⟨mb, a, b⟩ := x.b; ⟨mb, a.keeps k, b⟩, let ⟨mg, bm, ob, a⟩ := x.m; ⟨mg, bm, ob, a.keeps k⟩⟩

abbrev Nope : Value → Shared → Prop := fun _ _ => False

structure Same (s s' : Shared) : Prop where
  os : s'.os = s.os
  gens : (s'.gens, s'.drawn) = (s.gens, s.drawn)
theorem Same.refl (s : Shared) : Same s s := ⟨rfl, rfl⟩
theorem Same.trans {a b c : Shared} (x : Same a b) (y : Same b c) : Same a c := ⟨y.os.trans x.os, y.gens.trans x.gens⟩

/-- room for calls -/
structure Room (A : Around) (k : Nat) : Prop where
  handled : A.handled = none
  depth : A.depth + k < recursionLimit
  units : A.units + 8 * k + 200 < cLine
theorem Room.less {A : Around} {k n : Nat} (x : Room A k) (h : n ≤ k) : Room A n := ⟨x.handled, by have := x.depth; omega, by have := x.units; omega⟩
theorem Room.in1 {A : Around} {k : Nat} (x : Room A (k + 1)) : Room A.in1 k := ⟨x.handled, by have := x.depth; simp; omega, by have := x.units; simp; omega⟩
theorem Room.deeper {A : Around} {k : Nat} (x : Room A (k + 1)) (env : Env) : Room (A.deeper env) k :=
  ⟨x.handled, by have := x.depth; simp [Around.deeper]; omega, by have := x.units; simp; omega⟩
theorem Room.lim {A : Around} {k : Nat} (x : Room A k) : A.depth < recursionLimit := by have := x.depth; omega
theorem Room.cl {A : Around} {k : Nat} (x : Room A k) : A.units < cLine := by have := x.units; omega

structure EOk (w : World) (env : Env) (ρ σ : List (Str × PyData)) (fz h : Heap) : Prop where
  base : Base w fz
  inc : Inc fz h
  kind : env.scope.kind = .function
  gl : env.globals = mainGlobals
  bi : env.builtins = builtinsNs
  loc : ∃ m, h.Ns env.locals m ∧ ∀ x d, ρ.lookup x = some d → ∃ v, m x = some v ∧ Rd fz v d
  cel : ∀ x d, σ.lookup x = some d → ∃ c v, env.cells.lookup x = some c ∧ h.IsCell c (some v) ∧ Rd fz v d
  hid : fz.get? env.locals = none
theorem EOk.mv {w : World} {env : Env} {ρ σ : List (Str × PyData)} {fz h fz' h' : Heap} (x : EOk w env ρ σ fz h) (k : Mv fz h fz' h') : EOk w env ρ σ fz' h' where
  base := x.base.up k.ff
  inc := k.fh
  kind := x.kind
  gl := x.gl
  bi := x.bi
  loc := let ⟨m, a, b⟩ := x.loc; ⟨m, a.keeps k.hh, fun y d e => let ⟨v, p, q⟩ := b y d e; ⟨v, p, q.up k.ff⟩⟩
  cel := fun y d e => let ⟨c, v, p, q, r⟩ := x.cel y d e; ⟨c, v, p, isCell_up q k.hh, r.up k.ff⟩
  hid := let ⟨m, ⟨o, _, _, ho, _⟩, _⟩ := x.loc; k.old _ o ho x.hid

/-- a tree that ends without a raise, by a pure step, in something told -/
def Tr {α : Type} (prog : Program) (w : World) (A : Around) (t : Sem α) (fz : Heap) (s : Shared) (Φ : Heap → α → Prop) : Prop :=
  wpAny (model prog w) A t (fun v s' => ∃ fz', Mv fz s.heap fz' s'.heap ∧ Same s s' ∧ Φ fz' v) Nope s

def Ev (prog : Program) (w : World) (A : Around) (env : Env) (ρ σ : List (Str × PyData)) (e : PySem.Expr) (d : PyData) : Prop :=
  ∀ fz s, EOk w env ρ σ fz s.heap → Tr prog w A (eval e env) fz s (fun fz' v => Rd fz' v d)
def Ts (prog : Program) (w : World) (A : Around) (env : Env) (ρ σ : List (Str × PyData)) (e : PySem.Expr) (b : Bool) : Prop :=
  ∀ fz s, EOk w env ρ σ fz s.heap → Tr prog w A (isTrue e env (eval e env)) fz s (fun _ v => v = b)

section
variable {prog : Program} {w : World} {A : Around} {α β : Type} {fz : Heap} {s : Shared}
theorem Tr.pure' {a : α} {Φ : Heap → α → Prop} (x : Inc fz s.heap) (h : Φ fz a) : Tr prog w A (pure a) fz s Φ := wpAny_pure ⟨fz, .refl x, .refl s, h⟩
theorem Tr.bind' {t : Sem α} {f : α → Sem β} {Φ : Heap → α → Prop} {Ψ : Heap → β → Prop} (h : Tr prog w A t fz s Φ)
    (k : ∀ fz' v s', Mv fz s.heap fz' s'.heap → Φ fz' v → Tr prog w A (f v) fz' s' Ψ) : Tr prog w A (t >>= f) fz s Ψ :=
  wpAny_bind (wpAny_mono h (fun v s' ⟨fz', m, e, p⟩ => wpAny_mono (k fz' v s' m p) (fun _ _ ⟨fz'', m', e', p'⟩ => ⟨fz'', m.trans m', e.trans e', p'⟩) fun _ _ x => x) fun _ _ x => x.elim)
theorem Tr.holding' {t : Sem α} {vs : List Value} {Φ : Heap → α → Prop} (h : Tr prog w A t fz s Φ) : Tr prog w A (holding vs t) fz s Φ := wpAny_holding h
theorem Tr.standAt' {pos : Pos} {Φ : Heap → Unit → Prop} (x : Inc fz s.heap) (h : Φ fz ()) : Tr prog w A (standAt pos) fz s Φ := wpAny_standAt ⟨fz, .refl x, .refl s, h⟩
theorem Tr.operate' {t : Sem Value} {vs : List Value} {Φ : Heap → Value → Prop} (h : Tr prog w A t fz s Φ) : Tr prog w A (operate vs t) fz s Φ := wpAny_operating h
theorem Tr.mono' {t : Sem α} {Φ Ψ : Heap → α → Prop} (h : Tr prog w A t fz s Φ) (k : ∀ fz' v, Inc fz fz' → Φ fz' v → Ψ fz' v) : Tr prog w A t fz s Ψ :=
  wpAny_mono h (fun v s' ⟨fz', m, e, p⟩ => ⟨fz', m, e, k fz' v m.ff p⟩) fun _ _ x => x
end
end Mine
namespace Mine
section
variable {prog : Program} {w : World} {A : Around} {fz : Heap} {s : Shared} {env : Env} {ρ σ : List (Str × PyData)}

theorem same_toks (k : Nat) : Same s { s with toks := k } := ⟨rfl, rfl⟩
theorem same_heap (h : Heap) (k : Nat) : Same s { s with heap := h, toks := k } := ⟨rfl, rfl⟩

-- operations on values
theorem tr_add_list {a b : Value} {ds es : List PyData} (i : Inc fz s.heap) (ra : Rd fz a (.list ds)) (rb : Rd fz b (.list es)) (hsz : ds.length + es.length ≤ sizeLine) :
    Tr prog w A (binaryOp .Add a b) fz s (fun fz' v => Rd fz' v (.list (ds ++ es))) := by
  obtain ⟨l, vs, rfl, hl, rv⟩ := ra.list_inv
  obtain ⟨l2, ws, rfl, hl2, rw'⟩ := rb.list_inv
  have hl' := isList_up hl i
  have hl2' := isList_up hl2 i
  obtain ⟨⟨cls, dd, data, sl⟩, ho, hc, n, hd⟩ := id hl'
  obtain ⟨⟨cls2, dd2, data2, sl2⟩, ho2, hc2, n2, hd2⟩ := id hl2'
  simp only at hc hd hc2 hd2
  subst hc hd hc2 hd2
  have e : vs.toArray ++ ws.toArray = (vs ++ ws).toArray := by simp
  refine concat_meets ⟨_, ho, rfl⟩ ⟨_, ho2, rfl⟩ noFill_list_add seq_list_add PySem.F.slot_list_add PySem.F.entry_list_add (PySem.F.args_list_add_2 _ _) (list_addW l l2 vs.toArray ws.toArray n n2 dd dd2 sl sl2 (by simpa [rv.length, rw'.length] using hsz)) ⟨ho, ho2, ?_⟩
  rw [e]
  obtain ⟨fz', mv, hg⟩ := Mv.new i (o := { cls := .type "list", data := .seq (vs ++ ws).toArray }) rfl
  exact ⟨fz', mv, ⟨rfl, rfl⟩, Rd.list ⟨_, hg, rfl, _, rfl⟩ ((rv.up mv.ff).append (rw'.up mv.ff))⟩

theorem tr_add_str {a b : Value} {x y : Str} (i : Inc fz s.heap) (ra : Rd fz a (.str x)) (rb : Rd fz b (.str y)) (hsz : x.length + y.length ≤ sizeLine) :
    Tr prog w A (binaryOp .Add a b) fz s (fun fz' v => Rd fz' v (.str (x ++ y))) := by
  obtain ⟨t, rfl⟩ := ra.str_inv
  obtain ⟨u, rfl⟩ := rb.str_inv
  exact SB.add (fun t' k => ⟨fz, .refl i, ⟨rfl, rfl⟩, .str⟩) hsz

theorem tr_mod {a b : Value} {x y : Int} (i : Inc fz s.heap) (ra : Rd fz a (.int x)) (rb : Rd fz b (.int y)) (hy : y ≠ 0) :
    Tr prog w A (binaryOp .Mod a b) fz s (fun fz' v => Rd fz' v (.int (x.fmod y))) := by
  obtain ⟨t, rfl⟩ := ra.int_inv
  obtain ⟨u, rfl⟩ := rb.int_inv
  exact mod_int' hy ⟨fz, .refl i, ⟨rfl, rfl⟩, .int⟩
theorem tr_fdiv {a b : Value} {x y : Int} (i : Inc fz s.heap) (ra : Rd fz a (.int x)) (rb : Rd fz b (.int y)) (hy : y ≠ 0) (hs : y.natAbs < 1073741824) :
    Tr prog w A (binaryOp .FloorDiv a b) fz s (fun fz' v => Rd fz' v (.int (x.fdiv y))) := by
  obtain ⟨t, rfl⟩ := ra.int_inv
  obtain ⟨u, rfl⟩ := rb.int_inv
  exact floordiv_int hy ⟨fz, .refl i, ⟨rfl, rfl⟩, .int⟩ (.inl (PyProof.noPylong_small hs))

theorem tr_eq {a b : Value} {da db : PyData} (i : Inc fz s.heap) (ra : Rd fz a da) (rb : Rd fz b db) (ha : da.canLay0 = true) (hb : db.canLay0 = true) (hu : A.units + da.depth < cLine) :
    Tr prog w A (compareOp .Eq a b) fz s (fun fz' v => Rd fz' v (.bool (PyData.eqv da db))) := by
  obtain ⟨_, ra⟩ := ra.up i
  obtain ⟨_, rb⟩ := rb.up i
  exact SeqAt.compareEq_reads ra rb ha hb (by have := Nat.min_le_left da.depth db.depth; omega) ⟨fz, .refl i, ⟨rfl, rfl⟩, .bool⟩
theorem tr_ne {a b : Value} {da db : PyData} (i : Inc fz s.heap) (ra : Rd fz a da) (rb : Rd fz b db) (ha : da.canLay0 = true) (hb : db.canLay0 = true) (hu : A.units + da.depth < cLine) :
    Tr prog w A (compareOp .NotEq a b) fz s (fun fz' v => Rd fz' v (.bool (!PyData.eqv da db))) := by
  obtain ⟨_, ra⟩ := ra.up i
  obtain ⟨_, rb⟩ := rb.up i
  exact SeqAt.compareNe_reads ra rb ha hb (by have := Nat.min_le_left da.depth db.depth; omega) ⟨fz, .refl i, ⟨rfl, rfl⟩, .bool⟩
theorem tr_eq_str {a b : Value} {x y : Str} (i : Inc fz s.heap) (ra : Rd fz a (.str x)) (rb : Rd fz b (.str y)) :
    Tr prog w A (compareOp .Eq a b) fz s (fun fz' v => Rd fz' v (.bool (decide (x = y)))) := by
  obtain ⟨t, rfl⟩ := ra.str_inv
  obtain ⟨u, rfl⟩ := rb.str_inv
  refine P.eq_str ⟨fz, .refl i, ⟨rfl, rfl⟩, ?_⟩
  have e : (x.cps.toList == y.cps.toList) = decide (x = y) := by
    rw [SeqAt.str_beq, Bool.eq_iff_iff]; simp
  rw [e]; exact .bool
theorem tr_eq_int {a b : Value} {x y : Int} (i : Inc fz s.heap) (ra : Rd fz a (.int x)) (rb : Rd fz b (.int y)) :
    Tr prog w A (compareOp .Eq a b) fz s (fun fz' v => Rd fz' v (.bool (decide (x = y)))) := by
  obtain ⟨t, rfl⟩ := ra.int_inv
  obtain ⟨u, rfl⟩ := rb.int_inv
  exact P.eq_int ⟨fz, .refl i, ⟨rfl, rfl⟩, by have e : (x == y) = decide (x = y) := (by rw [Bool.eq_iff_iff]; simp); rw [e]; exact .bool⟩
theorem tr_lt {a b : Value} {x y : Int} (i : Inc fz s.heap) (ra : Rd fz a (.int x)) (rb : Rd fz b (.int y)) :
    Tr prog w A (compareOp .Lt a b) fz s (fun fz' v => Rd fz' v (.bool (decide (x < y)))) := by
  obtain ⟨t, rfl⟩ := ra.int_inv
  obtain ⟨u, rfl⟩ := rb.int_inv
  exact P.lt_int ⟨fz, .refl i, ⟨rfl, rfl⟩, .bool⟩
theorem tr_le {a b : Value} {x y : Int} (i : Inc fz s.heap) (ra : Rd fz a (.int x)) (rb : Rd fz b (.int y)) :
    Tr prog w A (compareOp .LtE a b) fz s (fun fz' v => Rd fz' v (.bool (decide (x ≤ y)))) := by
  obtain ⟨t, rfl⟩ := ra.int_inv
  obtain ⟨u, rfl⟩ := rb.int_inv
  exact P.le_int ⟨fz, .refl i, ⟨rfl, rfl⟩, .bool⟩
theorem tr_gt {a b : Value} {x y : Int} (i : Inc fz s.heap) (ra : Rd fz a (.int x)) (rb : Rd fz b (.int y)) :
    Tr prog w A (compareOp .Gt a b) fz s (fun fz' v => Rd fz' v (.bool (decide (x > y)))) := by
  obtain ⟨t, rfl⟩ := ra.int_inv
  obtain ⟨u, rfl⟩ := rb.int_inv
  exact P.gt_int ⟨fz, .refl i, ⟨rfl, rfl⟩, .bool⟩
theorem tr_neg {a : Value} {x : Int} (i : Inc fz s.heap) (ra : Rd fz a (.int x)) :
    Tr prog w A (unaryOp .USub a) fz s (fun fz' v => Rd fz' v (.int (-x))) := by
  obtain ⟨t, rfl⟩ := ra.int_inv
  exact P.neg_int ⟨fz, .refl i, ⟨rfl, rfl⟩, .int⟩

-- constants and names
theorem Ev.int {i : Int} {k : Nat} {pos : Pos} : Ev prog w A env ρ σ (.Constant (.int i) k pos) (.int i) :=
  fun fz _ ok => wpAny_Constant_int ⟨fz, .refl ok.inc, ⟨rfl, rfl⟩, .int⟩
theorem Ev.str {x : Str} {k : Nat} {pos : Pos} : Ev prog w A env ρ σ (.Constant (.str x) k pos) (.str x) :=
  fun fz _ ok => Calls.Constant_str ⟨fz, .refl ok.inc, ⟨rfl, rfl⟩, .str⟩
theorem Ev.none {k : Nat} {pos : Pos} : Ev prog w A env ρ σ (.Constant .none k pos) .none :=
  fun fz _ ok => wpAny_pure ⟨fz, .refl ok.inc, ⟨rfl, rfl⟩, .none⟩
theorem Ev.loc {x : Str} {pos : Pos} {d : PyData} (hl : ρ.lookup x = some d) (hk : env.kindOf x = some .local) (hd : (x == ("__debug__" : Str)) = false) :
    Ev prog w A env ρ σ (.Name x pos) d := fun fz s ok => by
  obtain ⟨m, hn, hm⟩ := ok.loc
  obtain ⟨v, hv, r⟩ := hm _ _ hl
  exact wpAny_Name (wpAny_loadName_local ok.kind hk hn hv ⟨fz, .refl ok.inc, .refl s, r⟩) hd
theorem Ev.cell {x : Str} {pos : Pos} {d : PyData} (hl : σ.lookup x = some d) (hk : env.kindOf x = some .cell) (hd : (x == ("__debug__" : Str)) = false) :
    Ev prog w A env ρ σ (.Name x pos) d := fun fz s ok => by
  obtain ⟨c, v, hc, hv, r⟩ := ok.cel _ _ hl
  exact wpAny_Name (wpAny_loadName_cell ok.kind hk hc hv ⟨fz, .refl ok.inc, .refl s, r⟩) hd
theorem Ev.free {x : Str} {pos : Pos} {d : PyData} (hl : σ.lookup x = some d) (hk : env.kindOf x = some .free) (hd : (x == ("__debug__" : Str)) = false) (hn : (x == ("__classdict__" : Str)) = false) :
    Ev prog w A env ρ σ (.Name x pos) d := fun fz s ok => by
  obtain ⟨c, v, hc, hv, r⟩ := ok.cel _ _ hl
  exact wpAny_Name (wpAny_loadName_free ok.kind hk hc hv ⟨fz, .refl ok.inc, .refl s, r⟩ hn) hd

theorem Ev.eq {e : PySem.Expr} {d d' : PyData} (h : Ev prog w A env ρ σ e d) (x : d = d') : Ev prog w A env ρ σ e d' := x ▸ h

-- two operands
theorem Ev.bin {l r : PySem.Expr} {op : Operator} {pos : Pos} {dl dr d : PyData} (hl : Ev prog w A env ρ σ l dl) (hr : Ev prog w A env ρ σ r dr)
    (h : ∀ fz s a b, Inc fz s.heap → Rd fz a dl → Rd fz b dr → Tr prog w A (binaryOp op a b) fz s (fun fz' v => Rd fz' v d)) :
    Ev prog w A env ρ σ (.BinOp l op r pos) d := fun fz s ok => by
  refine wpAny_BinOp (wpAny_mono (hl fz s ok) (fun a s₁ ⟨fz₁, m₁, e₁, r₁⟩ => ?_) fun _ _ x => x)
  refine wpAny_mono (hr fz₁ s₁ (ok.mv m₁)) (fun b s₂ ⟨fz₂, m₂, e₂, r₂⟩ => ?_) fun _ _ x => x
  exact wpAny_mono (h fz₂ s₂ a b m₂.fh (r₁.up m₂.ff) r₂) (fun v s₃ ⟨fz₃, m₃, e₃, r₃⟩ => ⟨fz₃, (m₁.trans m₂).trans m₃, (e₁.trans e₂).trans e₃, r₃⟩) fun _ _ x => x
theorem Ev.add_list {l r : PySem.Expr} {pos : Pos} {ds es : List PyData} (hl : Ev prog w A env ρ σ l (.list ds)) (hr : Ev prog w A env ρ σ r (.list es)) (hsz : ds.length + es.length ≤ sizeLine) :
    Ev prog w A env ρ σ (.BinOp l .Add r pos) (.list (ds ++ es)) := .bin hl hr fun _ _ _ _ i a b => tr_add_list i a b hsz
theorem Ev.add_str {l r : PySem.Expr} {pos : Pos} {x y : Str} (hl : Ev prog w A env ρ σ l (.str x)) (hr : Ev prog w A env ρ σ r (.str y)) (hsz : x.length + y.length ≤ sizeLine) :
    Ev prog w A env ρ σ (.BinOp l .Add r pos) (.str (x ++ y)) := .bin hl hr fun _ _ _ _ i a b => tr_add_str i a b hsz
theorem Ev.mod {l r : PySem.Expr} {pos : Pos} {x y : Int} (hl : Ev prog w A env ρ σ l (.int x)) (hr : Ev prog w A env ρ σ r (.int y)) (hy : y ≠ 0) :
    Ev prog w A env ρ σ (.BinOp l .Mod r pos) (.int (x.fmod y)) := .bin hl hr fun _ _ _ _ i a b => tr_mod i a b hy
theorem Ev.fdiv {l r : PySem.Expr} {pos : Pos} {x y : Int} (hl : Ev prog w A env ρ σ l (.int x)) (hr : Ev prog w A env ρ σ r (.int y)) (hy : y ≠ 0) (hs : y.natAbs < 1073741824) :
    Ev prog w A env ρ σ (.BinOp l .FloorDiv r pos) (.int (x.fdiv y)) := .bin hl hr fun _ _ _ _ i a b => tr_fdiv i a b hy hs
theorem Ev.neg {e : PySem.Expr} {pos : Pos} {x : Int} (he : Ev prog w A env ρ σ e (.int x)) : Ev prog w A env ρ σ (.UnaryOp .USub e pos) (.int (-x)) := fun fz s ok => by
  refine UnaryOp_ (wpAny_mono (he fz s ok) (fun a s₁ ⟨fz₁, m₁, e₁, r₁⟩ => ?_) fun _ _ x => x)
  exact wpAny_mono (tr_neg m₁.fh r₁) (fun v s₃ ⟨fz₃, m₃, e₃, r₃⟩ => ⟨fz₃, m₁.trans m₃, e₁.trans e₃, r₃⟩) fun _ _ x => x

-- comparisons as tests
theorem Ts.cmp {l r : PySem.Expr} {op : CmpOp} {pos : Pos} {dl dr : PyData} {b : Bool} (hl : Ev prog w A env ρ σ l dl) (hr : Ev prog w A env ρ σ r dr)
    (h : ∀ fz s x y, Inc fz s.heap → Rd fz x dl → Rd fz y dr → Tr prog w A (compareOp op x y) fz s (fun fz' v => Rd fz' v (.bool b))) (hm : behindInMarks op r = false := by with_unfolding_all rfl) :
    Ts prog w A env ρ σ (.Compare l [op] [r] pos) b := fun fz s ok => by
  refine wpAny_isTrue_Compare1 (wpAny_mono (hl fz s ok) (fun a s₁ ⟨fz₁, m₁, e₁, r₁⟩ => ?_) fun _ _ x => x) hm
  refine wpAny_mono (hr fz₁ s₁ (ok.mv m₁)) (fun c s₂ ⟨fz₂, m₂, e₂, r₂⟩ => ?_) fun _ _ x => x
  refine wpAny_mono (h fz₂ s₂ a c m₂.fh (r₁.up m₂.ff) r₂) (fun v s₃ ⟨fz₃, m₃, e₃, r₃⟩ => ?_) fun _ _ x => x
  rw [r₃.bool_inv]
  exact wpAny_truthy_bool ⟨fz₃, (m₁.trans m₂).trans m₃, (e₁.trans e₂).trans e₃, rfl⟩
theorem Ev.cmp {l r : PySem.Expr} {op : CmpOp} {pos : Pos} {dl dr d : PyData} (hl : Ev prog w A env ρ σ l dl) (hr : Ev prog w A env ρ σ r dr)
    (h : ∀ fz s x y, Inc fz s.heap → Rd fz x dl → Rd fz y dr → Tr prog w A (compareOp op x y) fz s (fun fz' v => Rd fz' v d)) (hm : behindInMarks op r = false := by with_unfolding_all rfl) :
    Ev prog w A env ρ σ (.Compare l [op] [r] pos) d := fun fz s ok => by
  refine wpAny_Compare1 (wpAny_mono (hl fz s ok) (fun a s₁ ⟨fz₁, m₁, e₁, r₁⟩ => ?_) fun _ _ x => x) hm
  refine wpAny_mono (hr fz₁ s₁ (ok.mv m₁)) (fun c s₂ ⟨fz₂, m₂, e₂, r₂⟩ => ?_) fun _ _ x => x
  exact wpAny_mono (h fz₂ s₂ a c m₂.fh (r₁.up m₂.ff) r₂) (fun v s₃ ⟨fz₃, m₃, e₃, r₃⟩ => ⟨fz₃, (m₁.trans m₂).trans m₃, (e₁.trans e₂).trans e₃, r₃⟩) fun _ _ x => x
theorem Ts.not {e : PySem.Expr} {pos : Pos} {b : Bool} (h : Ts prog w A env ρ σ e b) : Ts prog w A env ρ σ (.UnaryOp .Not e pos) (!b) := fun fz s ok =>
  isTrue_not (wpAny_mono (h fz s ok) (fun _ _ ⟨fz₁, m₁, e₁, r₁⟩ => ⟨fz₁, m₁, e₁, by rw [r₁]⟩) fun _ _ x => x)
theorem Ts.and {e₁ e₂ : PySem.Expr} {pos : Pos} {b c : Bool} (h₁ : Ts prog w A env ρ σ e₁ b) (h₂ : b = true → Ts prog w A env ρ σ e₂ c) :
    Ts prog w A env ρ σ (.BoolOp .And [e₁, e₂] pos) (b && c) := fun fz s ok => by
  refine isTrue_and (wpAny_mono (h₁ fz s ok) (fun v s₁ ⟨fz₁, m₁, q₁, r₁⟩ => ?_) fun _ _ x => x)
  subst r₁
  cases v with
  | false => exact ⟨fz₁, m₁, q₁, rfl⟩
  | true =>
    refine isTrue_and (wpAny_mono (h₂ rfl fz₁ s₁ (ok.mv m₁)) (fun v s₂ ⟨fz₂, m₂, q₂, r₂⟩ => ?_) fun _ _ x => x)
    subst r₂
    cases v with
    | false => exact ⟨fz₂, m₁.trans m₂, q₁.trans q₂, rfl⟩
    | true => exact isTrue_and_nil ⟨fz₂, m₁.trans m₂, q₁.trans q₂, rfl⟩
theorem Ev.ite {t a b : PySem.Expr} {pos : Pos} {c : Bool} {d : PyData} (h : Ts prog w A env ρ σ t c) (h₁ : c = true → Ev prog w A env ρ σ a d) (h₂ : c = false → Ev prog w A env ρ σ b d) :
    Ev prog w A env ρ σ (.IfExp t a b pos) d := fun fz s ok => by
  refine IfExp_ (wpAny_mono (h fz s ok) (fun v s₁ ⟨fz₁, m₁, q₁, r₁⟩ => ?_) fun _ _ x => x)
  subst r₁
  cases v with
  | true => exact wpAny_mono (h₁ rfl fz₁ s₁ (ok.mv m₁)) (fun v s₃ ⟨fz₃, m₃, e₃, r₃⟩ => ⟨fz₃, m₁.trans m₃, q₁.trans e₃, r₃⟩) fun _ _ x => x
  | false => exact wpAny_mono (h₂ rfl fz₁ s₁ (ok.mv m₁)) (fun v s₃ ⟨fz₃, m₃, e₃, r₃⟩ => ⟨fz₃, m₁.trans m₃, q₁.trans e₃, r₃⟩) fun _ _ x => x
theorem Ts.str {e : PySem.Expr} {x : Str} (h : Ev prog w A env ρ σ e (.str x)) (hfit : ¬ (x.length : Int) ≥ 2 ^ 63)
    (he : ∀ whole, isTrue e env whole = (do let v ← whole; standAt e.pos; holding [v] (truthy v)) := by intro _; rfl) : Ts prog w A env ρ σ e ((x.length : Int) != 0) := fun fz s ok => by
  refine isTrue_plain (wpAny_mono (h fz s ok) (fun v s₁ ⟨fz₁, m₁, q₁, r₁⟩ => ?_) fun _ _ x => x) (he _)
  obtain ⟨t, rfl⟩ := r₁.str_inv
  exact P.truthy_str hfit ⟨fz₁, m₁, ⟨q₁.os, q₁.gens⟩, rfl⟩

-- lists written out
inductive Evs (prog : Program) (w : World) (A : Around) (env : Env) (ρ σ : List (Str × PyData)) : List PySem.Expr → List PyData → Prop
  | nil : Evs prog w A env ρ σ [] []
  | cons {e : PySem.Expr} {es : List PySem.Expr} {d : PyData} {ds : List PyData} : Ev prog w A env ρ σ e d → isStarred e = false → Evs prog w A env ρ σ es ds → Evs prog w A env ρ σ (e :: es) (d :: ds)
theorem starEach_plain {e : PySem.Expr} {es : List PySem.Expr} (h : isStarred e = false) : starEach (e :: es) env = (false, eval e env) :: starEach es env := by
  cases e <;> first | rfl | cases h
theorem Evs.spliced {pos : Pos} : ∀ {es : List PySem.Expr} {ds : List PyData}, Evs prog w A env ρ σ es ds → ∀ fz s, EOk w env ρ σ fz s.heap → Tr prog w A (spliced (backTo pos (starEach es env))) fz s (fun fz' vs => Rds fz' vs ds) := by
  intro es ds h
  induction h with
  | nil => intro fz s ok; exact Calls.spliced_nil ⟨fz, .refl ok.inc, .refl s, .nil⟩
  | @cons e es d ds he hs _ ih =>
    intro fz s ok
    rw [starEach_plain hs]
    refine Calls.spliced_cons (wpAny_mono (he fz s ok) (fun v s₁ ⟨fz₁, m₁, q₁, r₁⟩ => ?_) fun _ _ x => x)
    exact wpAny_mono (ih fz₁ s₁ (ok.mv m₁)) (fun vs s₂ ⟨fz₂, m₂, q₂, r₂⟩ => ⟨fz₂, m₁.trans m₂, q₁.trans q₂, .cons (r₁.up m₂.ff) r₂⟩) fun _ _ x => x
theorem tr_newList {vs : List Value} {ds : List PyData} (i : Inc fz s.heap) (r : Rds fz vs ds) (hsz : ds.length ≤ sizeLine) : Tr prog w A (newList vs) fz s (fun fz' v => Rd fz' v (.list ds)) := by
  obtain ⟨fz', mv, hg⟩ := Mv.new i (o := { cls := .type "list", data := .seq vs.toArray }) rfl
  exact wpAny_newList ⟨fz', mv, ⟨rfl, rfl⟩, Rd.list ⟨_, hg, rfl, _, rfl⟩ (r.up mv.ff)⟩ (by rw [r.length]; exact hsz)
theorem Ev.list {es : List PySem.Expr} {ds : List PyData} {pos : Pos} (h : Evs prog w A env ρ σ es ds) (hsz : ds.length ≤ sizeLine) : Ev prog w A env ρ σ (.List es pos) (.list ds) := fun fz s ok => by
  rw [arm_eval_List]
  refine wpAny_bind (wpAny_standAt (wpAny_bind (wpAny_mono (h.spliced fz s ok) (fun vs s₁ ⟨fz₁, m₁, q₁, r₁⟩ => ?_) fun _ _ x => x)))
  exact wpAny_mono (tr_newList m₁.fh r₁ hsz) (fun v s₃ ⟨fz₃, m₃, e₃, r₃⟩ => ⟨fz₃, m₁.trans m₃, q₁.trans e₃, r₃⟩) fun _ _ x => x
end
end Mine
namespace Mine
section
variable {prog : Program} {w : World} {A : Around} {fz : Heap} {s : Shared} {env : Env} {ρ σ : List (Str × PyData)}

-- items
theorem tr_item {o i : Value} {ds : List PyData} {k : Int} {d : PyData} (x : Inc fz s.heap) (ro : Rd fz o (.list ds)) (ri : Rd fz i (.int k)) (h0 : 0 ≤ k) (hf : k < 2 ^ 63) (hd : ds[k.toNat]? = some d) :
    s.TypeIs o "list" ∧ Tr prog w A (getItem o i) fz s (fun fz' v => Rd fz' v d) := by
  obtain ⟨l, vs, rfl, hl, rv⟩ := ro.list_inv
  obtain ⟨t, rfl⟩ := ri.int_inv
  obtain ⟨v, hv, rd⟩ := rv.get' hd
  exact ⟨(isList_up hl x).typeIs, wpAny_getItem_list (isList_up hl x) h0 hf (by simpa using hv) ⟨fz, .refl x, .refl s, rd⟩⟩
theorem tr_item_neg {o i : Value} {ds : List PyData} {k : Int} {d : PyData} (x : Inc fz s.heap) (ro : Rd fz o (.list ds)) (ri : Rd fz i (.int k)) (h0 : k < 0) (h1 : -(ds.length : Int) ≤ k) (hf : -(2 ^ 63) ≤ k) (hd : ds[(k + ds.length).toNat]? = some d) :
    s.TypeIs o "list" ∧ Tr prog w A (getItem o i) fz s (fun fz' v => Rd fz' v d) := by
  obtain ⟨l, vs, rfl, hl, rv⟩ := ro.list_inv
  obtain ⟨t, rfl⟩ := ri.int_inv
  obtain ⟨v, hv, rd⟩ := rv.get' hd
  refine ⟨(isList_up hl x).typeIs, wpAny_getItem_list_neg (isList_up hl x) h0 (by simpa [rv.length] using h1) hf ?_ ⟨fz, .refl x, .refl s, rd⟩⟩
  simpa [rv.length] using hv
theorem Ev.sub {v i : PySem.Expr} {pos : Pos} {dv di d : PyData} {T id : String} (hl : typeLookup (.type T) "__getitem__" = pure (some (.builtin id)))
    (hv : Ev prog w A env ρ σ v dv) (hi : Ev prog w A env ρ σ i di)
    (h : ∀ fz s a b, Inc fz s.heap → Rd fz a dv → Rd fz b di → s.TypeIs a T ∧ Tr prog w A (getItem a b) fz s (fun fz' v => Rd fz' v d))
    (hs : ∀ a b, subscripted i false a b = operate [a, b] (getItem a b) := by intro _ _; with_unfolding_all rfl) :
    Ev prog w A env ρ σ (.Subscript v i pos) d := fun fz s ok => by
  refine Subscript_ (wpAny_mono (hv fz s ok) (fun a s₁ ⟨fz₁, m₁, e₁, r₁⟩ => ?_) fun _ _ x => x)
  refine wpAny_mono (hi fz₁ s₁ (ok.mv m₁)) (fun b s₂ ⟨fz₂, m₂, e₂, r₂⟩ => ?_) fun _ _ x => x
  obtain ⟨hT, ht⟩ := h fz₂ s₂ a b m₂.fh (r₁.up m₂.ff) r₂
  exact tail_any hT hl (wpAny_mono ht (fun v s₃ ⟨fz₃, m₃, e₃, r₃⟩ => ⟨fz₃, (m₁.trans m₂).trans m₃, (e₁.trans e₂).trans e₃, r₃⟩) fun _ _ x => x) (hs _ _)
theorem Ev.item {v i : PySem.Expr} {pos : Pos} {ds : List PyData} {k : Int} {d : PyData} (hv : Ev prog w A env ρ σ v (.list ds)) (hi : Ev prog w A env ρ σ i (.int k)) (h0 : 0 ≤ k) (hf : k < 2 ^ 63) (hd : ds[k.toNat]? = some d)
    (hs : ∀ a b, subscripted i false a b = operate [a, b] (getItem a b) := by intro _ _; with_unfolding_all rfl) :
    Ev prog w A env ρ σ (.Subscript v i pos) d := .sub slot_list_getitem.lookup hv hi (fun _ _ _ _ x a b => tr_item x a b h0 hf hd) hs
theorem Ev.item_neg {v i : PySem.Expr} {pos : Pos} {ds : List PyData} {k : Int} {d : PyData} (hv : Ev prog w A env ρ σ v (.list ds)) (hi : Ev prog w A env ρ σ i (.int k)) (h0 : k < 0) (h1 : -(ds.length : Int) ≤ k) (hf : -(2 ^ 63) ≤ k)
    (hd : ds[(k + ds.length).toNat]? = some d) (hs : ∀ a b, subscripted i false a b = operate [a, b] (getItem a b) := by intro _ _; with_unfolding_all rfl) :
    Ev prog w A env ρ σ (.Subscript v i pos) d := .sub slot_list_getitem.lookup hv hi (fun _ _ _ _ x a b => tr_item_neg x a b h0 h1 hf hd) hs
theorem tr_item_str {o i : Value} {y : Str} {k : Int} {c : Nat} (x : Inc fz s.heap) (ro : Rd fz o (.str y)) (ri : Rd fz i (.int k)) (hr : (decide (k < -(2 ^ 63 : Int)) || decide (k ≥ 2 ^ 63)) = false) (hc : (seqIndex? k y.length).bind (y.cps[·]?) = some c) :
    s.TypeIs o "str" ∧ Tr prog w A (getItem o i) fz s (fun fz' v => Rd fz' v (.str ⟨#[c]⟩)) := by
  obtain ⟨t, rfl⟩ := ro.str_inv
  obtain ⟨u, rfl⟩ := ri.int_inv
  exact ⟨typeIs_str _ _ _, P.getItem_str hr hc ⟨fz, .refl x, ⟨rfl, rfl⟩, .str⟩⟩
theorem Ev.item_str {v i : PySem.Expr} {pos : Pos} {y : Str} {k : Int} {c : Nat} (hv : Ev prog w A env ρ σ v (.str y)) (hi : Ev prog w A env ρ σ i (.int k)) (hr : (decide (k < -(2 ^ 63 : Int)) || decide (k ≥ 2 ^ 63)) = false)
    (hc : (seqIndex? k y.length).bind (y.cps[·]?) = some c) (hs : ∀ a b, subscripted i false a b = operate [a, b] (getItem a b) := by intro _ _; with_unfolding_all rfl) :
    Ev prog w A env ρ σ (.Subscript v i pos) (.str ⟨#[c]⟩) := .sub PySem.F.slot_str_getitem.lookup hv hi (fun _ _ _ _ x a b => tr_item_str x a b hr hc) hs

-- slices of lists
theorem slicePick_gen (items : Array Value) (lo hi : Option Int) (a b : Nat) (h : sliceBounds lo hi none items.size = ((a : Int), (b : Int), 1)) :
    slicePick items lo hi none = ((items.toList.drop a).take (b - a)).toArray := by
  unfold slicePick
  rw [h]
  dsimp only
  rw [sliceRange_one, pick_run]
inductive Part (prog : Program) (w : World) (A : Around) (env : Env) (ρ σ : List (Str × PyData)) : Option PySem.Expr → Option Int → Prop
  | none : Part prog w A env ρ σ none none
  | some {e : PySem.Expr} {k : Int} : Ev prog w A env ρ σ e (.int k) → Part prog w A env ρ σ (some e) (some k)
theorem Part.tr {e : Option PySem.Expr} {k : Option Int} (h : Part prog w A env ρ σ e k) (ok : EOk w env ρ σ fz s.heap) : Tr prog w A (evalPart e env) fz s (fun _ v => IsPart v k) := by
  cases h with
  | none => exact wpAny_pure ⟨fz, .refl ok.inc, .refl s, .none⟩
  | some h => exact Tr.mono' (h fz s ok) fun _ v _ r => by obtain ⟨t, rfl⟩ := r.int_inv; exact .int _ _
theorem Ev.slice {v : PySem.Expr} {lo hi : Option PySem.Expr} {p pos : Pos} {ds : List PyData} {l u : Option Int} {a b : Nat} (hv : Ev prog w A env ρ σ v (.list ds)) (pl : Part prog w A env ρ σ lo l) (pu : Part prog w A env ρ σ hi u)
    (hb : sliceBounds l u Option.none ds.length = ((a : Int), (b : Int), 1)) (hsz : ds.length ≤ sizeLine) :
    Ev prog w A env ρ σ (.Subscript v (.Slice lo hi Option.none p) pos) (.list ((ds.drop a).take (b - a))) := fun fz s ok => by
  refine Subscript_ (wpAny_mono (hv fz s ok) (fun o s₁ ⟨fz₁, m₁, e₁, r₁⟩ => ?_) fun _ _ x => x)
  refine wpAny_Slice (wpAny_mono (pl.tr (ok.mv m₁)) (fun vl s₂ ⟨fz₂, m₂, e₂, r₂⟩ => ?_) fun _ _ x => x)
  refine wpAny_mono (pu.tr ((ok.mv m₁).mv m₂)) (fun vu s₃ ⟨fz₃, m₃, e₃, r₃⟩ => ?_) fun _ _ x => x
  rw [evalPart_none]
  refine wpAny_pure ?_
  obtain ⟨la, vs, rfl, hl, rv⟩ := ((r₁.up m₂.ff).up m₃.ff).list_inv
  have hl' := (isList_up hl m₃.fh).push { cls := .type "slice", data := .fields #[vl, vu, .none] }
  refine tail_any (s := { s₃ with heap := _ }) hl'.typeIs list_getitem_lookup (wpAny_getItem_list_slice hl' (Heap.IsSliceOf.new ..) r₂ r₃ .none (by simp) ?_ (by simpa [rv.length] using hsz)) rfl
  rw [slicePick_gen _ _ _ a b (by simpa [rv.length] using hb)]
  have i₃ : Inc fz₃ (s₃.heap.push { cls := .type "slice", data := .fields #[vl, vu, .none] }) := m₃.fh.trans (inc_push _ _)
  obtain ⟨fz', mv, hg⟩ := Mv.new i₃ (o := { cls := .type "list", data := .seq ((vs.drop a).take (b - a)).toArray }) rfl
  refine ⟨fz', ((m₁.trans m₂).trans m₃).trans ((Mv.up m₃.fh (inc_push _ _)).trans mv), ⟨((e₁.trans e₂).trans e₃).os, ((e₁.trans e₂).trans e₃).gens⟩, ?_⟩
  exact Rd.list ⟨_, hg, rfl, _, rfl⟩ (((rv.up mv.ff).drop a).take (b - a))

-- names of the module and of the built-ins
theorem ns_at {h : Heap} {a : Addr} {m : Str → Option Value} {o : Obj} {es : Array DictEntry} {n : Nat} (hn : h.Ns a m) (ho : h.get? a = some o) (hd : o.data = .dict es n) (x : Str) : m x = nsFind es x := by
  obtain ⟨o', es', n', ho', hd', _, hm⟩ := hn
  rw [ho] at ho'; cases ho'
  rw [hd] at hd'; cases hd'
  exact (hm x).symm

def Glo (w : World) (x : Str) (v : Value) : Prop := ∀ h, Base w h → ∃ mg, h.Ns mainGlobals mg ∧ mg x = some v
def Blt (w : World) (x : Str) (v : Value) : Prop := ∀ h, Base w h → ∃ mg mb, h.Ns mainGlobals mg ∧ mg x = none ∧ h.Ns builtinsNs mb ∧ mb x = some v

theorem Tr.glo {x : Str} {v : Value} (hg : Glo w x v) (hk : env.kindOf x = some .globalImplicit) (hd : (x == ("__debug__" : Str)) = false) (ok : EOk w env ρ σ fz s.heap) {pos : Pos} :
    Tr prog w A (eval (.Name x pos) env) fz s (fun _ u => u = v) := by
  obtain ⟨mg, hn, hm⟩ := hg _ (ok.base.up ok.inc)
  exact Calls.Name_function_global ok.kind hk (Calls.loadGlobal_global (by rw [ok.gl]; exact hn) hm ⟨fz, .refl ok.inc, .refl s, rfl⟩) hd
theorem Tr.blt {x : Str} {v : Value} (hg : Blt w x v) (hk : env.kindOf x = some .globalImplicit) (hd : (x == ("__debug__" : Str)) = false) (ok : EOk w env ρ σ fz s.heap) {pos : Pos} :
    Tr prog w A (eval (.Name x pos) env) fz s (fun _ u => u = v) := by
  obtain ⟨mg, mb, hn, hm, hb, hv⟩ := hg _ (ok.base.up ok.inc)
  exact Calls.Name_function_global ok.kind hk (Calls.loadGlobal_builtin (by rw [ok.gl]; exact hn) hm (by rw [ok.bi]; exact hb) hv ⟨fz, .refl ok.inc, .refl s, rfl⟩) hd

/-- what a call of the function at f gives -/
def Ct (prog : Program) (w : World) (f : Addr) (k : Nat) (ds : List PyData) (d : PyData) : Prop :=
  ∀ A fz s vs, Room A k → Base w fz → Inc fz s.heap → Rds fz vs ds → codeAny (model prog w) A (.call (.ref f) ⟨vs, []⟩) (fun r s' => ∃ v fz', r = .ok (.ret v) ∧ Mv fz s.heap fz' s'.heap ∧ Same s s' ∧ Rd fz' v d) s

def IsDef (w : World) (f : Addr) : Prop := ∃ o fd, o.data = .func fd ∧ ∀ h, Base w h → h.get? f = some o

theorem eval_call {x : Str} {p pos : Pos} {es : List PySem.Expr} : eval (.Call (.Name x p) es [] pos) env = (do callWith pos (← eval (.Name x p) env) [] (backTo pos (starEach es env)) (backToKw pos (keywordEach [] env))) := rfl
theorem backTo_plain {e : PySem.Expr} {es : List PySem.Expr} {pos : Pos} (h : isStarred e = false) : backTo pos (starEach (e :: es) env) = (false, eval e env) :: backTo pos (starEach es env) := by
  rw [starEach_plain h]; rfl

theorem Ev.call {x : Str} {p pos : Pos} {f : Addr} {k : Nat} {e : PySem.Expr} {es : List PySem.Expr} {ds : List PyData} {d : PyData} (room : Room A k) (hg : Glo w x (.ref f)) (hf : IsDef w f) (ct : Ct prog w f k ds d)
    (hargs : Evs prog w A env ρ σ (e :: es) ds) (hk : env.kindOf x = some .globalImplicit := by rfl) (hd : (x == ("__debug__" : Str)) = false := by decide) :
    Ev prog w A env ρ σ (.Call (.Name x p) (e :: es) [] pos) d := fun fz s ok => by
  obtain ⟨o, fd, hfd, hfo⟩ := hf
  rw [eval_call]
  refine wpAny_bind (wpAny_mono (Tr.glo hg hk hd ok) (fun v s₁ ⟨fz₁, m₁, e₁, r₁⟩ => ?_) fun _ _ x => x)
  subst r₁
  have hst : isStarred e = false := by cases hargs; assumption
  refine Calls.callWith_function (o := o) (fd := fd) ?_
  have hsp := hargs.spliced (pos := pos) fz₁ s₁ (ok.mv m₁)
  rw [backTo_plain hst] at hsp ⊢
  refine Calls.evalArgs_plain (wpAny_mono hsp (fun vs s₂ ⟨fz₂, m₂, e₂, r₂⟩ => ?_) fun _ _ x => x)
  have b₂ := ((ok.mv m₁).mv m₂).base
  refine ⟨⟨hfo _ (b₂.up m₂.fh), hfd⟩, wpAny_call (codeAny_mono (ct A fz₂ s₂ vs room b₂ m₂.fh r₂) fun r s₃ ⟨v, fz₃, hr, m₃, e₃, r₃⟩ => ?_)⟩
  subst hr
  exact ⟨fz₃, (m₁.trans m₂).trans m₃, (e₁.trans e₂).trans e₃, r₃⟩
theorem Ev.callb {x : Str} {p pos : Pos} {id : String} {e : PySem.Expr} {es : List PySem.Expr} {ds : List PyData} {d : PyData} (hg : Blt w x (.builtin id))
    (h : ∀ fz s vs, Base w fz → Inc fz s.heap → Rds fz vs ds → Tr prog w A (PySem.call (.builtin id) vs) fz s (fun fz' v => Rd fz' v d))
    (hargs : Evs prog w A env ρ σ (e :: es) ds) (hplain : ∀ pos, (backTo pos (starEach es env)).any (·.1) = false := by intro _; rfl) (hk : env.kindOf x = some .globalImplicit := by rfl) (hd : (x == ("__debug__" : Str)) = false := by decide) :
    Ev prog w A env ρ σ (.Call (.Name x p) (e :: es) [] pos) d := fun fz s ok => by
  rw [eval_call]
  refine wpAny_bind (wpAny_mono (Tr.blt hg hk hd ok) (fun v s₁ ⟨fz₁, m₁, e₁, r₁⟩ => ?_) fun _ _ x => x)
  subst r₁
  have hst : isStarred e = false := by cases hargs; assumption
  have hsp := hargs.spliced (pos := pos) fz₁ s₁ (ok.mv m₁)
  rw [backTo_plain hst] at hsp ⊢
  refine Calls.callWith_builtin (by show (false || _) = false; exact hplain pos) (Calls.evalArgs_plain (wpAny_mono hsp (fun vs s₂ ⟨fz₂, m₂, e₂, r₂⟩ => ?_) fun _ _ x => x))
  exact wpAny_mono (h fz₂ s₂ vs ((ok.mv m₁).mv m₂).base m₂.fh r₂) (fun v s₃ ⟨fz₃, m₃, e₃, r₃⟩ => ⟨fz₃, (m₁.trans m₂).trans m₃, (e₁.trans e₂).trans e₃, r₃⟩) fun _ _ x => x
theorem Ev.callt {x : Str} {p pos : Pos} {T : String} {e : PySem.Expr} {es : List PySem.Expr} {ds : List PyData} {d : PyData} (hg : Blt w x (.type T))
    (h : ∀ fz s vs, Base w fz → Inc fz s.heap → Rds fz vs ds → Tr prog w A (PySem.call (.type T) vs) fz s (fun fz' v => Rd fz' v d))
    (hargs : Evs prog w A env ρ σ (e :: es) ds) (hplain : ∀ pos, (backTo pos (starEach es env)).any (·.1) = false := by intro _; rfl) (hk : env.kindOf x = some .globalImplicit := by rfl) (hd : (x == ("__debug__" : Str)) = false := by decide) :
    Ev prog w A env ρ σ (.Call (.Name x p) (e :: es) [] pos) d := fun fz s ok => by
  rw [eval_call]
  refine wpAny_bind (wpAny_mono (Tr.blt hg hk hd ok) (fun v s₁ ⟨fz₁, m₁, e₁, r₁⟩ => ?_) fun _ _ x => x)
  subst r₁
  have hst : isStarred e = false := by cases hargs; assumption
  have hsp := hargs.spliced (pos := pos) fz₁ s₁ (ok.mv m₁)
  rw [backTo_plain hst] at hsp ⊢
  refine PyProof.Rows.callWith_type (by show (false || _) = false; exact hplain pos) (Calls.evalArgs_plain (wpAny_mono hsp (fun vs s₂ ⟨fz₂, m₂, e₂, r₂⟩ => ?_) fun _ _ x => x))
  exact wpAny_mono (h fz₂ s₂ vs ((ok.mv m₁).mv m₂).base m₂.fh r₂) (fun v s₃ ⟨fz₃, m₃, e₃, r₃⟩ => ⟨fz₃, (m₁.trans m₂).trans m₃, (e₁.trans e₂).trans e₃, r₃⟩) fun _ _ x => x

-- methods of strs
theorem Ev.meth_str {o e : PySem.Expr} {es : List PySem.Expr} {name : Str} {apos pos : Pos} {id : String} {y : Str} {ds : List PyData} {d : PyData} (ho : Ev prog w A env ρ σ o (.str y)) (slot : Slot "str" name id) (hty : typeOf (.builtin id) = pure (.type "method_descriptor"))
    (h : ∀ fz s v vs, Base w fz → Inc fz s.heap → Rd fz v (.str y) → Rds fz vs ds → Tr prog w A (PySem.call (.builtin id) (v :: vs)) fz s (fun fz' v => Rd fz' v d))
    (hargs : Evs prog w A env ρ σ (e :: es) ds) (hbase : attributeBase o name env (eval o env) = eval o env := by rfl)
    (hfew : ((backTo pos (starEach (e :: es) env)).all (fun x => !x.1) && (backToKw pos (keywordEach [] env)).all (fun x => x.1.isSome)
      && decide ((e :: es).length + ([] : List Keyword).length + (if ([] : List Keyword).isEmpty then 0 else 1) < 30)) = true := by rfl)
    (hline : (apos.endLine == pos.line) = true := by rfl) (hplain : (backTo pos (starEach (e :: es) env)).any (·.1) = false := by rfl) :
    Ev prog w A env ρ σ (.Call (.Attribute o name apos) (e :: es) [] pos) d := fun fz s ok => by
  refine wpAny_Call_method_lateS hbase hfew hline (wpAny_mono (ho fz s ok) (fun v s₁ ⟨fz₁, m₁, e₁, r₁⟩ => ?_) fun _ _ x => x)
  obtain ⟨t, rfl⟩ := r₁.str_inv
  refine ⟨"str", id, PySem.F.plainAttrs_str, slot, hty, typeIs_str _ _ _, fun a ha => (nomatch ha), ?_⟩
  have hst : isStarred e = false := by cases hargs; assumption
  have hsp := hargs.spliced (pos := pos) fz₁ s₁ (ok.mv m₁)
  refine Calls.callWith_builtin hplain ?_
  rw [backTo_plain hst] at hsp ⊢
  refine Calls.evalArgs_plain (wpAny_mono hsp (fun vs s₂ ⟨fz₂, m₂, e₂, r₂⟩ => ?_) fun _ _ x => x)
  exact wpAny_mono (h fz₂ s₂ _ vs ((ok.mv m₁).mv m₂).base m₂.fh (r₁.up m₂.ff) r₂) (fun v s₃ ⟨fz₃, m₃, e₃, r₃⟩ => ⟨fz₃, (m₁.trans m₂).trans m₃, (e₁.trans e₂).trans e₃, r₃⟩) fun _ _ x => x
end
end Mine
set_option maxRecDepth 100000
namespace Mine
theorem ns_of_obj {h : Heap} {a : Addr} {o : Obj} {es : Array DictEntry} {n : Nat} (ho : h.get? a = some o) (hd : o.data = .dict es n) (hk : (es.all fun e => match e.key with | .str _ _ => true | _ => false) = true) : h.Ns a (nsFind es) := by
  refine ⟨o, es, n, ho, hd, fun e he => ?_, fun _ => rfl⟩
  have := Array.all_eq_true_iff_forall_mem.mp hk e he
  split at this
  · exact ⟨_, _, by assumption⟩
  · cases this

noncomputable def gdict (P : Params) : Array DictEntry := match (hd.heap_39 P).lookup 3 with | some ⟨_, _, .dict es _, _⟩ => es | _ => #[]
theorem gdict_at (P : Params) : (hd.heap_39 P).lookup 3 = some { cls := .type "dict", data := .dict (gdict P) 23 } := by kernel_rfl
theorem gdict_keys (P : Params) : ((gdict P).all fun e => match e.key with | .str _ _ => true | _ => false) = true := by kernel_rfl
theorem glo_of {w : World} {x : Str} {v : Value} (h : nsFind (gdict w.params) x = some v) : Glo w x v := fun _ B =>
  ⟨_, ns_of_obj (B.k _ _ (gdict_at _)) rfl (gdict_keys _), h⟩
theorem blt_of {w : World} {x : Str} {v : Value} (h : nsFind (gdict w.params) x = none) (hb : bootBuiltins x = some v) (hx : x ≠ "__name__") : Blt w x v := fun _ B => by
  obtain ⟨mb, hn, hm⟩ := B.b
  exact ⟨_, mb, ns_of_obj (B.k _ _ (gdict_at _)) rfl (gdict_keys _), h, hn, (hm x hx).trans hb⟩
theorem glo_quote {w : World} : Glo w "quote" (.ref 51) := glo_of (by kernel_rfl)
theorem glo_find {w : World} : Glo w "_find_unsafe" (.ref 44) := glo_of (by kernel_rfl)
theorem glo_join {w : World} : Glo w "join" (.ref 43) := glo_of (by kernel_rfl)
theorem glo_move {w : World} : Glo w "_law_move" (.ref 56) := glo_of (by kernel_rfl)
theorem glo_read {w : World} : Glo w "_law_read" (.ref 63) := glo_of (by kernel_rfl)
theorem glo_both {w : World} : Glo w "_law_both" (.ref 68) := glo_of (by kernel_rfl)
theorem glo_quoted {w : World} : Glo w "_law_quoted" (.ref 73) := glo_of (by kernel_rfl)
theorem glo_joined {w : World} : Glo w "_law_joined" (.ref 80) := glo_of (by kernel_rfl)
theorem glo_sign {w : World} : Glo w "_law_sign" (.ref 87) := glo_of (by kernel_rfl)
theorem glo_done {w : World} : Glo w "_law_done" (.ref 94) := glo_of (by kernel_rfl)
theorem glo_told {w : World} : Glo w "_law_told" (.ref 101) := glo_of (by kernel_rfl)
theorem blt_chr {w : World} : Blt w "chr" (.builtin "chr") := blt_of (by kernel_rfl) (by kernel_rfl) (by decide)
theorem blt_len {w : World} : Blt w "len" (.builtin "len") := blt_of (by kernel_rfl) (by kernel_rfl) (by decide)
theorem blt_sum {w : World} : Blt w "sum" (.builtin "sum") := blt_of (by kernel_rfl) (by kernel_rfl) (by decide)
theorem blt_list {w : World} : Blt w "list" (.type "list") := blt_of (by kernel_rfl) (by kernel_rfl) (by decide)

end Mine
namespace Mine

theorem ns_unique {h : Heap} {a : Addr} {m m' : Str → Option Value} (x : h.Ns a m) (y : h.Ns a m') : m = m' := by
  obtain ⟨o, es, n, ho, hd, _, hm⟩ := x
  funext z
  rw [ns_at y ho hd z, hm z]

def ownAt (μ : Option (Str × List PyData)) (m : Str → Option Value) (b : Addr) : Bool := match μ with | some (x, _) => decide (m x = some (.ref b)) | none => false

/-- where a function's body stands: fz₀ and kp are what it must keep, ρ its locals, σ its cells, μ one list of its own that it fills -/
structure At (w : World) (fz₀ kp : Heap) (env : Env) (ρ σ : List (Str × PyData)) (μ : Option (Str × List PyData)) (fz h : Heap) : Prop where
  ok : EOk w env ρ σ fz h
  mv : Mv fz₀ kp fz h
  new : kp.get? env.locals = none
  own : ∀ x ds, μ = some (x, ds) → ∃ r vs, (∃ m, h.Ns env.locals m ∧ m x = some (.ref r)) ∧ h.PlainList r vs.toArray ∧ Rds fz vs ds ∧ fz.get? r = none ∧ kp.get? r = none ∧ r ≠ env.locals

section
variable {w : World} {fz₀ kp fz fz' h h' : Heap} {env : Env} {ρ ρ' σ σ' : List (Str × PyData)} {μ : Option (Str × List PyData)}

theorem EOk.weaken (x : EOk w env ρ σ fz h) (hρ : ∀ y d, ρ'.lookup y = some d → ρ.lookup y = some d) (hσ : ∀ y d, σ'.lookup y = some d → σ.lookup y = some d) : EOk w env ρ' σ' fz h :=
  { x with loc := let ⟨m, a, b⟩ := x.loc; ⟨m, a, fun y d e => b y d (hρ y d e)⟩, cel := fun y d e => x.cel y d (hσ y d e) }
theorem At.weaken (x : At w fz₀ kp env ρ σ μ fz h) (hρ : ∀ y d, ρ'.lookup y = some d → ρ.lookup y = some d) (hσ : ∀ y d, σ'.lookup y = some d → σ.lookup y = some d) : At w fz₀ kp env ρ' σ' μ fz h :=
  { x with ok := x.ok.weaken hρ hσ }
theorem At.drop (x : At w fz₀ kp env ρ σ μ fz h) : At w fz₀ kp env ρ σ none fz h := { x with own := fun _ _ e => nomatch e }
theorem At.step (x : At w fz₀ kp env ρ σ μ fz h) (k : Mv fz h fz' h') : At w fz₀ kp env ρ σ μ fz' h' where
  ok := x.ok.mv k
  mv := x.mv.trans k
  new := x.new
  own := fun y ds e => by
    obtain ⟨r, vs, ⟨m, hn, hm⟩, hl, rd, h1, h2, h3⟩ := x.own y ds e
    refine ⟨r, vs, ⟨m, hn.keeps k.hh, hm⟩, hl.at fun o e => k.hh _ _ e, rd.up k.ff, ?_, h2, h3⟩
    obtain ⟨n, ho⟩ := hl
    exact k.old r _ ho h1

/-- other addresses changed: the heap h' keeps all but those of X -/
theorem At.but (x : At w fz₀ kp env ρ σ μ fz h) {X : List Addr} (hk : ∀ b o, b ∉ X → h.get? b = some o → h'.get? b = some o) (hL : env.locals ∉ X) (hf : ∀ b ∈ X, fz.get? b = none) (hp : ∀ b ∈ X, kp.get? b = none)
    (hc : ∀ b ∈ X, ∀ v, ¬ h.IsCell b v) (hl : ∀ b ∈ X, ∀ vs, ¬ h.IsList b vs) : At w fz₀ kp env ρ σ μ fz h' where
  ok := { x.ok with
    inc := fun b o e => hk b o (fun hb => by rw [hf b hb] at e; cases e) (x.ok.inc b o e)
    loc := let ⟨m, a, b⟩ := x.ok.loc; ⟨m, a.at' fun o e => hk _ o hL e, b⟩
    cel := fun y d e => by
      obtain ⟨c, v, p, q, r⟩ := x.ok.cel y d e
      refine ⟨c, v, p, ?_, r⟩
      obtain ⟨o, ho, hd⟩ := id q
      exact ⟨o, hk c o (fun hb => hc c hb _ q) ho, hd⟩ }
  mv := ⟨x.mv.ff, fun b o e => hk b o (fun hb => by rw [hp b hb] at e; cases e) (x.mv.hh b o e), fun b o e => hk b o (fun hb => by rw [hf b hb] at e; cases e) (x.mv.fh b o e), x.mv.old⟩
  new := x.new
  own := fun y ds e => by
    obtain ⟨r, vs, ⟨m, hn, hm⟩, hl', rd, h1, h2, h3⟩ := x.own y ds e
    refine ⟨r, vs, ⟨m, hn.at' fun o e => hk _ o hL e, hm⟩, ?_, rd, h1, h2, h3⟩
    exact hl'.at fun o ho => hk r o (fun hb => hl r hb _ hl'.isList) ho

theorem not_cell_of_ns {a : Addr} {m : Str → Option Value} (hn : h.Ns a m) (v : Option Value) : ¬ h.IsCell a v := by
  rintro ⟨o, ho, hd⟩
  obtain ⟨o', es, n, ho', hd', _⟩ := hn
  rw [ho] at ho'; cases ho'; rw [hd] at hd'; cases hd'
theorem not_list_of_ns {a : Addr} {m : Str → Option Value} (hn : h.Ns a m) (vs : Array Value) : ¬ h.IsList a vs := by
  rintro ⟨o, ho, _, _, hd⟩
  obtain ⟨o', es, n, ho', hd', _⟩ := hn
  rw [ho] at ho'; cases ho'; rw [hd] at hd'; cases hd'
theorem not_cell_of_list {a : Addr} {vs : Array Value} (hn : h.IsList a vs) (v : Option Value) : ¬ h.IsCell a v := by
  rintro ⟨o, ho, hd⟩
  obtain ⟨o', ho', _, _, hd'⟩ := hn
  rw [ho] at ho'; cases ho'; rw [hd] at hd'; cases hd'

/-- a local is stored -/
theorem At.store (x : At w fz₀ kp env ρ σ μ fz h) {y : Str} {v : Value} {d : PyData} {m' : Str → Option Value} (hs : Heap.SameBut env.locals h h') (hm' : ∀ m, h.Ns env.locals m → m' = fun z => if z = y then some v else m z)
    (hn' : h'.Ns env.locals m') (rd : Rd fz v d) (hμ : ∀ ds, μ ≠ some (y, ds)) : At w fz₀ kp env ((y, d) :: ρ) σ μ fz h' := by
  obtain ⟨m, hn, hb⟩ := x.ok.loc
  have e' := hm' m hn
  subst e'
  have keep : ∀ b o, b ≠ env.locals → h.get? b = some o → h'.get? b = some o := fun b o hb e => (hs.2 b hb).trans e
  refine ⟨{ x.ok with inc := fun b o e => keep b o (fun hb => by rw [hb, x.ok.hid] at e; cases e) (x.ok.inc b o e), loc := ⟨_, hn', fun z d' e => ?_⟩, cel := fun z d' e => ?_ },
    ⟨x.mv.ff, fun b o e => keep b o (fun hb => by rw [hb, x.new] at e; cases e) (x.mv.hh b o e), fun b o e => keep b o (fun hb => by rw [hb, x.ok.hid] at e; cases e) (x.mv.fh b o e), x.mv.old⟩, x.new, fun z ds e => ?_⟩
  · rw [List.lookup_cons] at e
    by_cases hz : z = y
    · subst hz
      simp at e
      subst e
      exact ⟨v, by simp, rd⟩
    · have hz' : (z == y) = false := beq_eq_false_iff_ne.mpr hz
      simp only [hz'] at e
      obtain ⟨u, p, q⟩ := hb z d' e
      exact ⟨u, by simp [hz, p], q⟩
  · obtain ⟨c, u, p, q, r⟩ := x.ok.cel z d' e
    refine ⟨c, u, p, ?_, r⟩
    have hc : c ≠ env.locals := fun e => not_cell_of_ns hn _ (e ▸ q)
    obtain ⟨o, ho, hd⟩ := q
    exact ⟨o, keep c o hc ho, hd⟩
  · obtain ⟨r, vs, ⟨m₁, hn₁, hm₁⟩, hl, rd', h1, h2, h3⟩ := x.own z ds e
    rw [ns_unique hn₁ hn] at hm₁
    refine ⟨r, vs, ⟨_, hn', ?_⟩, ?_, rd', h1, h2, h3⟩
    · have : z ≠ y := fun hz => hμ ds (by rw [e, hz])
      simp [this, hm₁]
    · exact hl.at fun o ho => keep r o h3 ho

/-- the own list is frozen -/
theorem At.freeze {x : Str} {ds : List PyData} (a : At w fz₀ kp env ρ σ (some (x, ds)) fz h) : ∃ fz', Inc fz fz' ∧ At w fz₀ kp env ((x, .list ds) :: ρ) σ none fz' h := by
  obtain ⟨r, vs, ⟨m, hn, hm⟩, hl, rd, h1, h2, h3⟩ := a.own x ds rfl
  obtain ⟨fz', f1, f2, f3, f4⟩ := Mine.freeze (r := r) a.ok.inc
  refine ⟨fz', f1, ⟨{ a.ok with base := a.ok.base.up f1, inc := f2, loc := ⟨m, hn, fun z d e => ?_⟩, cel := fun z d e => ?_, hid := f4 _ (Ne.symm h3) a.ok.hid }, ⟨a.mv.ff.trans f1, a.mv.hh, f2, fun b o e e' => ?_⟩, a.new, fun _ _ e => nomatch e⟩⟩
  · rw [List.lookup_cons] at e
    by_cases hz : z = x
    · subst hz
      simp at e
      subst e
      refine ⟨_, hm, Rd.list ?_ (rd.up f1)⟩
      obtain ⟨o, ho, hd⟩ := hl.isList
      exact ⟨o, f3.trans ho, hd⟩
    · have hz' : (z == x) = false := beq_eq_false_iff_ne.mpr hz
      simp only [hz'] at e
      obtain ⟨m', hn', hb⟩ := a.ok.loc
      obtain ⟨u, p, q⟩ := hb z d e
      rw [ns_unique hn' hn] at p
      exact ⟨u, p, q.up f1⟩
  · obtain ⟨c, v, p, q, rr⟩ := a.ok.cel z d e
    exact ⟨c, v, p, q, rr.up f1⟩
  · refine f4 b (fun hb => ?_) (a.mv.old b o e e')
    subst hb
    rw [h2] at e; cases e

/-- the same place, seen from here: all but the frame and the own list is to be kept -/
theorem At.here (a : At w fz₀ kp env ρ σ μ fz h) : ∃ kp₁, At w fz kp₁ env ρ σ μ fz h ∧ (∀ b o, h.get? b = some o → b ≠ env.locals → (∀ x ds r m, μ = some (x, ds) → h.Ns env.locals m → m x = some (.ref r) → b ≠ r) → kp₁.get? b = some o) ∧
    (∀ ρ' σ' μ' fz' h', At w fz kp₁ env ρ' σ' μ' fz' h' → At w fz₀ kp env ρ' σ' μ' fz' h') := by
  obtain ⟨m, hn, hb⟩ := a.ok.loc
  have own_none : ∀ b, ownAt μ m b = true → kp.get? b = none ∧ fz.get? b = none := fun b hb => by
    cases e : μ with
    | none => simp [ownAt, e] at hb
    | some p =>
      obtain ⟨x, ds⟩ := p
      simp only [ownAt, e, decide_eq_true_eq] at hb
      obtain ⟨r, vs, ⟨m₁, hn₁, hm₁⟩, hl, rd, h1, h2, h3⟩ := a.own x ds e
      rw [ns_unique hn₁ hn, hb] at hm₁
      cases hm₁
      exact ⟨h2, h1⟩
  have kin : Inc kp (cut h fun b => decide (b ≠ env.locals) && !(ownAt μ m b)) := fun b o e => by
    rw [cut_get]
    have h1 : b ≠ env.locals := fun hb => by rw [hb, a.new] at e; cases e
    have h2 : ownAt μ m b = false := by
      cases hc : ownAt μ m b with
      | false => rfl
      | true => rw [(own_none b hc).1] at e; cases e
    simp only [h1, ne_eq, not_false_eq_true, decide_true, h2, Bool.not_false, Bool.and_self, if_true]
    exact a.mv.hh b o e
  refine ⟨cut h fun b => decide (b ≠ env.locals) && !(ownAt μ m b), ⟨a.ok, ⟨.refl _, fun b o e => ?_, a.ok.inc, fun _ _ _ e => e⟩, ?_, fun x ds e => ?_⟩, fun b o e hb hr => ?_, fun ρ' σ' μ' fz' h' a' => ⟨a'.ok, ⟨a.mv.ff.trans a'.mv.ff, kin.trans a'.mv.hh, a'.mv.fh, fun b o e e' => ?_⟩, a.new, fun x ds e => ?_⟩⟩
  · rw [cut_get] at e; split at e
    · exact e
    · cases e
  · rw [cut_get]; simp
  · obtain ⟨r, vs, ⟨m₁, hn₁, hm₁⟩, hl, rd, h1, h2, h3⟩ := a.own x ds e
    refine ⟨r, vs, ⟨m₁, hn₁, hm₁⟩, hl, rd, h1, ?_, h3⟩
    rw [ns_unique hn₁ hn] at hm₁
    rw [cut_get]
    have : ownAt μ m r = true := by simp [ownAt, e, hm₁]
    simp [this]
  · rw [cut_get]
    have h2 : ownAt μ m b = false := by
      cases hc : ownAt μ m b with
      | false => rfl
      | true =>
        cases e : μ with
        | none => simp [ownAt, e] at hc
        | some p =>
          obtain ⟨x, ds⟩ := p
          simp only [ownAt, e, decide_eq_true_eq] at hc
          exact absurd rfl (hr x ds b m e hn hc)
    simp only [hb, ne_eq, not_false_eq_true, decide_true, h2, Bool.not_false, Bool.and_self, if_true]
    exact e
  · exact a'.mv.old b o (kin b o e) (a.mv.old b o e e')
  · obtain ⟨r, vs, ⟨m₁, hn₁, hm₁⟩, hl, rd, h1, h2, h3⟩ := a'.own x ds e
    refine ⟨r, vs, ⟨m₁, hn₁, hm₁⟩, hl, rd, h1, ?_, h3⟩
    cases e' : kp.get? r with
    | none => rfl
    | some o => rw [kin _ _ e'] at h2; cases h2
end

/-- a body that hands back d -/
def Bd (prog : Program) (w : World) (A : Around) (env : Env) (body : List Stmt) (d : PyData) (ρ σ : List (Str × PyData)) (μ : Option (Str × List PyData)) : Prop :=
  ∀ fz₀ kp fz s, At w fz₀ kp env ρ σ μ fz s.heap → wpAny (model prog w) A (execs body env) (fun f s' => ∃ v fz', f = .ret v ∧ Mv fz₀ kp fz' s'.heap ∧ Same s s' ∧ Rd fz' v d) Nope s
/-- statements that go on -/
def Sx (prog : Program) (w : World) (A : Around) (env : Env) (body : List Stmt) (ρ σ : List (Str × PyData)) (μ : Option (Str × List PyData)) (ρ' σ' : List (Str × PyData)) (μ' : Option (Str × List PyData)) : Prop :=
  ∀ fz₀ kp fz s, At w fz₀ kp env ρ σ μ fz s.heap → wpAny (model prog w) A (execs body env) (fun f s' => f = .next ∧ ∃ fz', At w fz₀ kp env ρ' σ' μ' fz' s'.heap ∧ Same s s' ∧ Inc fz fz') Nope s
def S1 (prog : Program) (w : World) (A : Around) (env : Env) (st : Stmt) (ρ σ : List (Str × PyData)) (μ : Option (Str × List PyData)) (ρ' σ' : List (Str × PyData)) (μ' : Option (Str × List PyData)) : Prop :=
  ∀ fz₀ kp fz s, At w fz₀ kp env ρ σ μ fz s.heap → wpAny (model prog w) A (exec st env) (fun f s' => f = .next ∧ ∃ fz', At w fz₀ kp env ρ' σ' μ' fz' s'.heap ∧ Same s s' ∧ Inc fz fz') Nope s

section
variable {prog : Program} {w : World} {A : Around} {env : Env} {ρ σ ρ' σ' ρ'' σ'' : List (Str × PyData)} {μ μ' μ'' : Option (Str × List PyData)} {d : PyData}

theorem Bd.cons {st : Stmt} {rest : List Stmt} (h : S1 prog w A env st ρ σ μ ρ' σ' μ') (k : Bd prog w A env rest d ρ' σ' μ') : Bd prog w A env (st :: rest) d ρ σ μ := fun fz₀ kp fz s a =>
  wpAny_execs_cons (wpAny_mono (h fz₀ kp fz s a) (fun f s₁ ⟨hf, fz₁, a₁, e₁, _⟩ => by
    subst hf
    exact wpAny_mono (k fz₀ kp fz₁ s₁ a₁) (fun f s₂ ⟨v, fz₂, q1, q2, q3, q4⟩ => ⟨v, fz₂, q1, q2, e₁.trans q3, q4⟩) fun _ _ x => x) fun _ _ x => x)
theorem Sx.nil : Sx prog w A env [] ρ σ μ ρ σ μ := fun _ _ fz s a => wpAny_execs_nil ⟨rfl, fz, a, .refl s, .refl _⟩
theorem Sx.cons {st : Stmt} {rest : List Stmt} (h : S1 prog w A env st ρ σ μ ρ' σ' μ') (k : Sx prog w A env rest ρ' σ' μ' ρ'' σ'' μ'') : Sx prog w A env (st :: rest) ρ σ μ ρ'' σ'' μ'' := fun fz₀ kp fz s a =>
  wpAny_execs_cons (wpAny_mono (h fz₀ kp fz s a) (fun f s₁ ⟨hf, fz₁, a₁, e₁, i₁⟩ => by
    subst hf
    exact wpAny_mono (k fz₀ kp fz₁ s₁ a₁) (fun f s₂ ⟨q1, fz₂, q2, q3, i₂⟩ => ⟨q1, fz₂, q2, e₁.trans q3, i₁.trans i₂⟩) fun _ _ x => x) fun _ _ x => x)
theorem Sx.weaken {body : List Stmt} (h : Sx prog w A env body ρ σ μ ρ' σ' μ') (hρ : ∀ y d, ρ''.lookup y = some d → ρ'.lookup y = some d) : Sx prog w A env body ρ σ μ ρ'' σ' μ' := fun fz₀ kp fz s a =>
  wpAny_mono (h fz₀ kp fz s a) (fun _ _ ⟨q1, fz₂, q2, q3, q4⟩ => ⟨q1, fz₂, q2.weaken hρ (fun _ _ e => e), q3, q4⟩) fun _ _ x => x

theorem Bd.ret {e : PySem.Expr} {pos : Pos} {rest : List Stmt} (h : Ev prog w A env ρ σ e d) : Bd prog w A env (.Return (some e) pos :: rest) d ρ σ μ := fun fz₀ kp fz s a =>
  wpAny_execs_cons (wpAny_Return_some (wpAny_mono (h fz s a.ok) (fun v s₁ ⟨fz₁, m₁, e₁, r₁⟩ => ⟨v, fz₁, rfl, a.mv.trans m₁, e₁, r₁⟩) fun _ _ x => x))
theorem Bd.frozen {x : Str} {ds : List PyData} {body : List Stmt} (h : Bd prog w A env body d ((x, .list ds) :: ρ) σ none) : Bd prog w A env body d ρ σ (some (x, ds)) := fun fz₀ kp fz s a => by
  obtain ⟨fz', _, a'⟩ := a.freeze
  exact h fz₀ kp fz' s a'
theorem Bd.ifret {t : PySem.Expr} {b : Bool} {body rest : List Stmt} {pos : Pos} (ht : Ts prog w A env ρ σ t b) (h₁ : b = true → Bd prog w A env body d ρ σ μ) (h₂ : b = false → Bd prog w A env rest d ρ σ μ) :
    Bd prog w A env (.If t body [] pos :: rest) d ρ σ μ := fun fz₀ kp fz s a => by
  refine wpAny_execs_cons (wpAny_If (wpAny_mono (ht fz s a.ok) (fun c s₁ ⟨fz₁, m₁, e₁, r₁⟩ => ?_) fun _ _ x => x))
  subst r₁
  cases c with
  | true =>
    refine wpAny_mono (h₁ rfl fz₀ kp fz₁ s₁ (a.step m₁)) (fun f s₂ ⟨v, fz₂, q1, q2, q3, q4⟩ => ?_) fun _ _ x => x
    subst q1
    exact ⟨v, fz₂, rfl, q2, e₁.trans q3, q4⟩
  | false =>
    refine wpAny_execs_nil ?_
    exact wpAny_mono (h₂ rfl fz₀ kp fz₁ s₁ (a.step m₁)) (fun f s₂ ⟨v, fz₂, q1, q2, q3, q4⟩ => ⟨v, fz₂, q1, q2, e₁.trans q3, q4⟩) fun _ _ x => x

theorem wp_store {fz₀ kp fz : Heap} {s : Shared} {x : Str} {v : Value} {d : PyData} (a : At w fz₀ kp env ρ σ μ fz s.heap) (hk : env.kindOf x = some .local) (rd : Rd fz v d) (hμ : ∀ ds, μ ≠ some (x, ds)) :
    wpAny (model prog w) A (storeName env x v) (fun _ s' => At w fz₀ kp env ((x, d) :: ρ) σ μ fz s'.heap ∧ Same s s') Nope s := by
  obtain ⟨m, hn, hb⟩ := a.ok.loc
  refine wpAny_storeName_local hk hn (fun h' hn' hs => ⟨a.store hs (fun m₁ hm₁ => by rw [ns_unique hm₁ hn]) hn' rd hμ, ⟨rfl, rfl⟩⟩) (by rw [a.ok.kind]; rfl)

theorem S1.assign {x : Str} {p pos : Pos} {e : PySem.Expr} (h : Ev prog w A env ρ σ e d) (hμ : ∀ ds, μ ≠ some (x, ds)) (hk : env.kindOf x = some .local := by rfl)
    (hs : swapsWith e (some (.Name x p)) pos.line env = pure false := by rfl) : S1 prog w A env (.Assign [.Name x p] e pos) ρ σ μ ((x, d) :: ρ) σ μ := fun fz₀ kp fz s a => by
  refine wpAny_Assign_Name (wpAny_mono (h fz s a.ok) (fun v s₁ ⟨fz₁, m₁, e₁, r₁⟩ => ?_) fun _ _ x => x) hs
  exact wpAny_mono (wp_store (a.step m₁) hk r₁ hμ) (fun _ s₂ ⟨q1, q2⟩ => ⟨rfl, fz₁, q1, e₁.trans q2, m₁.ff⟩) fun _ _ x => x
end
end Mine
set_option maxRecDepth 100000
namespace Mine
noncomputable def objOf (w : World) (f : Addr) : Obj := ((hd.heap_39 w.params).lookup f).getD { cls := .none }
noncomputable def fdOf (w : World) (f : Addr) : FuncData := match (objOf w f).data with | .func fd => fd | _ => default
noncomputable def bodyOf (w : World) (f : Addr) : List Stmt := match (fdOf w f).body with | .stmts b => b | _ => []

structure Fn (w : World) (f : Addr) : Prop where
  at_ : (hd.heap_39 w.params).lookup f = some (objOf w f)
  data : (objOf w f).data = .func (fdOf w f)
  body : (fdOf w f).body = .stmts (bodyOf w f)
  clo : (fdOf w f).closure = []
  co : (fdOf w f).scope.isCoroutine = false
  gen : (fdOf w f).scope.isGenerator = false
  kind : (fdOf w f).scope.kind = .function
  gl : (fdOf w f).globals = mainGlobals
  bi : (fdOf w f).builtins = builtinsNs
  code : ∀ h, Base w h → h.CodeRec (fdOf w f).code (fdOf w f).qualname

theorem codeRec {w : World} {c : Addr} {q : Str} {t : Tok} {o : Obj} {vs : Array Value} (h1 : (hd.heap_39 w.params).lookup c = some o) (h2 : o.data = .fields vs) (h3 : vs[1]? = some (.str q t)) : ∀ h, Base w h → h.CodeRec (.ref c) q :=
  fun _ B => ⟨c, o, vs, t, rfl, B.k _ _ h1, h2, h3⟩

noncomputable def fieldsAt (w : World) (c : Addr) : Array Value := match (objOf w c).data with | .fields vs => vs | _ => #[]
noncomputable def tokAt (w : World) (c : Addr) : Tok := match ((fieldsAt w c).getD 1 Value.none : Value) with | Value.str _ t => t | _ => 0
theorem fn_of {w : World} {f c : Addr} (h1 : (hd.heap_39 w.params).lookup f = some (objOf w f)) (h2 : (objOf w f).data = .func (fdOf w f)) (h3 : (fdOf w f).body = .stmts (bodyOf w f))
    (h4 : ((fdOf w f).closure = [] ∧ (fdOf w f).scope.isCoroutine = false ∧ (fdOf w f).scope.isGenerator = false ∧ (fdOf w f).scope.kind = .function ∧ (fdOf w f).globals = mainGlobals ∧ (fdOf w f).builtins = builtinsNs))
    (h5 : (hd.heap_39 w.params).lookup c = some (objOf w c)) (h6 : (objOf w c).data = .fields (fieldsAt w c)) (h7 : (fieldsAt w c)[1]? = some (.str (fdOf w f).qualname (tokAt w c))) (h8 : (fdOf w f).code = .ref c) : Fn w f :=
  ⟨h1, h2, h3, h4.1, h4.2.1, h4.2.2.1, h4.2.2.2.1, h4.2.2.2.2.1, h4.2.2.2.2.2, by rw [h8]; exact codeRec h5 h6 h7⟩

theorem fn_quote {w : World} : Fn w 51 := fn_of (c := 50) (by kernel_rfl) (by kernel_rfl) (by kernel_rfl) ⟨by kernel_rfl, by kernel_rfl, by kernel_rfl, by kernel_rfl, by kernel_rfl, by kernel_rfl⟩ (by kernel_rfl) (by kernel_rfl) (by kernel_rfl) (by kernel_rfl)
theorem fn_move {w : World} : Fn w 56 := fn_of (c := 55) (by kernel_rfl) (by kernel_rfl) (by kernel_rfl) ⟨by kernel_rfl, by kernel_rfl, by kernel_rfl, by kernel_rfl, by kernel_rfl, by kernel_rfl⟩ (by kernel_rfl) (by kernel_rfl) (by kernel_rfl) (by kernel_rfl)
theorem fn_read {w : World} : Fn w 63 := fn_of (c := 62) (by kernel_rfl) (by kernel_rfl) (by kernel_rfl) ⟨by kernel_rfl, by kernel_rfl, by kernel_rfl, by kernel_rfl, by kernel_rfl, by kernel_rfl⟩ (by kernel_rfl) (by kernel_rfl) (by kernel_rfl) (by kernel_rfl)
theorem fn_both {w : World} : Fn w 68 := fn_of (c := 67) (by kernel_rfl) (by kernel_rfl) (by kernel_rfl) ⟨by kernel_rfl, by kernel_rfl, by kernel_rfl, by kernel_rfl, by kernel_rfl, by kernel_rfl⟩ (by kernel_rfl) (by kernel_rfl) (by kernel_rfl) (by kernel_rfl)
theorem fn_quoted {w : World} : Fn w 73 := fn_of (c := 72) (by kernel_rfl) (by kernel_rfl) (by kernel_rfl) ⟨by kernel_rfl, by kernel_rfl, by kernel_rfl, by kernel_rfl, by kernel_rfl, by kernel_rfl⟩ (by kernel_rfl) (by kernel_rfl) (by kernel_rfl) (by kernel_rfl)
theorem fn_joined {w : World} : Fn w 80 := fn_of (c := 79) (by kernel_rfl) (by kernel_rfl) (by kernel_rfl) ⟨by kernel_rfl, by kernel_rfl, by kernel_rfl, by kernel_rfl, by kernel_rfl, by kernel_rfl⟩ (by kernel_rfl) (by kernel_rfl) (by kernel_rfl) (by kernel_rfl)
theorem fn_sign {w : World} : Fn w 87 := fn_of (c := 86) (by kernel_rfl) (by kernel_rfl) (by kernel_rfl) ⟨by kernel_rfl, by kernel_rfl, by kernel_rfl, by kernel_rfl, by kernel_rfl, by kernel_rfl⟩ (by kernel_rfl) (by kernel_rfl) (by kernel_rfl) (by kernel_rfl)
theorem fn_done {w : World} : Fn w 94 := fn_of (c := 93) (by kernel_rfl) (by kernel_rfl) (by kernel_rfl) ⟨by kernel_rfl, by kernel_rfl, by kernel_rfl, by kernel_rfl, by kernel_rfl, by kernel_rfl⟩ (by kernel_rfl) (by kernel_rfl) (by kernel_rfl) (by kernel_rfl)
theorem fn_told {w : World} : Fn w 101 := fn_of (c := 100) (by kernel_rfl) (by kernel_rfl) (by kernel_rfl) ⟨by kernel_rfl, by kernel_rfl, by kernel_rfl, by kernel_rfl, by kernel_rfl, by kernel_rfl⟩ (by kernel_rfl) (by kernel_rfl) (by kernel_rfl) (by kernel_rfl)
theorem fn_join {w : World} : Fn w 43 := fn_of (c := 42) (by kernel_rfl) (by kernel_rfl) (by kernel_rfl) ⟨by kernel_rfl, by kernel_rfl, by kernel_rfl, by kernel_rfl, by kernel_rfl, by kernel_rfl⟩ (by kernel_rfl) (by kernel_rfl) (by kernel_rfl) (by kernel_rfl)

theorem Fn.isDef {w : World} {f : Addr} (F : Fn w f) : IsDef w f := ⟨_, _, F.data, fun _ B => B.k _ _ F.at_⟩
noncomputable def envF (w : World) (f L : Addr) : Env := callEnvC (fdOf w f) L f

theorem Fn.nolimit {w : World} {h : Heap} (B : Base w h) : h.NoLimit := by
  refine ⟨_, ns_of_obj (B.k 2 (objOf w 2) (by kernel_rfl)) (es := match (objOf w 2).data with | .dict es _ => es | _ => #[]) (n := match (objOf w 2).data with | .dict _ n => n | _ => 0) (by kernel_rfl) (by kernel_rfl), by kernel_rfl⟩

section
variable {prog : Program} {w : World}
/-- the call is entered -/
theorem Fn.enter {f : Addr} {k : Nat} {ds : List PyData} {d : PyData} (F : Fn w f) (ps : List Str) (ρ σ : List (Str × PyData))
    (hbind : ∀ vs, vs.length = ds.length → bindArgs (fdOf w f) ⟨vs, []⟩ = pure (ps.zip vs))
    (hkind : ∀ vs : List Value, vs.length = ds.length → ∀ n, ∀ x ∈ ps.zip vs, (fdOf w f).scope.names.lookup x.1 = some .local ∨ ((fdOf w f).scope.names.lookup x.1 = some .cell ∧ ((cellsFrom n (fdOf w f).scope.names []).lookup x.1).isSome = true))
    (hρ : ∀ fz vs, Rds fz vs ds → ∀ L x d, ρ.lookup x = some d → ∃ v, bindL (envF w f L).kindOf (ps.zip vs) (fun _ => none) x = some v ∧ Rd fz v d)
    (hσ : ∀ fz vs, Rds fz vs ds → ∀ L x d, σ.lookup x = some d → ∃ c v, (envF w f L).cells.lookup x = some c ∧ bindC (envF w f L).kindOf (ps.zip vs) (fun _ => none) x = some v ∧ Rd fz v d)
    (h : ∀ A L, Room A k → Bd prog w A (envF w f L) (bodyOf w f) d ρ σ none) : Ct prog w f (k + 1) ds d := fun A fz s vs room B i r => by
  have B' := B.up i
  refine codeAny_call_cells (fd := fdOf w f) (body := bodyOf w f) (binds := ps.zip vs) room.lim (B'.k _ _ F.at_) F.data (Fn.nolimit B') (F.code _ B') F.body (hbind vs r.length) F.clo (hkind vs r.length _) (fun s₁ c => ?_) F.co F.gen F.kind
  have hs : ∃ h' tk, s₁ = { s with heap := h', toks := tk } := c.toInCall.same
  have a : At w fz s.heap (envF w f s.heap.objs.size) ρ σ none fz s₁.heap := by
    refine ⟨⟨B, i.trans c.toInCall.keep, F.kind, F.gl, F.bi, ⟨_, c.toInCall.ns, fun x d e => hρ fz vs r _ x d e⟩, fun x d e => ?_, ?_⟩, Mv.up i c.toInCall.keep, get_new _, fun _ _ e => nomatch e⟩
    · obtain ⟨cc, v, h1, h2, h3⟩ := hσ fz vs r _ x d e
      exact ⟨cc, v, h1, by have := c.cell x cc h1; exact (by rw [← h2]; exact this), h3⟩
    · cases e : fz.get? (envF w f s.heap.objs.size).locals with
      | none => rfl
      | some o => have := i _ _ e; rw [show (envF w f s.heap.objs.size).locals = s.heap.objs.size from rfl, get_new] at this; cases this
  refine wpAny_mono (h (A.deeper (envF w f s.heap.objs.size)) _ (room.deeper _) fz s.heap fz s₁ a) (fun fl s₂ ⟨v, fz', q1, q2, q3, q4⟩ => ?_) fun _ _ x => x.elim
  subst q1
  obtain ⟨h', tk, rfl⟩ := hs
  exact ⟨v, fz', rfl, q2, ⟨q3.os, q3.gens⟩, q4⟩

theorem Fn.enter1 {f : Addr} {k : Nat} {d1 d : PyData} (F : Fn w f) (x : Str) (hb : ∀ v, bindArgs (fdOf w f) ⟨[v], []⟩ = pure [(x, v)]) (hk : (fdOf w f).scope.names.lookup x = some .local)
    (h : ∀ A L, Room A k → Bd prog w A (envF w f L) (bodyOf w f) d [(x, d1)] [] none) : Ct prog w f (k + 1) [d1] d := by
  refine F.enter [x] [(x, d1)] [] (fun vs hl => ?_) (fun vs hl n y hy => ?_) (fun fz vs r L y e hy => ?_) (fun _ _ _ _ _ _ e => by cases e) h
  · match vs, hl with
    | [v], _ => exact hb v
  · match vs, hl with
    | [v], _ => simp at hy; subst hy; exact .inl hk
  · obtain ⟨v, vs', rfl, r1, r2⟩ := r.cons_inv
    rw [r2.nil_inv]
    rw [List.lookup_cons] at hy
    by_cases hx : y = x
    · subst hx
      simp at hy; subst hy
      refine ⟨v, ?_, r1⟩
      show bindL _ [(y, v)] _ y = _
      unfold bindL bindL
      rw [if_pos (show (envF w f L).kindOf y = some .local from hk)]; simp
    · have : (y == x) = false := beq_eq_false_iff_ne.mpr hx
      simp [this] at hy

theorem Fn.enter2 {f : Addr} {k : Nat} {d1 d2 d : PyData} (F : Fn w f) (x y : Str) (hxy : x ≠ y) (hb : ∀ u v, bindArgs (fdOf w f) ⟨[u, v], []⟩ = pure [(x, u), (y, v)]) (hk : (fdOf w f).scope.names.lookup x = some .local)
    (hk' : (fdOf w f).scope.names.lookup y = some .local) (h : ∀ A L, Room A k → Bd prog w A (envF w f L) (bodyOf w f) d [(x, d1), (y, d2)] [] none) : Ct prog w f (k + 1) [d1, d2] d := by
  refine F.enter [x, y] [(x, d1), (y, d2)] [] (fun vs hl => ?_) (fun vs hl n z hz => ?_) (fun fz vs r L z e hz => ?_) (fun _ _ _ _ _ _ e => by cases e) h
  · match vs, hl with
    | [u, v], _ => exact hb u v
  · match vs, hl with
    | [u, v], _ =>
      simp at hz
      rcases hz with rfl | rfl
      · exact .inl hk
      · exact .inl hk'
  · obtain ⟨u, vs', rfl, r1, r2⟩ := r.cons_inv
    obtain ⟨v, vs'', rfl, r3, r4⟩ := r2.cons_inv
    rw [r4.nil_inv]
    have hb2 : ∀ z, bindL (envF w f L).kindOf ([x, y].zip [u, v]) (fun _ => none) z = if z = y then some v else if z = x then some u else none := fun z => by
      show bindL _ [(x, u), (y, v)] _ z = _
      unfold bindL bindL bindL
      rw [if_pos (show (envF w f L).kindOf x = some .local from hk), if_pos (show (envF w f L).kindOf y = some .local from hk')]
    rw [hb2]
    rw [List.lookup_cons] at hz
    by_cases hx : z = x
    · subst hx
      simp at hz; subst hz
      exact ⟨u, by simp [hxy], r1⟩
    · have : (z == x) = false := beq_eq_false_iff_ne.mpr hx
      simp only [this] at hz
      rw [List.lookup_cons] at hz
      by_cases hy : z = y
      · subst hy
        simp at hz; subst hz
        exact ⟨v, by simp, r3⟩
      · have : (z == y) = false := beq_eq_false_iff_ne.mpr hy
        simp [this] at hz
end
end Mine
set_option maxRecDepth 100000
namespace Mine
section
variable {prog : Program} {w : World} {A : Around} {fz : Heap} {s : Shared}

theorem Rds.one {h : Heap} {vs : List Value} {d : PyData} (r : Rds h vs [d]) : ∃ v, vs = [v] ∧ Rd h v d := by
  obtain ⟨v, vs', rfl, a, b⟩ := r.cons_inv
  rw [b.nil_inv]; exact ⟨v, rfl, a⟩
theorem Rds.two {h : Heap} {vs : List Value} {d e : PyData} (r : Rds h vs [d, e]) : ∃ u v, vs = [u, v] ∧ Rd h u d ∧ Rd h v e := by
  obtain ⟨u, vs', rfl, a, b⟩ := r.cons_inv
  obtain ⟨v, rfl, c⟩ := b.one
  exact ⟨u, v, rfl, a, c⟩

theorem tr_chr {i : Int} {vs : List Value} (x : Inc fz s.heap) (r : Rds fz vs [.int i]) (h0 : 0 ≤ i) (h1 : i ≤ 0x10FFFF) : Tr prog w A (PySem.call (.builtin "chr") vs) fz s (fun fz' v => Rd fz' v (.str ⟨#[i.toNat]⟩)) := by
  obtain ⟨v, rfl, r'⟩ := r.one
  obtain ⟨t, rfl⟩ := r'.int_inv
  exact P.chr_of_int (by simp; omega) ⟨fz, .refl x, ⟨rfl, rfl⟩, .str⟩

/-- the sign of a number -/
def sgn (x : Int) : Nat := ([39, 34, 32, 97, ((x.fdiv 10).fmod 1114112).toNat] : List Nat).getD (x.fmod 10).toNat 0

theorem ct_sign {x : Int} (hx : x.fmod 10 < 5) : Ct prog w 87 1 [.int x] (.str ⟨#[sgn x]⟩) := by
  have h0 : 0 ≤ x.fmod 10 := Int.fmod_nonneg_of_pos x (by decide)
  have c0 : 0 ≤ (x.fdiv 10).fmod 1114112 := Int.fmod_nonneg_of_pos _ (by decide)
  have c1 : (x.fdiv 10).fmod 1114112 < 1114112 := Int.fmod_lt_of_pos _ (by decide)
  refine fn_sign.enter1 "x" (fun v => by kernel_rfl) (by kernel_rfl) fun A L room => ?_
  have ex : ∀ pos, Ev prog w A (envF w 87 L) [(Str.ofString "x", .int x)] [] (.Name "x" pos) (.int x) := fun pos => .loc (by rfl) (by kernel_rfl) (by decide)
  refine Bd.ret (Ev.item_str (y := "'\" a" ++ (⟨#[((x.fdiv 10).fmod 1114112).toNat]⟩ : Str)) (k := x.fmod 10) ?_ (.mod (ex _) .int (by decide)) ?_ ?_)
  · refine .add_str .str (.callb blt_chr (fun fz s vs _ i r => tr_chr i r c0 (by omega)) (.cons (.mod (.fdiv (ex _) .int (by decide) (by decide)) .int (by decide)) rfl .nil) (hk := by kernel_rfl)) (by show 4 + 1 ≤ sizeLine; decide)
  · simp; omega
  · generalize hk : x.fmod 10 = k at *
    obtain ⟨n, rfl⟩ := Int.eq_ofNat_of_zero_le h0
    have : n < 5 := by omega
    unfold sgn
    rw [hk]
    match n, this with
    | 0, _ => rfl
    | 1, _ => rfl
    | 2, _ => rfl
    | 3, _ => rfl
    | 4, _ => rfl
end
end Mine
set_option maxRecDepth 100000
namespace Mine

section
variable {w : World} {fz₀ kp fz fz' h h' : Heap} {env : Env} {ρ ρ' σ σ' : List (Str × PyData)}
theorem At.but0 (x : At w fz₀ kp env ρ σ none fz h) {X : List Addr} (hk : ∀ b o, b ∉ X → h.get? b = some o → h'.get? b = some o) (hL : env.locals ∉ X) (hf : ∀ b ∈ X, fz.get? b = none) (hp : ∀ b ∈ X, kp.get? b = none)
    (hc : ∀ b ∈ X, ∀ v, ¬ h.IsCell b v) : At w fz₀ kp env ρ σ none fz h' where
  ok := { x.ok with
    inc := fun b o e => hk b o (fun hb => by rw [hf b hb] at e; cases e) (x.ok.inc b o e)
    loc := let ⟨m, a, b⟩ := x.ok.loc; ⟨m, a.at' fun o e => hk _ o hL e, b⟩
    cel := fun y d e => by
      obtain ⟨c, v, p, q, r⟩ := x.ok.cel y d e
      refine ⟨c, v, p, ?_, r⟩
      obtain ⟨o, ho, hd⟩ := id q
      exact ⟨o, hk c o (fun hb => hc c hb _ q) ho, hd⟩ }
  mv := ⟨x.mv.ff, fun b o e => hk b o (fun hb => by rw [hp b hb] at e; cases e) (x.mv.hh b o e), fun b o e => hk b o (fun hb => by rw [hf b hb] at e; cases e) (x.mv.fh b o e), x.mv.old⟩
  new := x.new
  own := fun _ _ e => nomatch e

/-- a cell of its own is stored -/
theorem At.storeCell {μ : Option (Str × List PyData)} (x : At w fz₀ kp env ρ σ μ fz h) {y : Str} {c : Addr} {v : Value} {d : PyData} {v₀ : Option Value} (h0 : h.IsCell c v₀) (hs : Heap.SameBut c h h') (hc' : h'.IsCell c (some v)) (hy : env.cells.lookup y = some c)
    (rd : Rd fz v d) (hf : fz.get? c = none) (hp : kp.get? c = none) (hσ : ∀ z e c', σ.lookup z = some e → env.cells.lookup z = some c' → c' ≠ c) : At w fz₀ kp env ρ ((y, d) :: σ) μ fz h' := by
  have keep : ∀ b o, b ≠ c → h.get? b = some o → h'.get? b = some o := fun b o hb e => (hs.2 b hb).trans e
  obtain ⟨m, hn, hb⟩ := x.ok.loc
  have hcL : env.locals ≠ c := fun e => not_cell_of_ns hn _ (e ▸ h0)
  refine ⟨{ x.ok with inc := fun b o e => keep b o (fun hb => by rw [hb, hf] at e; cases e) (x.ok.inc b o e), loc := ⟨m, hn.at' fun o e => keep _ o hcL e, hb⟩, cel := fun z e' e => ?_ },
    ⟨x.mv.ff, fun b o e => keep b o (fun hb => by rw [hb, hp] at e; cases e) (x.mv.hh b o e), fun b o e => keep b o (fun hb => by rw [hb, hf] at e; cases e) (x.mv.fh b o e), x.mv.old⟩, x.new, fun z ds e => ?_⟩
  · rw [List.lookup_cons] at e
    by_cases hz : z = y
    · subst hz
      simp at e
      subst e
      exact ⟨c, v, hy, hc', rd⟩
    · have hz' : (z == y) = false := beq_eq_false_iff_ne.mpr hz
      simp only [hz'] at e
      obtain ⟨c', u, p, q, r⟩ := x.ok.cel z e' e
      refine ⟨c', u, p, ?_, r⟩
      obtain ⟨o, ho, hd⟩ := q
      exact ⟨o, keep c' o (hσ z e' c' e p) ho, hd⟩
  · obtain ⟨r, vs, ⟨m₁, hn₁, hm₁⟩, hl, rd', h1, h2, h3⟩ := x.own z ds e
    refine ⟨r, vs, ⟨m₁, hn₁.at' fun o e => keep _ o hcL e, hm₁⟩, ?_, rd', h1, h2, h3⟩
    have : r ≠ c := fun e => not_cell_of_list hl.isList _ (e ▸ h0)
    exact hl.at fun o ho => keep r o this ho
end

section
variable {prog : Program} {w : World} {A : Around} {env : Env} {ρ σ ρ' σ' : List (Str × PyData)} {μ : Option (Str × List PyData)} {s : Shared} {E : Value → Shared → Prop}

theorem draw_list {it l : Addr} {items : Array Value} (hne : l ≠ it) : ∀ (n i : Nat) (s : Shared) (Q : List Value → Shared → Prop), s.heap.IsListIter it l i → s.heap.IsList l items → i + n ≤ items.size →
    (∀ h', h'.IsListIter it l (i + n) → Heap.SameBut it s.heap h' → Q ((items.toList.drop i).take n) { s with heap := h' }) → wpAny (model prog w) A (draw (.ref it) n) Q E s
  | 0, i, s, Q, hit, _, _, hQ => by
    show wpAny _ _ (pure []) Q E s
    exact wpAny_pure (by simpa using hQ s.heap hit (Heap.SameBut.refl ..))
  | n + 1, i, s, Q, hit, ht, hle, hQ => by
    have hlt : i < items.size := by omega
    show wpAny _ _ (pyNext (.ref it) >>= _) Q E s
    refine wpAny_bind (wpAny_pyNext_list_item hit ht (x := items[i]) (by simp [hlt]) fun h₁ hit₁ hs₁ => ?_)
    refine wpAny_bind (wpAny_holding (draw_list hne n (i + 1) _ _ hit₁ (ht.extBut hs₁.extBut hne) (by omega) fun h₂ hit₂ hs₂ => wpAny_pure ?_))
    have hd : items.toList.drop i = items[i] :: items.toList.drop (i + 1) := by simp [List.drop_eq_getElem_cons, hlt]
    have := hQ h₂ (by rw [show i + (n + 1) = i + 1 + n by omega]; exact hit₂) (hs₁.trans hs₂)
    rw [hd, List.take_succ_cons] at this
    exact this
theorem unpack_list {l : Addr} {items : Array Value} {Q : List Value → Shared → Prop} (hh : A.handled = none) (ht : s.heap.IsList l items)
    (hQ : ∀ h', Inc s.heap h' → Q items.toList { s with heap := h' }) : wpAny (model prog w) A (unpackItems (.ref l) items.size none) Q E s := by
  have hlt : l ≠ s.heap.objs.size := by obtain ⟨o, ho, _⟩ := ht; exact Nat.ne_of_lt (Heap.lt_size ho)
  unfold unpackItems
  refine wpAny_bind ?_
  unfold notIterableAtAll
  refine wpAny_bind (wpAny_specialOf ht.typeIs slot_list_iter.lookup ?_)
  refine wpAny_pure ?_
  simp only [Bool.false_eq_true, if_false]
  refine wpAny_bind (wpAny_holding (wpAny_pyIter_list ht ?_))
  refine wpAny_bind (wpAny_holding (draw_list hlt items.size 0 _ _ ⟨_, Heap.get?_push_size _ rfl, rfl, rfl⟩ (ht.push _) (by omega) fun h₁ hit₁ hs₁ => ?_))
  have hall : List.take items.size (List.drop 0 items.toList) = items.toList := by
    rw [List.drop_zero]; exact List.take_of_length_le (by simp)
  rw [hall, if_neg (by simp)]
  have ht₁ : h₁.IsList l items := (ht.push _).extBut hs₁.extBut hlt
  refine wpAny_bind (wpAny_holding (wpAny_pyNext_list_end hh hit₁ ht₁ (by simp) fun h₂ he₂ => ?_))
  simp only [Option.isSome_none, Bool.false_eq_true, if_false]
  refine wpAny_pure (hQ h₂ fun b o e => ?_)
  have hb : b ≠ s.heap.objs.size := Nat.ne_of_lt (Heap.lt_size e)
  exact he₂ b o hb (hs₁.extBut b o hb (Heap.get?_push_of_some _ e))

/-- a target takes what d tells -/
def As (prog : Program) (w : World) (A : Around) (env : Env) (target : PySem.Expr) (d : PyData) (cs : List Addr) (ρ σ : List (Str × PyData)) (μ : Option (Str × List PyData)) (ρ' σ' : List (Str × PyData)) : Prop :=
  ∀ fz₀ kp fz s v, At w fz₀ kp env ρ σ μ fz s.heap → Rd fz v d → (∀ c ∈ cs, (∃ u, s.heap.IsCell c u) ∧ fz.get? c = none ∧ kp.get? c = none ∧ ∀ z e c', σ.lookup z = some e → env.cells.lookup z = some c' → c' ≠ c) →
    wpAny (model prog w) A (assign target env v) (fun _ s' => At w fz₀ kp env ρ' σ' μ fz s'.heap ∧ Same s s' ∧ (∀ b o, b ≠ env.locals → b ∉ cs → s.heap.get? b = some o → s'.heap.get? b = some o) ∧ ∀ c ∈ cs, ∃ u, s'.heap.IsCell c u) Nope s

theorem As.name {x : Str} {p : Pos} {d : PyData} {cs : List Addr} (hμ : ∀ ds, μ ≠ some (x, ds)) (hk : env.kindOf x = some .local) : As prog w A env (.Name x p) d cs ρ σ μ ((x, d) :: ρ) σ := fun fz₀ kp fz s v a r hc => by
  obtain ⟨m, hn, hb⟩ := a.ok.loc
  refine wpAny_assign_Name (wpAny_storeName_local hk hn (fun h' hn' hs => ⟨a.store hs (fun m₁ hm₁ => by rw [ns_unique hm₁ hn]) hn' r hμ, ⟨rfl, rfl⟩, fun b o hb _ e => (hs.2 b hb).trans e, fun c hcm => ?_⟩) (by rw [a.ok.kind]; rfl))
  obtain ⟨u, hu⟩ := (hc c hcm).1
  have : c ≠ env.locals := fun e => not_cell_of_ns hn _ (e ▸ hu)
  exact ⟨u, hu.sameBut hs this⟩
theorem As.cell {x : Str} {p : Pos} {d : PyData} {cs : List Addr} {c : Addr} (hc : c ∈ cs) (hx : env.cells.lookup x = some c) (hk : env.kindOf x = some .cell) : As prog w A env (.Name x p) d cs ρ σ μ ρ ((x, d) :: σ) := fun fz₀ kp fz s v a r hcs => by
  obtain ⟨⟨u, hu⟩, hf, hp, hσ⟩ := hcs c hc
  refine wpAny_assign_Name (wpAny_storeName_cell a.ok.kind hk hx hu fun h' hc' hs => ⟨a.storeCell hu hs hc' hx r hf hp hσ, ⟨rfl, rfl⟩, fun b o _ hb e => (hs.2 b (fun e => hb (e ▸ hc))).trans e, fun c' hcm => ?_⟩)
  by_cases e : c' = c
  · subst e; exact ⟨_, hc'⟩
  · obtain ⟨u', hu'⟩ := (hcs c' hcm).1
    exact ⟨u', hu'.sameBut hs e⟩
theorem As.pair {x y : PySem.Expr} {k : Nat} {p : Pos} {d1 d2 : PyData} {cs : List Addr} {ρ₁ : List (Str × PyData)} (hh : A.handled = none) (h1 : As prog w A env x d1 cs ρ σ μ ρ₁ σ) (h2 : As prog w A env y d2 cs ρ₁ σ μ ρ' σ')
    (he : (assignEach [x, y] env) = [(false, assign x env), (false, assign y env)]) : As prog w A env (.Tuple [x, y] k p) (.list [d1, d2]) cs ρ σ μ ρ' σ' := fun fz₀ kp fz s v a r hc => by
  obtain ⟨l, vs, rfl, hl, rs⟩ := r.list_inv
  obtain ⟨v1, v2, rfl, r1, r2⟩ := rs.two
  have hl' := isList_up hl a.ok.inc
  rw [arm_assign_Tuple]
  refine wpAny_bind (wpAny_standAt ?_)
  unfold unpack
  rw [he]
  refine wpAny_bind (wpAny_holding (unpack_list (items := [v1, v2].toArray) hh hl' fun h' i' => ?_))
  have a' := a.step (Mv.up a.ok.inc i')
  show wpAny _ _ (holding [v2] (assign x env v1) >>= fun _ => (holding [] (assign y env v2) >>= fun _ => pure ())) _ _ _
  refine wpAny_bind (wpAny_holding (wpAny_mono (h1 fz₀ kp fz { s with heap := h' } v1 a' r1 fun c hcm => ⟨let ⟨u, hu⟩ := (hc c hcm).1; ⟨u, isCell_up hu i'⟩, (hc c hcm).2⟩) (fun _ s₁ ⟨a₁, e₁, k₁, c₁⟩ => ?_) fun _ _ x => x))
  refine wpAny_bind (wpAny_holding (wpAny_mono (h2 fz₀ kp fz s₁ v2 a₁ r2 fun c hcm => ⟨c₁ c hcm, (hc c hcm).2⟩) (fun _ s₂ ⟨a₂, e₂, k₂, c₂⟩ => ?_) fun _ _ x => x))
  exact wpAny_pure ⟨a₂, ⟨(e₁.trans e₂).os, (e₁.trans e₂).gens⟩, fun b o hb hb' e => k₂ b o hb hb' (k₁ b o hb hb' (i' b o e)), c₂⟩

theorem compLoop_any {elt target iter : PySem.Expr} {ifs : List PySem.Expr} {scope : Scope} {pos : Pos} {it acc : Value} {env : Env} {R : Result → Shared → Prop} (I : Nat → Shared → Prop)
    (turn : ∀ n s, I n s → wpAny (model prog w) A (pyNext it) (fun r s₁ => match r with
      | none => R (.ok .next) s₁
      | some v => wpAny (model prog w) A (letOwnedTupleGo target it v) (fun _ s₁ => wpAny (model prog w) A (assign target env v) (fun _ s₂ =>
          wpAny (model prog w) A (forIn ifs true fun c r => if r = true then do let ok ← isTrue c env (eval c env); pure (ForInStep.yield ok) else pure (ForInStep.yield r)) (fun ok s₃ =>
            if ok = true then wpAny (model prog w) A (eval elt env) (fun x s₄ =>
              wpAny (model prog w) A (PySem.call (.builtin "list.append") [acc, x]) (fun _ s₅ => ∃ m, m < n ∧ I m s₅) Nope s₄) Nope s₃
            else ∃ m, m < n ∧ I m s₃) Nope s₂) Nope s₁) Nope s₁) Nope s)
    (n : Nat) (h : I n s) : codeAny (model prog w) A (.compLoop (.ListComp elt [⟨target, iter, ifs, 0⟩] scope pos) 0 it acc env) R s := by
  refine codeAny_loop rfl I (fun n s hI => ?_) n h
  show wpAny _ A ((compTurn (.ListComp elt [⟨target, iter, ifs, 0⟩] scope pos) 0 it acc env).onRaise (fun x => do noteFrame x env; theTreesLotGoes x)) _ _ s
  refine wpAny_noted ?_
  rw [compTurn_list]
  refine wpAny_bind (wpAny_standAt (wpAny_bind (wpAny_mono (turn n s hI) (fun r s₁ h₁ => ?_) fun _ _ h' => h'.elim)))
  cases r with
  | none => exact wpAny_pure h₁
  | some v =>
    refine wpAny_bind (wpAny_mono h₁ (fun _ s₁ h₁ => ?_) fun _ _ h' => h'.elim)
    refine wpAny_bind (wpAny_mono h₁ (fun _ s₂ h₂ => wpAny_bind (wpAny_mono h₂ (fun ok s₃ h₃ => ?_) fun _ _ h' => h'.elim)) fun _ _ h' => h'.elim)
    cases ok with
    | false => exact wpAny_pure ⟨rfl, h₃⟩
    | true =>
      exact wpAny_bind (wpAny_bind (wpAny_mono h₃ (fun x s₄ h₄ => wpAny_bind (wpAny_mono h₄ (fun _ s₅ h₅ => wpAny_pure (wpAny_pure ⟨rfl, h₅⟩)) fun _ _ h' => h'.elim)) fun _ _ h' => h'.elim))
end
end Mine
set_option maxRecDepth 100000
namespace Mine

def compX (scope : Scope) (cs : List (Str × Addr)) (C : Addr) (env : Env) : Env :=
  { scope := relabel scope env, locals := C, globals := env.globals, cells := cs, qual := env.qual, func := none, code := env.code, frame := env.frame, builtins := env.builtins }

section
variable {prog : Program} {w : World} {A : Around} {env : Env} {ρ σ ρ' σ' : List (Str × PyData)} {s : Shared} {E : Value → Shared → Prop}

theorem wp_compEnv {scope : Scope} {cl : List (Str × Addr)} {Q : Env → Shared → Prop} {M : Model}
    (hQ : Q { compX scope (cellsFrom (s.heap.objs.size + 1) scope.names cl) s.heap.objs.size env with scope := scope } { s with heap := pushCells (s.heap.push { cls := .type "dict", data := .dict #[] }) scope.names }) :
    wpAny M A (newFunctionEnv scope env.globals cl [] env.qual none .none (some env)) Q E s := by
  simp only [newFunctionEnv, Option.isSome_some, if_true]
  refine wpAny_bind (wpAny_alloc ?_)
  refine wpAny_bind (wpAny_layCells _ (fun name kind cells => by cases hkc : kind == NameKind.cell <;> simp [hkc]) _ _ _ _ ?_)
  rw [show ({ s with heap := s.heap.push { cls := .type "dict", data := .dict #[] } } : Shared).heap.objs.size = s.heap.objs.size + 1 from Heap.size_push ..]
  exact wpAny_bind (wpAny_pure (wpAny_pure hQ))

theorem letGo_any {target : PySem.Expr} {I l : Addr} {i : Nat} {v : Value} {Q : Unit → Shared → Prop} (ht : (∃ x p, target = .Name x p) ∨ (∃ es k p, target = .Tuple es k p)) (hit : s.heap.IsListIter I l i) (hQ : Q () s) :
    wpAny (model prog w) A (letOwnedTupleGo target (.ref I) v) Q E s := by
  rcases ht with ⟨x, p, rfl⟩ | ⟨es, k, p, rfl⟩
  · exact wpAny_pure hQ
  · cases v with
    | ref T => exact wpAny_letOwnedTupleGo_listiter hit hQ
    | _ => exact wpAny_pure hQ

inductive Tst (prog : Program) (w : World) (A : Around) (env : Env) (ρ σ : List (Str × PyData)) : List PySem.Expr → Bool → Prop
  | nil : Tst prog w A env ρ σ [] true
  | one {e : PySem.Expr} {b : Bool} : Ts prog w A env ρ σ e b → Tst prog w A env ρ σ [e] b
theorem Tst.tr {ifs : List PySem.Expr} {b : Bool} {fz : Heap} (h : Tst prog w A env ρ σ ifs b) (ok : EOk w env ρ σ fz s.heap) :
    Tr prog w A (forIn ifs true fun c r => if r = true then do let ok ← isTrue c env (eval c env); pure (ForInStep.yield ok) else pure (ForInStep.yield r)) fz s (fun _ v => v = b) := by
  cases h with
  | nil => exact wpAny_tests_nil ⟨fz, .refl ok.inc, .refl s, rfl⟩
  | one h => exact wpAny_tests_one (h fz s ok)

theorem not_cell_iter {h : Heap} {I l : Addr} {i : Nat} (x : h.IsListIter I l i) (v : Option Value) : ¬ h.IsCell I v := by
  rintro ⟨o, ho, hd⟩
  obtain ⟨o', ho', _, hd'⟩ := x
  rw [ho] at ho'; cases ho'; rw [hd] at hd'; cases hd'

theorem get_ge {h : Heap} {a : Addr} (x : h.objs.size ≤ a) : h.get? a = none := by
  cases e : h.get? a with
  | none => rfl
  | some o => exact absurd (Heap.lt_size e) (Nat.not_lt.mpr x)

theorem cellsFrom_append : ∀ (names : List (Str × NameKind)) (n : Nat) (acc : List (Str × Addr)), cellsFrom n names acc = cellsFrom n names [] ++ acc
  | [], _, _ => rfl
  | (x, k) :: r, n, acc => by
    unfold cellsFrom
    split
    · rw [cellsFrom_append r, cellsFrom_append r (n + 1) [(x, n)]]; simp
    · exact cellsFrom_append r n acc

theorem comp_core {elt target iter : PySem.Expr} {ifs : List PySem.Expr} {scope : Scope} {pos : Pos} {cl : List (Str × Addr)} {fz₁ : Heap} {s₁ : Shared} {l : Addr} {vs : List Value} {ds : List PyData}
    {keep : PyData → Bool} {f : PyData → PyData} {RR : Value → Addr → Shared → Prop} (hh : A.handled = none)
    (ht : (∃ x p, target = .Name x p) ∨ (∃ es k p, target = .Tuple es k p)) (hkind : scope.kind = .function)
    (ok₁ : EOk w env ρ σ fz₁ s₁.heap) (hl : fz₁.IsList l vs.toArray) (rs : Rds fz₁ vs ds) (hsz : ds.length ≤ sizeLine)
    (hσ' : ∀ C x d, σ'.lookup x = some d → σ.lookup x = some d ∧ ∀ c, env.cells.lookup x = some c → (cellsFrom (C + 1) scope.names cl).lookup x = some c)
    (turn : ∀ C d, d ∈ ds → ∃ ρi σi, As prog w A (compX scope (cellsFrom (C + 1) scope.names cl) C env) target d ((cellsFrom (C + 1) scope.names []).map (·.2)) [] σ' none ρi σi ∧ (∀ x e, σ'.lookup x = some e → σi.lookup x = some e) ∧
      Tst prog w A (compX scope (cellsFrom (C + 1) scope.names cl) C env) ρi σi ifs (keep d) ∧ (keep d = true → Ev prog w A (compX scope (cellsFrom (C + 1) scope.names cl) C env) ρi σi elt (f d)))
    (fin : ∀ D s' fz' C m, Mv fz₁ s₁.heap fz' s'.heap → Same s₁ s' → Rd fz' (.ref D) (.list ((ds.filter keep).map f)) → s'.heap.Ns C m → fz'.get? C = none → s₁.heap.get? C = none → RR (.ref D) C s') :
    wpAny (model prog w) A (pyIter (.ref l)) (fun it s₂ => wpAny (model prog w) A (newList []) (fun acc s₃ => wpAny (model prog w) A (newFunctionEnv scope env.globals cl [] env.qual none .none (some env)) (fun cenv s₄ =>
      codeAny (model prog w) A (.compStart (.ListComp elt [⟨target, iter, ifs, 0⟩] scope pos) 0 it acc { cenv with scope := relabel scope env }) (fun r s' => r = .ok .next ∧ RR acc cenv.locals s') s₄) Nope s₃) Nope s₂) Nope s₁ := by
  have hlen : vs.length = ds.length := rs.length
  have hl₁ := isList_up hl ok₁.inc
  refine wpAny_pyIter_list hl₁ (wpAny_newList (items := []) ?_ (by decide))
  refine wp_compEnv ?_
  simp only [Heap.size_push]
  generalize hH : pushCells (((s₁.heap.push { cls := .type "list_iterator", data := .fields #[.ref l, .int 0 0] }).push { cls := .type "list", data := .seq ([] : List Value).toArray }).push { cls := .type "dict", data := .dict #[] }) scope.names = H
  let I := s₁.heap.objs.size
  let D := s₁.heap.objs.size + 1
  let C := s₁.heap.objs.size + 1 + 1
  let cenv := compX scope (cellsFrom (C + 1) scope.names cl) C env
  have nCI : C ≠ I := fun e => by have e' : s₁.heap.objs.size + 1 + 1 = s₁.heap.objs.size := e; omega
  have nDI : D ≠ I := fun e => by have e' : s₁.heap.objs.size + 1 = s₁.heap.objs.size := e; omega
  have nCD : C ≠ D := fun e => by have e' : s₁.heap.objs.size + 1 + 1 = s₁.heap.objs.size + 1 := e; omega
  have up1 : Inc ((s₁.heap.push { cls := .type "list_iterator", data := .fields #[.ref l, .int 0 0] }).push { cls := .type "list", data := .seq ([] : List Value).toArray }) H := fun b o e => by rw [← hH]; exact pushCells_keeps _ _ _ _ (Heap.get?_push_of_some _ e)
  have keep0 : Inc s₁.heap H := fun b o e => up1 _ _ (Heap.get?_push_of_some _ (Heap.get?_push_of_some _ e))
  have hit : H.IsListIter I l 0 := ⟨_, up1 _ _ (Heap.get?_push_of_some _ (Heap.get?_push_size _ rfl)), rfl, rfl⟩
  have hD : H.IsList D ([] : List Value).toArray := by
    have e : (s₁.heap.push { cls := .type "list_iterator", data := .fields #[.ref l, .int 0 0] }).objs.size = D := Heap.size_push ..
    have := Heap.get?_push_size (s₁.heap.push { cls := .type "list_iterator", data := .fields #[.ref l, .int 0 0] }) (o := { cls := .type "list", data := .seq ([] : List Value).toArray }) rfl
    rw [e] at this
    exact ⟨_, up1 _ _ this, rfl, _, rfl⟩
  have hC : H.Ns C fun _ => none := by
    rw [← hH]
    have := Heap.Ns.new ((s₁.heap.push { cls := .type "list_iterator", data := .fields #[.ref l, .int 0 0] }).push { cls := .type "list", data := .seq ([] : List Value).toArray }) (.type "dict")
    rw [Heap.size_push, Heap.size_push] at this
    exact this.keeps (pushCells_keeps _ _)
  have gI : s₁.heap.get? I = none := get_ge (Nat.le_refl _)
  have gD : s₁.heap.get? D = none := get_ge (Nat.le_succ _)
  have gC : s₁.heap.get? C = none := get_ge (by show s₁.heap.objs.size ≤ s₁.heap.objs.size + 1 + 1; omega)
  have fnone : ∀ a, s₁.heap.get? a = none → fz₁.get? a = none := fun a e => by
    cases e' : fz₁.get? a with
    | none => rfl
    | some o => rw [ok₁.inc _ _ e'] at e; cases e
  have cOk : CellsOk H (C + 1) (cellsFrom (C + 1) scope.names []) := by
    have := cellsFrom_ok scope.names (((s₁.heap.push { cls := .type "list_iterator", data := .fields #[.ref l, .int 0 0] }).push { cls := .type "list", data := .seq ([] : List Value).toArray }).push { cls := .type "dict", data := .dict #[] }) (C + 1) []
      ⟨fun _ _ hm => (nomatch hm), List.Pairwise.nil⟩ (by simp only [Heap.size_push]; exact Nat.le_refl _)
    simp only [Heap.size_push] at this
    rw [hH] at this
    exact this
  have hown : ∀ c ∈ (cellsFrom (C + 1) scope.names []).map (·.2), C + 1 ≤ c := fun c hc => by
    obtain ⟨⟨n, c'⟩, hm, rfl⟩ := List.mem_map.mp hc
    exact (cOk.empty n c' hm).2
  have a₀ : At w fz₁ s₁.heap cenv [] σ' none fz₁ H := by
    refine ⟨⟨ok₁.base, ok₁.inc.trans keep0, hkind, ok₁.gl, ok₁.bi, ⟨_, hC, fun _ _ e => by cases e⟩, fun x d e => ?_, fnone _ gC⟩, Mv.up ok₁.inc keep0, gC, fun _ _ e => nomatch e⟩
    obtain ⟨h1, h2⟩ := hσ' C x d e
    obtain ⟨c, v, p, q, r⟩ := ok₁.cel x d h1
    exact ⟨c, v, h2 c p, isCell_up q keep0, r⟩
  have main : ∀ s₄ : Shared, s₄ = { s₁ with heap := H } → codeAny (model prog w) A (.compLoop (.ListComp elt [⟨target, iter, ifs, 0⟩] scope pos) 0 (.ref I) (.ref D) cenv) (fun r s' => r = .ok .next ∧ RR (.ref D) C s') s₄ := by
    rintro s₄ rfl
    refine compLoop_any (fun k s' => ∃ fz' i ys, At w fz₁ s₁.heap cenv [] σ' none fz' s'.heap ∧ Same s₁ s' ∧ s'.heap.IsListIter I l i ∧ s'.heap.IsList D (List.toArray ys) ∧ Rds fz' ys (((ds.take i).filter keep).map f) ∧ fz'.get? D = none ∧ fz'.get? I = none ∧
      (∀ c ∈ (cellsFrom (C + 1) scope.names []).map (·.2), (∃ u, s'.heap.IsCell c u) ∧ fz'.get? c = none) ∧ i ≤ ds.length ∧ k = ds.length + 1 - i) ?_ (ds.length + 1)
      ⟨fz₁, 0, [], a₀, ⟨rfl, rfl⟩, hit, hD, by simpa using Rds.nil, fnone _ gD, fnone _ gI, fun c hc => ⟨?_, fnone _ (get_ge ?_)⟩, Nat.zero_le _, rfl⟩
    rotate_left
    · obtain ⟨⟨n, c'⟩, hm, rfl⟩ := List.mem_map.mp hc
      exact ⟨_, (cOk.empty n c' hm).1⟩
    · have := hown c hc
      show s₁.heap.objs.size ≤ c
      have : s₁.heap.objs.size + 1 + 1 + 1 ≤ c := this
      omega
    rintro k s' ⟨fz', i, ys, a, same, hit', hD', ry, fD, fI, hcs, hi, rfl⟩
    have hl' : s'.heap.IsList l vs.toArray := isList_up (isList_up hl a.mv.ff) a.ok.inc
    cases hd : ds[i]? with
    | none =>
      have hin : i = ds.length := Nat.le_antisymm hi (by simpa using hd)
      refine wpAny_pyNext_list_end hh hit' hl' (by have := hlen; simp; omega) fun h₁ he => ⟨rfl, ?_⟩
      have a₁ : At w fz₁ s₁.heap cenv [] σ' none fz' h₁ := a.but0 (X := [I]) (fun b o hb e => he b o (by simpa using hb) e) (fun hm => nCI (List.mem_singleton.mp hm)) (by simpa using fI) (by simpa using gI) (by simpa using not_cell_iter hit')
      obtain ⟨fz'', f1, f2, f3, f4⟩ := Mine.freeze (r := D) a₁.ok.inc
      obtain ⟨m, hn, _⟩ := a₁.ok.loc
      have hD₁ : h₁.IsList D ys.toArray := by obtain ⟨o, ho, r⟩ := hD'; exact ⟨o, he D o nDI ho, r⟩
      refine fin D { s' with heap := h₁ } fz'' C m ⟨a₁.mv.ff.trans f1, a₁.mv.hh, f2, fun b o e e' => f4 b (fun hb => by subst hb; rw [gD] at e; cases e) (a₁.mv.old b o e e')⟩ ⟨same.os, same.gens⟩ ?_ hn (f4 _ nCD a₁.ok.hid) gC
      refine Rd.list (vs := ys) ?_ (Rds.up ?_ f1)
      · obtain ⟨o, ho, r⟩ := hD₁; exact ⟨o, f3.trans ho, r⟩
      · rw [hin, List.take_of_length_le (Nat.le_refl _)] at ry; exact ry
    | some d =>
      have hlt : i < ds.length := (List.getElem?_eq_some_iff.mp hd).1
      obtain ⟨v, hv, rd⟩ := rs.get' hd
      have rd' := rd.up a.mv.ff
      refine wpAny_pyNext_list_item hit' hl' (by simpa using hv) fun h₁ hit₁ hs₁ => ?_
      have a₁ : At w fz₁ s₁.heap cenv [] σ' none fz' h₁ := a.but0 (X := [I]) (fun b o hb e => (hs₁.2 b (by simpa using hb)).trans e) (fun hm => nCI (List.mem_singleton.mp hm)) (by simpa using fI) (by simpa using gI) (by simpa using not_cell_iter hit')
      refine letGo_any ht hit₁ ?_
      obtain ⟨ρi, σi, has, hσi, htst, hev⟩ := turn C d (List.mem_of_getElem? hd)
      have hD₁ : h₁.IsList D ys.toArray := hD'.extBut hs₁.extBut nDI
      have cells₁ : ∀ c ∈ (cellsFrom (C + 1) scope.names []).map (·.2), (∃ u, h₁.IsCell c u) := fun c hc => by
        obtain ⟨u, hu⟩ := (hcs c hc).1
        exact ⟨u, hu.sameBut hs₁ fun e => not_cell_iter hit' _ (e ▸ hu)⟩
      refine wpAny_mono (has fz₁ s₁.heap fz' { s' with heap := h₁ } v a₁ rd' fun c hc => ⟨cells₁ c hc, (hcs c hc).2, get_ge (by have : s₁.heap.objs.size + 1 + 1 + 1 ≤ c := hown c hc; omega), fun z e c' hz hc' => ?_⟩) (fun _ s₂ ⟨a₂, e₂, k₂, c₂⟩ => ?_) fun _ _ x => x
      · obtain ⟨h1, h2⟩ := hσ' C z e hz
        obtain ⟨c'', u, p, q, _⟩ := ok₁.cel z e h1
        have : c'' = c' := by
          have h3 := h2 c'' p
          have h4 : (cellsFrom (C + 1) scope.names cl).lookup z = some c' := hc'
          rw [h3] at h4; exact Option.some.inj h4
        subst this
        have h5 : s₁.heap.objs.size + 1 + 1 + 1 ≤ c := hown c hc
        have h6 : c'' < s₁.heap.objs.size := q.lt
        exact Nat.ne_of_lt (Nat.lt_of_lt_of_le h6 (Nat.le_trans (by omega) h5))
      have nI : I ∉ (cellsFrom (C + 1) scope.names []).map (·.2) := fun hm => by have : s₁.heap.objs.size + 1 + 1 + 1 ≤ s₁.heap.objs.size := hown I hm; omega
      have nD : D ∉ (cellsFrom (C + 1) scope.names []).map (·.2) := fun hm => by have : s₁.heap.objs.size + 1 + 1 + 1 ≤ s₁.heap.objs.size + 1 := hown D hm; omega
      have hit₂ : s₂.heap.IsListIter I l (i + 1) := by obtain ⟨o, ho, r⟩ := hit₁; exact ⟨o, k₂ I o (Ne.symm nCI) nI ho, r⟩
      have hD₂ : s₂.heap.IsList D ys.toArray := by obtain ⟨o, ho, r⟩ := hD₁; exact ⟨o, k₂ D o (Ne.symm nCD) nD ho, r⟩
      have mid : ∀ (fz₃ : Heap) (s₃ : Shared), At w fz₁ s₁.heap cenv ρi σi none fz₃ s₃.heap → Same s₁ s₃ → s₃.heap.IsListIter I l (i + 1) → fz₃.get? D = none → fz₃.get? I = none → (∀ c ∈ (cellsFrom (C + 1) scope.names []).map (·.2), (∃ u, s₃.heap.IsCell c u) ∧ fz₃.get? c = none) →
          ∀ ys' : List Value, s₃.heap.IsList D ys'.toArray → Rds fz₃ ys' (((ds.take (i + 1)).filter keep).map f) →
          ∃ m, m < ds.length + 1 - i ∧ ∃ fz' i ys, At w fz₁ s₁.heap cenv [] σ' none fz' s₃.heap ∧ Same s₁ s₃ ∧ s₃.heap.IsListIter I l i ∧ s₃.heap.IsList D (List.toArray ys) ∧ Rds fz' ys (((ds.take i).filter keep).map f) ∧ fz'.get? D = none ∧ fz'.get? I = none ∧
            (∀ c ∈ (cellsFrom (C + 1) scope.names []).map (·.2), (∃ u, s₃.heap.IsCell c u) ∧ fz'.get? c = none) ∧ i ≤ ds.length ∧ m = ds.length + 1 - i := fun fz₃ s₃ a₃ e₃ hit₃ fD₃ fI₃ c₃ ys' hD₃ r₃ =>
        ⟨ds.length + 1 - (i + 1), by omega, fz₃, i + 1, ys', a₃.weaken (fun _ _ e => by cases e) hσi, e₃, hit₃, hD₃, r₃, fD₃, fI₃, c₃, hlt, rfl⟩
      have e₂' : Same s₁ s₂ := ⟨e₂.os.trans same.os, e₂.gens.trans same.gens⟩
      refine wpAny_mono (htst.tr a₂.ok) (fun ok s₃ ⟨fz₃, m₃, e₃, r₃⟩ => ?_) fun _ _ x => x
      subst r₃
      have a₃ := a₂.step m₃
      have fD₃ : fz₃.get? D = none := by obtain ⟨o, ho, _⟩ := hD₂; exact m₃.old D o ho fD
      have fI₃ : fz₃.get? I = none := by obtain ⟨o, ho, _⟩ := hit₂; exact m₃.old I o ho fI
      have c₃ : ∀ c ∈ (cellsFrom (C + 1) scope.names []).map (·.2), (∃ u, s₃.heap.IsCell c u) ∧ fz₃.get? c = none := fun c hc => by
        obtain ⟨u, hu⟩ := c₂ c hc
        obtain ⟨o, ho, hdd⟩ := id hu
        exact ⟨⟨u, isCell_up hu m₃.hh⟩, m₃.old c o ho (hcs c hc).2⟩
      have hit₃ : s₃.heap.IsListIter I l (i + 1) := by obtain ⟨o, ho, r⟩ := hit₂; exact ⟨o, m₃.hh _ _ ho, r⟩
      have htake : (ds.take (i + 1)).filter keep = (ds.take i).filter keep ++ (if keep d then [d] else []) := take_succ_filter keep ds i d hd
      cases hkp : keep d with
      | false =>
        simp only [Bool.false_eq_true, if_false]
        refine mid fz₃ s₃ a₃ (e₂'.trans e₃) hit₃ fD₃ fI₃ c₃ ys (isList_up hD₂ m₃.hh) ?_
        rw [htake, hkp]
        simpa using ry.up m₃.ff
      | true =>
        simp only [if_true]
        refine wpAny_mono (hev hkp fz₃ s₃ a₃.ok) (fun y s₄ ⟨fz₄, m₄, e₄, r₄⟩ => ?_) fun _ _ x => x
        have hD₄ : s₄.heap.IsList D ys.toArray := isList_up (isList_up hD₂ m₃.hh) m₄.hh
        have hys : ys.length ≤ sizeLine := by
          rw [ry.length, List.length_map]
          have h1 := List.length_filter_le keep (ds.take i)
          have h2 : (ds.take i).length ≤ ds.length := by rw [List.length_take]; exact Nat.min_le_right _ _
          omega
        refine wpAny_list_append hD₄ (fun h₅ hl₅ hs₅ => ?_) (by simpa using hys)
        have fD₄ : fz₄.get? D = none := by obtain ⟨o, ho, _⟩ := isList_up hD₂ m₃.hh; exact m₄.old D o ho fD₃
        have a₅ : At w fz₁ s₁.heap cenv ρi σi none fz₄ h₅ := (a₃.step m₄).but0 (X := [D]) (fun b o hb e => (hs₅.2 b (by simpa using hb)).trans e) (fun hm => nCD (List.mem_singleton.mp hm)) (by simpa using fD₄) (by simpa using gD) (by simpa using not_cell_of_list hD₄)
        refine mid fz₄ { s₄ with heap := h₅ } a₅ ⟨e₄.os.trans (e₂'.trans e₃).os, e₄.gens.trans (e₂'.trans e₃).gens⟩ ?_ fD₄ ?_ ?_ (ys ++ [y]) (by simpa using hl₅) ?_
        · obtain ⟨o, ho, r⟩ := hit₃
          exact ⟨o, (hs₅.2 I (Ne.symm nDI)).trans (m₄.hh _ _ ho), r⟩
        · obtain ⟨o, ho, _⟩ := hit₃; exact m₄.old I o ho fI₃
        · intro c hc
          obtain ⟨⟨u, hu⟩, fc⟩ := c₃ c hc
          obtain ⟨o, ho, hdd⟩ := id hu
          exact ⟨⟨u, (isCell_up hu m₄.hh).sameBut hs₅ fun e => not_cell_of_list hD₄ _ (e ▸ isCell_up hu m₄.hh)⟩, m₄.old c o ho fc⟩
        · rw [htake, hkp]
          simp only [if_true, List.map_append, List.map_cons, List.map_nil]
          exact ((ry.up m₃.ff).up m₄.ff).append (Rds.cons r₄ Rds.nil)
  exact codeAny_compStart_list (main _ rfl) (wpAny_pyIter_listiter hit (main _ rfl))
end
end Mine
set_option maxRecDepth 100000
namespace Mine
section
variable {prog : Program} {w : World} {A : Around} {env : Env} {ρ σ σ' : List (Str × PyData)}

theorem Ev.comp {elt target iter : PySem.Expr} {ifs : List PySem.Expr} {scope : Scope} {pos : Pos} {cl : List (Str × Addr)} {ds : List PyData} {keep : PyData → Bool} {f : PyData → PyData} (hh : A.handled = Option.none)
    (ht : (∃ x p, target = .Name x p) ∨ (∃ es k p, target = .Tuple es k p)) (hkind : scope.kind = .function) (hclos : closureFor scope env = pure cl)
    (hnames : ∀ y ∈ scope.names, y.2 = .local → scope.names.lookup y.1 = some .local)
    (hiter : Ev prog w A env ρ σ iter (.list ds)) (hsz : ds.length ≤ sizeLine)
    (hσ' : ∀ C x d, σ'.lookup x = some d → σ.lookup x = some d ∧ ∀ c, env.cells.lookup x = some c → (cellsFrom (C + 1) scope.names cl).lookup x = some c)
    (turn : ∀ C d, d ∈ ds → ∃ ρi σi, As prog w A (compX scope (cellsFrom (C + 1) scope.names cl) C env) target d ((cellsFrom (C + 1) scope.names []).map (·.2)) [] σ' Option.none ρi σi ∧ (∀ x e, σ'.lookup x = some e → σi.lookup x = some e) ∧
      Tst prog w A (compX scope (cellsFrom (C + 1) scope.names cl) C env) ρi σi ifs (keep d) ∧ (keep d = true → Ev prog w A (compX scope (cellsFrom (C + 1) scope.names cl) C env) ρi σi elt (f d)))
    (hs : ∀ x, foldedSetIterable iter env x = pure x := by intro _; rfl) :
    Ev prog w A env ρ σ (.ListComp elt [⟨target, iter, ifs, 0⟩] scope pos) (.list ((ds.filter keep).map f)) := fun fz s ok => by
  rw [eval_ListComp]
  refine wpAny_comprehension_free (use := Option.none) rfl hs hclos hkind hnames (wpAny_mono (hiter fz s ok) (fun xv s₁ ⟨fz₁, m₁, e₁, r₁⟩ => ?_) fun _ _ e => e)
  obtain ⟨l, vs, rfl, hl, rs⟩ := r₁.list_inv
  refine wpAny_mono (comp_core (RR := fun acc C s' => ∃ m, s'.heap.Ns C m ∧ ∀ h', Heap.SameBut C s'.heap h' → ∃ fz', Mv fz s.heap fz' h' ∧ Same s { s' with heap := h' } ∧ Rd fz' acc (.list ((ds.filter keep).map f)))
    hh ht hkind (ok.mv m₁) hl rs hsz hσ' turn (fun D s' fz' C m mv same rd hn hf hg => ⟨m, hn, fun h' hs' => ?_⟩)) (fun it s₂ h₂ => wpAny_mono h₂ (fun acc s₃ h₃ => wpAny_mono h₃ (fun cenv s₄ h₄ => codeAny_mono h₄ fun r s' hr => ?_) fun _ _ e => e) fun _ _ e => e) fun _ _ e => e
  · have k : ∀ b o, b ≠ C → s'.heap.get? b = some o → h'.get? b = some o := fun b o hb e => (hs'.2 b hb).trans e
    have mv' : Mv fz₁ s₁.heap fz' h' := ⟨mv.ff, fun b o e => k b o (fun hb => by rw [hb, hg] at e; cases e) (mv.hh b o e), fun b o e => k b o (fun hb => by rw [hb, hf] at e; cases e) (mv.fh b o e), mv.old⟩
    exact ⟨fz', m₁.trans mv', ⟨(e₁.trans same).os, (e₁.trans same).gens⟩, rd⟩
  · obtain ⟨rfl, m, hn, hr⟩ := hr
    exact ⟨m, hn, fun h' hs' => hr h' hs'⟩

theorem S1.assignComp {μ : Option (Str × List PyData)} {y : Str} {py spos : Pos} {elt target iter : PySem.Expr} {ifs : List PySem.Expr} {scope : Scope} {pos : Pos} {cl : List (Str × Addr)} {ds : List PyData} {keep : PyData → Bool} {f : PyData → PyData} (hh : A.handled = none)
    (hsw : swapsWith (.ListComp elt [⟨target, iter, ifs, 0⟩] scope pos) (some (.Name y py)) spos.line env = pure true) (hk : env.kindOf y = some .local) (hμ : ∀ ds, μ ≠ some (y, ds))
    (ht : (∃ x p, target = .Name x p) ∨ (∃ es k p, target = .Tuple es k p)) (hkind : scope.kind = .function) (hclos : closureFor scope env = pure cl)
    (hnames : ∀ y ∈ scope.names, y.2 = .local → scope.names.lookup y.1 = some .local)
    (hiter : Ev prog w A env ρ σ iter (.list ds)) (hsz : ds.length ≤ sizeLine)
    (hσ' : ∀ C x d, σ'.lookup x = some d → σ.lookup x = some d ∧ ∀ c, env.cells.lookup x = some c → (cellsFrom (C + 1) scope.names cl).lookup x = some c)
    (turn : ∀ C d, d ∈ ds → ∃ ρi σi, As prog w A (compX scope (cellsFrom (C + 1) scope.names cl) C env) target d ((cellsFrom (C + 1) scope.names []).map (·.2)) [] σ' none ρi σi ∧ (∀ x e, σ'.lookup x = some e → σi.lookup x = some e) ∧
      Tst prog w A (compX scope (cellsFrom (C + 1) scope.names cl) C env) ρi σi ifs (keep d) ∧ (keep d = true → Ev prog w A (compX scope (cellsFrom (C + 1) scope.names cl) C env) ρi σi elt (f d)))
    (hs : ∀ x, foldedSetIterable iter env x = pure x := by intro _; rfl) :
    S1 prog w A env (.Assign [.Name y py] (.ListComp elt [⟨target, iter, ifs, 0⟩] scope pos) spos) ρ σ μ ((y, .list ((ds.filter keep).map f)) :: ρ) σ μ := fun fz₀ kp fz s a => by
  rw [exec_Assign_Name_used _ _ _ _ hsw]
  refine wpAny_bind (wpAny_standAt (wpAny_bind ?_))
  show wpAny _ A (do let _ ← comprehension (.ListComp elt [⟨target, iter, ifs, 0⟩] scope pos) scope env _ (newList []) false (eval iter env) (some (PySem.assign (.Name y py) env))) _ _ s
  refine wpAny_bind (wpAny_mono (wpAny_comprehension_free (use := some (PySem.assign (.Name y py) env)) (Q := fun _ s' => ∃ fz', At w fz₀ kp env ((y, .list ((ds.filter keep).map f)) :: ρ) σ μ fz' s'.heap ∧ Same s s' ∧ Inc fz fz') rfl hs hclos hkind hnames
    (wpAny_mono (hiter fz s a.ok) (fun xv s₁ ⟨fz₁, m₁, e₁, r₁⟩ => ?_) fun _ _ e => e)) (fun _ s' hq => wpAny_pure (wpAny_pure ⟨rfl, hq⟩)) fun _ _ e => e)
  obtain ⟨l, vs, rfl, hl, rs⟩ := r₁.list_inv
  refine wpAny_mono (comp_core (RR := fun acc C s' => wpAny (model prog w) A (PySem.assign (.Name y py) env acc) (fun _ s'' => ∃ m, s''.heap.Ns C m ∧ ∀ h', Heap.SameBut C s''.heap h' → ∃ fz', At w fz₀ kp env ((y, .list ((ds.filter keep).map f)) :: ρ) σ μ fz' h' ∧ Same s { s'' with heap := h' } ∧ Inc fz fz') Nope s')
    hh ht hkind (a.ok.mv m₁) hl rs hsz hσ' turn (fun D s' fz' C m mv same rd hn hf hg => ?_)) (fun it s₂ h₂ => wpAny_mono h₂ (fun acc s₃ h₃ => wpAny_mono h₃ (fun cenv s₄ h₄ => codeAny_mono h₄ fun r s' hr => ?_) fun _ _ e => e) fun _ _ e => e) fun _ _ e => e
  · have a₂ := (a.step m₁).step mv
    have hL : C ≠ env.locals := by
      rintro rfl
      obtain ⟨m', ⟨o, _, _, ho, _⟩, _⟩ := (a.step m₁).ok.loc
      rw [hg] at ho; cases ho
    refine wpAny_assign_Name ?_
    obtain ⟨mL, hnL, hbL⟩ := a₂.ok.loc
    refine wpAny_storeName_local hk hnL (fun h₂ hn₂ hs₂ => ⟨m, hn.sameBut hs₂ hL, fun h' hs' => ⟨fz', ?_, ⟨(e₁.trans same).os, (e₁.trans same).gens⟩, m₁.ff.trans mv.ff⟩⟩) (by rw [a.ok.kind]; rfl)
    have a₃ := a₂.store hs₂ (fun m₁ hm₁ => by rw [ns_unique hm₁ hnL]) hn₂ rd hμ
    refine a₃.but (X := [C]) (fun b o hb e => (hs'.2 b (by simpa using hb)).trans e) (fun hm => hL (List.mem_singleton.mp hm).symm) (by simpa using hf) (fun b hb => ?_) (fun b hb v => ?_) (fun b hb v => ?_)
    · rw [List.mem_singleton.mp hb]
      cases e : kp.get? C with
      | none => rfl
      | some o => rw [(a.step m₁).mv.hh _ _ e] at hg; cases hg
    · rw [List.mem_singleton.mp hb]; exact not_cell_of_ns (hn.sameBut hs₂ hL) v
    · rw [List.mem_singleton.mp hb]; exact not_list_of_ns (hn.sameBut hs₂ hL) v
  · obtain ⟨rfl, hr⟩ := hr
    exact hr

-- a place moved: [[1, 0, 2][place] for place in places]
def pl (ps : List Int) : PyData := .list (ps.map .int)
def pick (t : List Int) (ps : List Int) : List Int := ps.map fun p => t.getD p.toNat 0
def moveAp (ps : List Int) : List Int := pick [1, 0, 2] ps
def moveQm (ps : List Int) : List Int := pick [2, 1, 0] ps
def mv (ps : List Int) (c : Str) : List Int := if c = Str.ofString "'" then moveAp ps else if c = Str.ofString "\"" then moveQm ps else ps
def Pl (ps : List Int) : Prop := ps.length = 3 ∧ ∀ p ∈ ps, 0 ≤ p ∧ p < 3
end
end Mine
set_option maxRecDepth 100000
namespace Mine
section
variable {prog : Program} {w : World} {A : Around} {env : Env} {ρ σ σ' : List (Str × PyData)}

def pickD (t : List Int) : PyData → PyData
  | .int p => .int (t.getD p.toNat 0)
  | _ => .none
theorem pickD_map (t ps : List Int) : (List.map (pickD t) (List.filter (fun _ => true) (ps.map PyData.int))) = (pick t ps).map PyData.int := by
  induction ps with
  | nil => rfl
  | cons p r ih => simp only [List.map_cons, pick, List.filter_cons, if_true] at ih ⊢; rw [ih]; rfl

theorem ct_move {ps : List Int} {c : Str} (hp : Pl ps) : Ct prog w 56 1 [pl ps, .str c] (pl (mv ps c)) := by
  refine fn_move.enter2 "places" "sign" (by decide) (fun u v => by kernel_rfl) (by kernel_rfl) (by kernel_rfl) fun A L room => ?_
  have hsz : (ps.map PyData.int).length ≤ sizeLine := by rw [List.length_map, hp.1]; decide
  refine Bd.ifret (b := decide (c = "'")) (.cmp (.loc (by rfl) (by kernel_rfl) (by decide)) .str fun _ _ _ _ i a b => tr_eq_str i a b) (fun hb => ?_) fun hb => ?_
  · have e : pl (mv ps c) = .list (List.map (pickD [1, 0, 2]) (List.filter (fun _ => true) (ps.map PyData.int))) := by
      rw [pickD_map]; unfold mv; rw [if_pos (of_decide_eq_true hb)]; rfl
    rw [e]
    refine Bd.ret (.comp (σ' := []) (cl := []) room.handled (.inl ⟨_, _, rfl⟩) (by rfl) (by rfl) (by decide +kernel) (.loc (by rfl) (by kernel_rfl) (by decide)) hsz (fun _ _ _ e => by cases e) fun C d hd => ?_)
    obtain ⟨p, hpm, rfl⟩ := List.mem_map.mp hd
    have hp' := hp.2 p hpm
    refine ⟨_, [], .name (fun _ => by simp) (by kernel_rfl), fun _ _ e => e, .nil, fun _ => ?_⟩
    refine .item (.list (.cons .int rfl (.cons .int rfl (.cons .int rfl .nil))) (by decide)) (.loc (by rfl) (by kernel_rfl) (by decide)) hp'.1 (by omega) ?_
    obtain ⟨n, rfl⟩ := Int.eq_ofNat_of_zero_le hp'.1
    match n, (show n < 3 by omega) with
    | 0, _ => rfl
    | 1, _ => rfl
    | 2, _ => rfl
  · refine Bd.ifret (b := decide (c = "\"")) (.cmp (.loc (by rfl) (by kernel_rfl) (by decide)) .str fun _ _ _ _ i a b => tr_eq_str i a b) (fun hb' => ?_) fun hb' => ?_
    · have e : pl (mv ps c) = .list (List.map (pickD [2, 1, 0]) (List.filter (fun _ => true) (ps.map PyData.int))) := by
        rw [pickD_map]; unfold mv; rw [if_neg (of_decide_eq_false hb), if_pos (of_decide_eq_true hb')]; rfl
      rw [e]
      refine Bd.ret (.comp (σ' := []) (cl := []) room.handled (.inl ⟨_, _, rfl⟩) (by rfl) (by rfl) (by decide +kernel) (.loc (by rfl) (by kernel_rfl) (by decide)) hsz (fun _ _ _ e => by cases e) fun C d hd => ?_)
      obtain ⟨p, hpm, rfl⟩ := List.mem_map.mp hd
      have hp' := hp.2 p hpm
      refine ⟨_, [], .name (fun _ => by simp) (by kernel_rfl), fun _ _ e => e, .nil, fun _ => ?_⟩
      refine .item (.list (.cons .int rfl (.cons .int rfl (.cons .int rfl .nil))) (by decide)) (.loc (by rfl) (by kernel_rfl) (by decide)) hp'.1 (by omega) ?_
      obtain ⟨n, rfl⟩ := Int.eq_ofNat_of_zero_le hp'.1
      match n, (show n < 3 by omega) with
      | 0, _ => rfl
      | 1, _ => rfl
      | 2, _ => rfl
    · have e : mv ps c = ps := by unfold mv; rw [if_neg (of_decide_eq_false hb), if_neg (of_decide_eq_false hb')]
      rw [e]
      exact Bd.ret (.loc (by rfl) (by kernel_rfl) (by decide))
end
end Mine
set_option maxRecDepth 100000
namespace Mine
section
variable {prog : Program} {w : World} {A : Around} {env : Env} {ρ σ ρ' σ' : List (Str × PyData)} {μ μ' : Option (Str × List PyData)} {fz₀ kp fz : Heap} {s : Shared}

/-- a name is bound to a list of its own -/
theorem At.storeOwn {h h' : Heap} (a : At w fz₀ kp env ρ σ none fz h) {x : Str} {r : Addr} {vs : List Value} {ds : List PyData} {m' : Str → Option Value} (hs : Heap.SameBut env.locals h h') (hm' : ∀ m, h.Ns env.locals m → m' = fun z => if z = x then some (.ref r) else m z)
    (hn' : h'.Ns env.locals m') (hx : ρ.lookup x = none) (hl : h.PlainList r vs.toArray) (rd : Rds fz vs ds) (hf : fz.get? r = none) (hp : kp.get? r = none) (hL : r ≠ env.locals) : At w fz₀ kp env ρ σ (some (x, ds)) fz h' := by
  obtain ⟨m, hn, hb⟩ := a.ok.loc
  have e' := hm' m hn
  subst e'
  have keep : ∀ b o, b ≠ env.locals → h.get? b = some o → h'.get? b = some o := fun b o hb e => (hs.2 b hb).trans e
  refine ⟨{ a.ok with inc := fun b o e => keep b o (fun hb => by rw [hb, a.ok.hid] at e; cases e) (a.ok.inc b o e), loc := ⟨_, hn', fun z d' e => ?_⟩, cel := fun z d' e => ?_ },
    ⟨a.mv.ff, fun b o e => keep b o (fun hb => by rw [hb, a.new] at e; cases e) (a.mv.hh b o e), fun b o e => keep b o (fun hb => by rw [hb, a.ok.hid] at e; cases e) (a.mv.fh b o e), a.mv.old⟩, a.new, fun z ds' e => ?_⟩
  · have hz : z ≠ x := fun hz => by rw [hz, hx] at e; cases e
    obtain ⟨u, p, q⟩ := hb z d' e
    exact ⟨u, by simp [hz, p], q⟩
  · obtain ⟨c, u, p, q, r⟩ := a.ok.cel z d' e
    refine ⟨c, u, p, ?_, r⟩
    have hc : c ≠ env.locals := fun e => not_cell_of_ns hn _ (e ▸ q)
    obtain ⟨o, ho, hd⟩ := q
    exact ⟨o, keep c o hc ho, hd⟩
  · cases e
    exact ⟨r, vs, ⟨_, hn', by simp⟩, hl.at fun o e => keep r o hL e, rd, hf, hp, hL⟩

/-- an expression that makes a list of its own -/
def Eo (prog : Program) (w : World) (A : Around) (env : Env) (ρ σ : List (Str × PyData)) (e : PySem.Expr) (ds : List PyData) : Prop :=
  ∀ fz s, EOk w env ρ σ fz s.heap → wpAny (model prog w) A (eval e env) (fun v s' => ∃ fz' r vs, v = .ref r ∧ Mv fz s.heap fz' s'.heap ∧ Same s s' ∧ s'.heap.PlainList r vs.toArray ∧ Rds fz' vs ds ∧ fz'.get? r = none ∧ s.heap.get? r = none) Nope s
theorem Eo.list {es : List PySem.Expr} {ds : List PyData} {pos : Pos} (h : Evs prog w A env ρ σ es ds) (hsz : ds.length ≤ sizeLine) : Eo prog w A env ρ σ (.List es pos) ds := fun fz s ok => by
  rw [arm_eval_List]
  refine wpAny_bind (wpAny_standAt (wpAny_bind (wpAny_mono (h.spliced fz s ok) (fun vs s₁ ⟨fz₁, m₁, q₁, r₁⟩ => ?_) fun _ _ x => x)))
  refine wpAny_newList ⟨fz₁, s₁.heap.objs.size, vs, rfl, m₁.trans (Mv.up m₁.fh (inc_push _ _)), ⟨q₁.os, q₁.gens⟩, ⟨_, Heap.get?_push_size _ rfl⟩, r₁, ?_, ?_⟩ (by rw [r₁.length]; exact hsz)
  · cases e : fz₁.get? s₁.heap.objs.size with
    | none => rfl
    | some o => have := m₁.fh _ _ e; rw [get_new] at this; cases this
  · cases e : s.heap.get? s₁.heap.objs.size with
    | none => rfl
    | some o => have := m₁.hh _ _ e; rw [get_new] at this; cases this

theorem eval_tuple2 {e₁ e₂ : PySem.Expr} {k : Nat} {pos : Pos} (h1 : isStarred e₁ = false) (h2 : isStarred e₂ = false) {Q : Value → Shared → Prop} {E : Value → Shared → Prop}
    (h : wpAny (model prog w) A (eval e₁ env) (fun v s₁ => wpAny (model prog w) A (eval e₂ env) (fun u s₂ => Q (.ref s₂.heap.objs.size) { s₂ with heap := s₂.heap.push { cls := .type "tuple", data := .seq #[v, u] } }) E s₁) E s) :
    wpAny (model prog w) A (eval (.Tuple [e₁, e₂] k pos) env) Q E s := by
  rw [arm_eval_Tuple]
  refine wpAny_bind (wpAny_standAt (wpAny_bind ?_))
  rw [starEach_plain h1, starEach_plain h2]
  refine Calls.spliced_cons (wpAny_mono h (fun v s₁ h₁ => Calls.spliced_cons (wpAny_mono h₁ (fun u s₂ h₂ => Calls.spliced_nil ?_) fun _ _ x => x)) fun _ _ x => x)
  exact wpAny_newTuple h₂ (by show 2 ≤ sizeLine; decide)

/-- x, y = ([..], e) : x a list of its own -/
theorem S1.twoOwn {x y : Str} {px py tpos spos vpos : Pos} {k k' : Nat} {e₁ e₂ : PySem.Expr} {ds : List PyData} {d : PyData} (hh : A.handled = none) (h₁ : Eo prog w A env ρ σ e₁ ds) (h₂ : Ev prog w A env ρ σ e₂ d) (s1 : isStarred e₁ = false) (s2 : isStarred e₂ = false)
    (hx : ((y, d) :: ρ).lookup x = none) (hkx : env.kindOf x = some .local) (hky : env.kindOf y = some .local)
    (hs : swapsWithSole [.Tuple [.Name x px, .Name y py] k tpos] (.Tuple [e₁, e₂] k' vpos) spos.line env = pure false)
    (hw : swappedStores [.Tuple [.Name x px, .Name y py] k tpos] (.Tuple [e₁, e₂] k' vpos) env = pure (some [x, y])) :
    S1 prog w A env (.Assign [.Tuple [.Name x px, .Name y py] k tpos] (.Tuple [e₁, e₂] k' vpos) spos) ρ σ none ((y, d) :: ρ) σ (some (x, ds)) := fun fz₀ kp fz s a => by
  refine Assign_Tuple_swapped (names := [x, y]) (eval_tuple2 s1 s2 (wpAny_mono (h₁ fz s a.ok) (fun v s₁ ⟨fz₁, r, vs, hv, m₁, q₁, hl, rd, hf, hg⟩ => ?_) fun _ _ x => x)) hs hw
  subst hv
  refine wpAny_mono (h₂ fz₁ s₁ (a.ok.mv m₁)) (fun u s₂ ⟨fz₂, m₂, q₂, r₂⟩ => ?_) fun _ _ x => x
  refine wpAny_unpackItems_tuple (items := #[.ref r, u]) (s := { s₂ with heap := _ }) hh ⟨_, Heap.get?_push_size _ rfl, rfl, _, rfl⟩ fun h' he => ?_
  have i' : Inc s₂.heap h' := fun b o e => he b o (Nat.ne_of_lt (Nat.lt_of_lt_of_le (Heap.lt_size e) (by show s₂.heap.objs.size ≤ (s₂.heap.push _).objs.size; rw [Heap.size_push]; exact Nat.le_succ _))) (Heap.get?_push_of_some _ e)
  have a' := ((a.step m₁).step m₂).step (Mv.up m₂.fh i')
  have hr : kp.get? r = none := by
    cases e : kp.get? r with
    | none => rfl
    | some o => rw [a.mv.hh _ _ e] at hg; cases hg
  have hrL : r ≠ env.locals := fun e => by
    obtain ⟨m, ⟨o, _, _, ho, _⟩, _⟩ := a.ok.loc
    rw [← e, hg] at ho; cases ho
  have hl₂ : h'.PlainList r vs.toArray := (hl.at fun o e => m₂.hh _ _ e).at fun o e => i' _ _ e
  have hf₂ : fz₂.get? r = none := by obtain ⟨n, ho⟩ := hl; exact m₂.old r _ ho hf
  show wpAny _ _ (holding [.ref r] (bindName env y u) >>= fun _ => (holding [] (bindName env x (.ref r)) >>= fun _ => pure ())) _ _ _
  refine wpAny_bind (wpAny_holding (wpAny_bindName ?_))
  obtain ⟨m, hn, hb⟩ := a'.ok.loc
  refine wpAny_storeName_local hky hn (fun h₃ hn₃ hs₃ => ?_) (by rw [a.ok.kind]; rfl)
  have a₃ := a'.store hs₃ (fun m₁ hm₁ => by rw [ns_unique hm₁ hn]) hn₃ r₂ (fun _ => by simp)
  refine wpAny_bind (wpAny_holding (wpAny_bindName (wpAny_storeName_local hkx hn₃ (fun h₄ hn₄ hs₄ => ?_) (by rw [a.ok.kind]; rfl))))
  have a₄ := a₃.storeOwn hs₄ (fun m₁ hm₁ => by rw [ns_unique hm₁ hn₃]) hn₄ hx (hl₂.at fun o e => (hs₃.2 r hrL).trans e) (rd.up m₂.ff) hf₂ hr hrL
  exact wpAny_pure ⟨rfl, fz₂, a₄, ⟨(q₁.trans q₂).os, (q₁.trans q₂).gens⟩, m₁.ff.trans m₂.ff⟩

/-- x, y = (e, e') -/
theorem S1.two {x y : Str} {px py tpos spos vpos : Pos} {k k' : Nat} {e₁ e₂ : PySem.Expr} {d₁ d₂ : PyData} (hh : A.handled = none) (h₁ : Ev prog w A env ρ σ e₁ d₁) (h₂ : Ev prog w A env ρ σ e₂ d₂) (s1 : isStarred e₁ = false) (s2 : isStarred e₂ = false)
    (hkx : env.kindOf x = some .local) (hky : env.kindOf y = some .local)
    (hs : swapsWithSole [.Tuple [.Name x px, .Name y py] k tpos] (.Tuple [e₁, e₂] k' vpos) spos.line env = pure false)
    (hw : swappedStores [.Tuple [.Name x px, .Name y py] k tpos] (.Tuple [e₁, e₂] k' vpos) env = pure (some [x, y])) :
    S1 prog w A env (.Assign [.Tuple [.Name x px, .Name y py] k tpos] (.Tuple [e₁, e₂] k' vpos) spos) ρ σ none ((x, d₁) :: (y, d₂) :: ρ) σ none := fun fz₀ kp fz s a => by
  refine Assign_Tuple_swapped (names := [x, y]) (eval_tuple2 s1 s2 (wpAny_mono (h₁ fz s a.ok) (fun v s₁ ⟨fz₁, m₁, q₁, r₁⟩ => ?_) fun _ _ x => x)) hs hw
  refine wpAny_mono (h₂ fz₁ s₁ (a.ok.mv m₁)) (fun u s₂ ⟨fz₂, m₂, q₂, r₂⟩ => ?_) fun _ _ x => x
  refine wpAny_unpackItems_tuple (items := #[v, u]) (s := { s₂ with heap := _ }) hh ⟨_, Heap.get?_push_size _ rfl, rfl, _, rfl⟩ fun h' he => ?_
  have i' : Inc s₂.heap h' := fun b o e => he b o (Nat.ne_of_lt (Nat.lt_of_lt_of_le (Heap.lt_size e) (by show s₂.heap.objs.size ≤ (s₂.heap.push _).objs.size; rw [Heap.size_push]; exact Nat.le_succ _))) (Heap.get?_push_of_some _ e)
  have a' := ((a.step m₁).step m₂).step (Mv.up m₂.fh i')
  show wpAny _ _ (holding [v] (bindName env y u) >>= fun _ => (holding [] (bindName env x v) >>= fun _ => pure ())) _ _ _
  refine wpAny_bind (wpAny_holding (wpAny_bindName (wpAny_mono (wp_store (s := { s₂ with heap := h' }) a' hky r₂ (fun _ => by simp)) (fun _ s₃ ⟨a₃, e₃⟩ => ?_) fun _ _ x => x)))
  refine wpAny_bind (wpAny_holding (wpAny_bindName (wpAny_mono (wp_store a₃ hkx (r₁.up m₂.ff) (fun _ => by simp)) (fun _ s₄ ⟨a₄, e₄⟩ => ?_) fun _ _ x => x)))
  exact wpAny_pure ⟨rfl, fz₂, a₄, ⟨(e₃.trans e₄).os.trans (q₁.trans q₂).os, (e₃.trans e₄).gens.trans (q₁.trans q₂).gens⟩, m₁.ff.trans m₂.ff⟩

/-- x.append(e) -/
theorem S1.append {x : Str} {p apos cpos pos : Pos} {e : PySem.Expr} {ds : List PyData} {d : PyData} (h : Ev prog w A env ρ σ e d) (hst : isStarred e = false) (hk : env.kindOf x = some .local) (hd : (x == ("__debug__" : Str)) = false) (hsz : ds.length ≤ sizeLine)
    (hbase : attributeBase (.Name x p) "append" env (eval (.Name x p) env) = eval (.Name x p) env := by rfl)
    (hline : (apos.endLine == cpos.line) = true := by rfl) (hi : interactive env = false := by rfl) :
    S1 prog w A env (.Expr (.Call (.Attribute (.Name x p) "append" apos) [e] [] cpos) pos) ρ σ (some (x, ds)) ρ σ (some (x, ds ++ [d])) := fun fz₀ kp fz s a => by
  obtain ⟨r, vs, ⟨m, hn, hm⟩, hl, rd, h1, h2, h3⟩ := a.own x ds rfl
  refine wpAny_Expr_any ?_ hi rfl
  have hs1 : starEach [e] env = [(false, eval e env)] := starEach_plain hst
  refine Call_method1 hbase hs1 hline (wpAny_Name (wpAny_loadName_local a.ok.kind hk hn hm ?_) hd)
  obtain ⟨n, ho⟩ := id hl
  refine ⟨"list", "list.append", PySem.F.plainAttrs_list, slot_list_append, PySem.F.type_list_append, hl.isList.typeIs, fun b hb => by cases hb; exact ⟨_, ho, rfl⟩, ?_⟩
  refine Calls.callWith_builtin rfl (Calls.evalArgs_plain (Calls.spliced_cons (wpAny_mono (h fz s a.ok) (fun v s₁ ⟨fz₁, m₁, q₁, r₁⟩ => Calls.spliced_nil ?_) fun _ _ x => x)))
  have a₁ := a.step m₁
  have hl₁ : s₁.heap.PlainList r vs.toArray := hl.at fun o e => m₁.hh _ _ e
  refine wpAny_list_append_plain hl₁ (fun h' hl' hs' => ⟨rfl, fz₁, ?_, ⟨q₁.os, q₁.gens⟩, m₁.ff⟩) (by simpa [rd.length] using hsz)
  have f₁ : fz₁.get? r = none := m₁.old r _ ho h1
  have a₂ := a₁.drop.but0 (X := [r]) (h' := h') (fun b o hb e => (hs'.2 b (by simpa using hb)).trans e) (fun hm => h3 (List.mem_singleton.mp hm).symm) (by simpa using f₁) (by simpa using h2) (by simpa using not_cell_of_list hl₁.isList)
  refine { a₂ with own := fun z ds' e => ?_ }
  cases e
  have hn' : h'.Ns env.locals m := (hn.keeps m₁.hh).sameBut hs' (Ne.symm h3)
  exact ⟨r, vs ++ [v], ⟨m, hn', hm⟩, by simpa using hl', (rd.up m₁.ff).append (Rds.cons r₁ Rds.nil), f₁, h2, h3⟩
end
end Mine
set_option maxRecDepth 100000
namespace Mine
section
variable {prog : Program} {w : World} {A : Around} {env : Env} {ρ σ ρ' σ' : List (Str × PyData)} {μ μ' : Option (Str × List PyData)} {fz₀ kp fz : Heap} {s : Shared}

theorem fields_not {h : Heap} {I : Addr} (x : ∃ o vs, h.get? I = some o ∧ o.data = .fields vs) : (∀ v, ¬ h.IsCell I v) ∧ (∀ vs, ¬ h.IsList I vs) ∧ ∀ m, ¬ h.Ns I m := by
  obtain ⟨o, vs, ho, hd⟩ := x
  refine ⟨fun v ⟨o', ho', hd'⟩ => ?_, fun v ⟨o', ho', _, _, hd'⟩ => ?_, fun m ⟨o', _, _, ho', hd', _⟩ => ?_⟩ <;> (rw [ho] at ho'; cases ho'; rw [hd] at hd'; cases hd')

theorem for_walk {target : PySem.Expr} {body : List Stmt} {I : Addr} {fp : List Addr} {n : Nat} {P : Nat → Value → Prop} {St : Nat → Heap → Prop} (R : Nat → List (Str × PyData)) (M : Nat → Option (Str × List PyData)) (D : Nat → PyData)
    (W : Walks prog w A I fp [I] n P St) (hI : ∀ i h, St i h → ∃ o vs, h.get? I = some o ∧ o.data = .fields vs)
    (hgo : ∀ i (s : Shared) (v : Value) (Q : Unit → Shared → Prop) (E : Value → Shared → Prop), St i s.heap → Q () s → wpAny (model prog w) A (letOwnedTupleGo target (.ref I) v) Q E s)
    (a : At w fz₀ kp env (R 0) σ (M 0) fz s.heap) (st : St 0 s.heap) (fI : fz.get? I = none) (kI : kp.get? I = none) (hD : ∀ i v, i < n → P i v → Rd fz v (D i)) (hfp : ∀ b ∈ fp, b ≠ I → ∃ o, fz.get? b = some o)
    (has : ∀ i, i < n → ∃ ρi, As prog w A env target (D i) [] (R i) σ (M i) ρi σ ∧ Sx prog w A env body ρi σ (M i) (R (i + 1)) σ (M (i + 1))) :
    codeAny (model prog w) A (.forLoop target (.ref I) body [] env) (fun r s' => r = .ok .next ∧ ∃ fz', At w fz₀ kp env (R n) σ (M n) fz' s'.heap ∧ Same s s' ∧ Inc fz fz') s := by
  refine codeAny_forLoop_any (fun k s' => ∃ fz' i, At w fz₀ kp env (R i) σ (M i) fz' s'.heap ∧ Same s s' ∧ Inc fz fz' ∧ St i s'.heap ∧ fz'.get? I = none ∧ i ≤ n ∧ k = n + 1 - i) ?_ (n + 1) ⟨fz, 0, a, .refl s, .refl _, st, fI, Nat.zero_le _, rfl⟩
  rintro k s' ⟨fz', i, a', same, inc, st', fI', hi, rfl⟩
  have nL : env.locals ∉ [I] := fun hm => by
    obtain ⟨m, hn, _⟩ := a'.ok.loc
    exact (fields_not (hI _ _ st')).2.2 m (List.mem_singleton.mp hm ▸ hn)
  have but : ∀ h₁, (∀ b o, b ∉ [I] → s'.heap.get? b = some o → h₁.get? b = some o) → At w fz₀ kp env (R i) σ (M i) fz' h₁ := fun h₁ hk =>
    a'.but hk nL (by simpa using fI') (by simpa using kI) (fun b hb v => by rw [List.mem_singleton.mp hb]; exact (fields_not (hI _ _ st')).1 v) (fun b hb v => by rw [List.mem_singleton.mp hb]; exact (fields_not (hI _ _ st')).2.1 v)
  by_cases hlt : i < n
  · refine W.item i s' _ _ hlt st' fun v h₁ tk hPv st₁ hk₁ => ?_
    have a₁ := but h₁ hk₁
    refine hgo (i + 1) _ v _ _ st₁ ?_
    obtain ⟨ρi, h1, h2⟩ := has i hlt
    refine wpAny_mono (h1 fz₀ kp fz' { s' with heap := h₁, toks := tk } v a₁ ((hD i v hlt hPv).up inc) (fun c hc => nomatch hc)) (fun _ s₂ ⟨a₂, e₂, k₂, _⟩ => ?_) fun _ _ x => x.elim
    obtain ⟨kp₁, a₂', hkp, back⟩ := a₂.here
    obtain ⟨o, vs, ho, hod⟩ := hI _ _ st₁
    have hIL : I ≠ env.locals := fun e => nL (List.mem_singleton.mpr e.symm)
    have hI₂ : s₂.heap.get? I = some o := k₂ I o hIL (by simp) ho
    have hIk : kp₁.get? I = some o := hkp I o hI₂ hIL fun x ds r m e hn hm hr => by
      obtain ⟨r', vs', ⟨m', hn', hm'⟩, hl', _⟩ := a₂.own x ds e
      rw [ns_unique hn' hn, hm] at hm'
      cases hm'
      subst hr
      exact (fields_not ⟨o, vs, hI₂, hod⟩).2.1 _ hl'.isList
    refine wpAny_mono (h2 fz' kp₁ fz' s₂ a₂') (fun f s₃ ⟨hf, fz₃, a₃, e₃, i₃⟩ => ?_) fun _ _ x => x.elim
    subst hf
    refine ⟨n + 1 - (i + 1), by omega, fz₃, i + 1, back _ _ _ _ _ a₃, ?_, inc.trans i₃, ?_, a₃.mv.old I o hIk fI', hlt, rfl⟩
    · exact ⟨(e₃.os.trans e₂.os).trans same.os, (e₃.gens.trans e₂.gens).trans same.gens⟩
    · refine W.frame _ h₁ _ st₁ fun b hb o' e => ?_
      by_cases hbI : b = I
      · subst hbI
        rw [ho] at e; cases e
        exact a₃.mv.hh _ _ hIk
      · obtain ⟨o'', e''⟩ := hfp b hb hbI
        have h1 := a₁.ok.inc _ _ (inc _ _ e'')
        rw [e] at h1; cases h1
        exact a₃.ok.inc _ _ (i₃ _ _ (inc _ _ e''))
  · have hin : i = n := by omega
    subst hin
    refine W.done s' _ _ st' fun h₁ tk hk₁ => wpAny_execs_nil ⟨rfl, fz', but h₁ hk₁, ⟨same.os, same.gens⟩, inc⟩

theorem S1.forStr {x : Str} {px pos : Pos} {iter : PySem.Expr} {body : List Stmt} {t : Str} (R : Nat → List (Str × PyData)) (M : Nat → Option (Str × List PyData)) (hh : A.handled = none) (hi : Ev prog w A env (R 0) σ iter (.str t))
    (hk : env.kindOf x = some .local) (hM : ∀ i ds, M i ≠ some (x, ds)) (step : ∀ i c, t.cps[i]? = some c → Sx prog w A env body ((x, .str ⟨#[c]⟩) :: R i) σ (M i) (R (i + 1)) σ (M (i + 1)))
    (hs : ∀ v, foldedSetIterable iter env v = pure v := by intro _; rfl) :
    S1 prog w A env (.For (.Name x px) iter body [] pos) (R 0) σ (M 0) (R t.cps.size) σ (M t.cps.size) := fun fz₀ kp fz s a => by
  refine wpAny_For (wpAny_mono (hi fz s a.ok) (fun v s₁ ⟨fz₁, m₁, q₁, r₁⟩ => ?_) fun _ _ x => x) hs
  obtain ⟨tk, rfl⟩ := r₁.str_inv
  have a₁ := a.step m₁
  have fI : fz₁.get? s₁.heap.objs.size = none := by
    cases e : fz₁.get? s₁.heap.objs.size with
    | none => rfl
    | some o => have := m₁.fh _ _ e; rw [get_new] at this; cases this
  have kI : kp.get? s₁.heap.objs.size = none := by
    cases e : kp.get? s₁.heap.objs.size with
    | none => rfl
    | some o => have := a₁.mv.hh _ _ e; rw [get_new] at this; cases this
  have go : ∀ {St : Nat → Heap → Prop} (o : Obj), Walks prog w A s₁.heap.objs.size [s₁.heap.objs.size] [s₁.heap.objs.size] t.cps.size (SignAt t) St → St 0 (s₁.heap.push o) → (∀ i h, St i h → ∃ o vs, h.get? s₁.heap.objs.size = some o ∧ o.data = .fields vs) →
      codeAny (model prog w) A (.forLoop (.Name x px) (.ref s₁.heap.objs.size) body [] env) (fun r s' => match r with | .ok f => f = .next ∧ ∃ fz', At w fz₀ kp env (R t.cps.size) σ (M t.cps.size) fz' s'.heap ∧ Same s s' ∧ Inc fz fz' | .error e => cameBackBy (model prog w) A env Nope e s') { s₁ with heap := s₁.heap.push o } := by
    intro St o W st hI
    refine codeAny_mono (for_walk R M (fun i => .str ⟨#[t.cps.getD i 0]⟩) W hI (fun _ _ _ _ _ _ h => wpAny_pure h) (s := { s₁ with heap := s₁.heap.push o }) (a₁.step (Mv.up a₁.ok.inc (inc_push _ _))) st fI kI (fun i v hi ⟨c, u, hc, hv⟩ => ?_) (fun b hb hne => absurd (List.mem_singleton.mp hb) hne) fun i hi => ?_) fun r s' ⟨hr, fz', a', e', i'⟩ => ?_
    · subst hv
      have : t.cps.getD i 0 = c := by simp [Array.getD_eq_getD_getElem?, hc]
      rw [this]; exact .str
    · refine ⟨_, .name (hM i) hk, ?_⟩
      refine step i _ ?_
      simp [hi]
    · subst hr
      exact ⟨rfl, fz', a', ⟨e'.os.trans q₁.os, e'.gens.trans q₁.gens⟩, m₁.ff.trans i'⟩
  cases ha : t.cps.all (· < 128)
  · exact wpAny_pyIter_wide ha (go _ (Walks.strWide hh _ t tk) ⟨_, Heap.get?_push_size _ rfl, rfl, rfl⟩ fun i h ⟨o, ho, _, hd⟩ => ⟨o, _, ho, hd⟩)
  · exact wpAny_pyIter_ascii ha (go _ (Walks.strAscii hh _ t tk) ⟨_, Heap.get?_push_size _ rfl, rfl, rfl⟩ fun i h ⟨o, ho, _, hd⟩ => ⟨o, _, ho, hd⟩)

theorem S1.forList {target : PySem.Expr} {pos : Pos} {iter : PySem.Expr} {body : List Stmt} {ds : List PyData} (R : Nat → List (Str × PyData)) (M : Nat → Option (Str × List PyData)) (hh : A.handled = none) (hi : Ev prog w A env (R 0) σ iter (.list ds))
    (ht : (∃ x p, target = .Name x p) ∨ (∃ es k p, target = .Tuple es k p)) (step : ∀ i d, ds[i]? = some d → ∃ ρi, As prog w A env target d [] (R i) σ (M i) ρi σ ∧ Sx prog w A env body ρi σ (M i) (R (i + 1)) σ (M (i + 1)))
    (hs : ∀ v, foldedSetIterable iter env v = pure v := by intro _; rfl) :
    S1 prog w A env (.For target iter body [] pos) (R 0) σ (M 0) (R ds.length) σ (M ds.length) := fun fz₀ kp fz s a => by
  refine wpAny_For (wpAny_mono (hi fz s a.ok) (fun v s₁ ⟨fz₁, m₁, q₁, r₁⟩ => ?_) fun _ _ x => x) hs
  obtain ⟨l, vs, rfl, hl, rs⟩ := r₁.list_inv
  have a₁ := a.step m₁
  have fI : fz₁.get? s₁.heap.objs.size = none := by
    cases e : fz₁.get? s₁.heap.objs.size with
    | none => rfl
    | some o => have := m₁.fh _ _ e; rw [get_new] at this; cases this
  have kI : kp.get? s₁.heap.objs.size = none := by
    cases e : kp.get? s₁.heap.objs.size with
    | none => rfl
    | some o => have := a₁.mv.hh _ _ e; rw [get_new] at this; cases this
  have hl₁ := isList_up hl m₁.fh
  have hne : l ≠ s₁.heap.objs.size := fun e => by obtain ⟨o, ho, _⟩ := hl₁; rw [e, get_new] at ho; cases ho
  refine wpAny_pyIter_list hl₁ ?_
  refine codeAny_mono (for_walk R M (fun i => ds.getD i .none) (n := vs.toArray.size) (Walks.list hh _ l hne vs.toArray) (fun i h ⟨⟨o, ho, _, hd⟩, _⟩ => ⟨o, _, ho, hd⟩) (fun i s v Q E st h => letGo_any ht st.1 h) (s := { s₁ with heap := _ }) (a₁.step (Mv.up a₁.ok.inc (inc_push _ _)))
    ⟨⟨_, Heap.get?_push_size _ rfl, rfl, rfl⟩, hl₁.push _⟩ fI kI (fun i v hi hv => ?_) (fun b hb hne => ?_) fun i hi => ?_) fun r s' ⟨hr, fz', a', e', i'⟩ => ?_
  · obtain ⟨d, hd, r⟩ := rs.get (show vs[i]? = some v by simpa using hv)
    simp only [List.getD_eq_getElem?_getD, hd, Option.getD_some]; exact r
  · simp at hb
    rcases hb with rfl | rfl
    · exact absurd rfl hne
    · obtain ⟨o, ho, _⟩ := hl; exact ⟨o, ho⟩
  · have hi' : i < ds.length := by have := rs.length; simp at hi; omega
    have e : ds[i]? = some (ds.getD i .none) := by simp [List.getD_eq_getElem?_getD, hi']
    exact step i _ e
  · subst hr
    have : vs.toArray.size = ds.length := by simpa using rs.length
    rw [this] at a'
    exact ⟨rfl, fz', a', ⟨e'.os.trans q₁.os, e'.gens.trans q₁.gens⟩, m₁.ff.trans i'⟩
end
end Mine
set_option maxRecDepth 100000
namespace Mine
section
variable {prog : Program} {w : World} {A : Around} {env : Env} {ρ σ ρ' σ' : List (Str × PyData)}

theorem sub_refl : ∀ y d, ρ.lookup y = some d → ρ.lookup y = some d := fun _ _ e => e
theorem sub_cons {x : Str} {e : PyData} (h : ∀ y d, ρ.lookup y = some d → ρ'.lookup y = some d) : ∀ y d, ((x, e) :: ρ).lookup y = some d → ((x, e) :: ρ').lookup y = some d := fun y d q => by
  rw [List.lookup_cons] at q ⊢
  cases hb : y == x with
  | true => rw [hb] at q; exact q
  | false => rw [hb] at q; exact h y d q
theorem sub_skip {x : Str} {e : PyData} (hx : ρ.lookup x = none) (h : ∀ y d, ρ.lookup y = some d → ρ'.lookup y = some d) : ∀ y d, ρ.lookup y = some d → ((x, e) :: ρ').lookup y = some d := fun y d q => by
  rw [List.lookup_cons]
  cases hb : y == x with
  | true => rw [beq_iff_eq.mp hb, hx] at q; cases q
  | false => exact h y d q

theorem two_le : 2 ≤ sizeLine := by decide
-- the readers, as plain data
def ch (c : Nat) : Str := ⟨#[c]⟩
def mvc (ps : List Int) (c : Nat) : List Int := mv ps (ch c)
abbrev One := List (Nat × List Int) × List Int
def stepR (o : One) (c : Nat) : One := (o.1 ++ [(c, o.2)], mvc o.2 c)
def readS (cs : List Nat) : One := cs.foldl stepR ([], [0, 1, 2])
def entD (x : Nat × List Int) : PyData := .list [.str (ch x.1), pl x.2]
def oneD (o : One) : PyData := .list [.list (o.1.map entD), pl o.2]

theorem pl_id : Pl [0, 1, 2] := ⟨rfl, by decide⟩
theorem pick_pl {t ps : List Int} (h : Pl ps) (ht : ∀ n : Nat, n < 3 → 0 ≤ t.getD n 0 ∧ t.getD n 0 < 3) : Pl (pick t ps) := by
  refine ⟨by rw [pick, List.length_map]; exact h.1, fun p hp => ?_⟩
  obtain ⟨q, hq, rfl⟩ := List.mem_map.mp hp
  have := h.2 q hq
  exact ht _ (by omega)
theorem mv_pl {ps : List Int} {c : Str} (h : Pl ps) : Pl (mv ps c) := by
  unfold mv
  split
  · exact pick_pl h (by intro n hn; match n, hn with | 0, _ => decide | 1, _ => decide | 2, _ => decide)
  · split
    · exact pick_pl h (by intro n hn; match n, hn with | 0, _ => decide | 1, _ => decide | 2, _ => decide)
    · exact h
theorem stepR_pl {o : One} {c : Nat} (h : Pl o.2) : Pl (stepR o c).2 := mv_pl h
theorem foldR_pl : ∀ (cs : List Nat) {o : One}, Pl o.2 → Pl (cs.foldl stepR o).2
  | [], _, h => h
  | c :: cs, _, h => foldR_pl cs (stepR_pl h)
theorem foldR_len : ∀ (cs : List Nat) (o : One), (cs.foldl stepR o).1.length = o.1.length + cs.length
  | [], _ => rfl
  | c :: cs, o => by rw [List.foldl_cons, foldR_len cs]; simp [stepR]; omega
theorem readS_pl (cs : List Nat) : Pl (readS cs).2 := foldR_pl cs pl_id
theorem readS_len (cs : List Nat) : (readS cs).1.length = cs.length := by rw [readS, foldR_len]; simp
theorem readS_snoc (cs : List Nat) (c : Nat) : readS (cs ++ [c]) = stepR (readS cs) c := by simp [readS]

theorem ct_read {t : Str} (ht : t.cps.size ≤ 100000) : Ct prog w 63 2 [.str t] (oneD (readS t.cps.toList)) := by
  refine fn_read.enter1 "text" (fun v => by kernel_rfl) (by kernel_rfl) fun A L room => ?_
  have big : ∀ n : Nat, n ≤ 100000 → n ≤ sizeLine := fun n hn => Nat.le_trans hn (by decide)
  refine Bd.cons (S1.twoOwn room.handled (.list .nil (by decide)) (.list (.cons .int rfl (.cons .int rfl (.cons .int rfl .nil))) (by decide)) rfl rfl (by rfl) (by kernel_rfl) (by kernel_rfl) (by rfl) (by rfl)) ?_
  refine Bd.cons (S1.forStr (t := t) (fun i => [(Str.ofString "places", pl (readS (t.cps.toList.take i)).2), (Str.ofString "text", .str t)]) (fun i => some (Str.ofString "row", (readS (t.cps.toList.take i)).1.map entD))
    room.handled (.loc (by rfl) (by kernel_rfl) (by decide)) (by kernel_rfl) (fun i ds e => by cases e) fun i c hc => ?_) ?_
  · have hlt : i < t.cps.size := (Array.getElem?_eq_some_iff.mp hc).1
    have htk : t.cps.toList.take (i + 1) = t.cps.toList.take i ++ [c] := by
      rw [List.take_add_one]; simp [hc]
    have e1 : (readS (t.cps.toList.take (i + 1))).1.map entD = (readS (t.cps.toList.take i)).1.map entD ++ [entD (c, (readS (t.cps.toList.take i)).2)] := by
      rw [htk, readS_snoc]; simp [stepR]
    have e2 : pl (readS (t.cps.toList.take (i + 1))).2 = pl (mv (readS (t.cps.toList.take i)).2 ⟨#[c]⟩) := by
      rw [htk, readS_snoc]; rfl
    rw [e1, e2]
    refine Sx.weaken (Sx.cons (S1.append (d := entD (c, (readS (t.cps.toList.take i)).2)) (.list (.cons (.loc (by rfl) (by kernel_rfl) (by decide)) rfl (.cons (.loc (by rfl) (by kernel_rfl) (by decide)) rfl .nil)) two_le) rfl (by kernel_rfl) (by decide)
        (by rw [List.length_map, readS_len]; exact big _ (by simp; omega)))
      (Sx.cons (S1.assign (.call (room.less (Nat.le_refl 1)) glo_move fn_move.isDef (ct_move (c := ⟨#[c]⟩) (readS_pl (t.cps.toList.take i))) (.cons (.loc (by rfl) (by kernel_rfl) (by decide)) rfl (.cons (.loc (by rfl) (by kernel_rfl) (by decide)) rfl .nil)) (by kernel_rfl)) (fun ds e => by cases e) (by kernel_rfl)) Sx.nil)) ?_
    exact sub_cons (sub_skip (by rfl) (sub_skip (by rfl) sub_refl))
  · refine Bd.frozen (Bd.ret ?_)
    have e : t.cps.toList.take t.cps.size = t.cps.toList := List.take_of_length_le (by simp)
    rw [e]
    exact .list (.cons (.loc (by rfl) (by kernel_rfl) (by decide)) rfl (.cons (.loc (by rfl) (by kernel_rfl) (by decide)) rfl .nil)) two_le
end
end Mine
set_option maxRecDepth 100000
namespace Mine
section
variable {prog : Program} {w : World} {A : Around} {env : Env} {ρ σ ρ' σ' : List (Str × PyData)}

def intOf : PyData → Int
  | .int i => i
  | _ => 0
def dec : PyData → Nat × List Int
  | .list [.str s, .list is] => (s.cps.getD 0 0, is.map intOf)
  | _ => (0, [])
theorem dec_entD (x : Nat × List Int) : dec (entD x) = x := by
  obtain ⟨c, ps⟩ := x
  show ((ch c).cps.getD 0 0, (ps.map PyData.int).map intOf) = (c, ps)
  rw [List.map_map]
  have : ps.map (intOf ∘ PyData.int) = ps := by
    induction ps with
    | nil => rfl
    | cons p r ih => rw [List.map_cons, ih]; rfl
  rw [this]; rfl

def both (o1 o2 : One) : One := (o1.1 ++ o2.1.map (fun x => (x.1, pick x.2 o1.2)), pick o2.2 o1.2)
/-- what a told text is: three places each -/
def Ok (o : One) : Prop := (∀ x ∈ o.1, Pl x.2) ∧ Pl o.2
def bothD (qs : List Int) (d : PyData) : PyData := entD ((dec d).1, pick (dec d).2 qs)
theorem bothD_map (qs : List Int) (l : List (Nat × List Int)) : ((l.map entD).filter (fun _ => true)).map (bothD qs) = (l.map (fun x => (x.1, pick x.2 qs))).map entD := by
  induction l with
  | nil => rfl
  | cons x r ih => simp only [List.map_cons, List.filter_cons, if_true] at ih ⊢; rw [ih]; congr 1; unfold bothD; rw [dec_entD]

theorem getElem_pl {ps : List Int} (h : Pl ps) {q : Int} (h0 : 0 ≤ q) (h1 : q < 3) : (ps.map PyData.int)[q.toNat]? = some (.int (ps.getD q.toNat 0)) := by
  have : q.toNat < ps.length := by rw [h.1]; omega
  simp [List.getElem?_map, List.getD_eq_getElem?_getD, this]

theorem ct_both {o1 o2 : One} (h1 : Ok o1) (h2 : Ok o2) (hs1 : o1.1.length ≤ 1000000) (hs2 : o2.1.length ≤ 1000000) : Ct prog w 68 1 [oneD o1, oneD o2] (oneD (both o1 o2)) := by
  have big : ∀ n : Nat, n ≤ 2000000 → n ≤ sizeLine := fun n hn => Nat.le_trans hn (by decide)
  have hsz1 : (o1.2.map PyData.int).length ≤ sizeLine := by rw [List.length_map, h1.2.1]; decide
  refine fn_both.enter ["one", "two"] [] [(Str.ofString "one", oneD o1), (Str.ofString "two", oneD o2)] (fun vs hl => ?_) (fun vs hl n y hy => ?_) (fun fz vs r L y e hy => by cases hy) (fun fz vs r L y e hy => ?_) fun A L room => ?_
  · match vs, hl with
    | [u, v], _ => kernel_rfl
  · match vs, hl with
    | [u, v], _ =>
      simp at hy
      rcases hy with rfl | rfl
      · exact .inr ⟨by kernel_rfl, by show (Option.isSome (List.lookup (Str.ofString "one") (cellsFrom n (fdOf w 68).scope.names []))) = true; kernel_rfl⟩
      · exact .inr ⟨by kernel_rfl, by show (Option.isSome (List.lookup (Str.ofString "two") (cellsFrom n (fdOf w 68).scope.names []))) = true; kernel_rfl⟩
  · obtain ⟨u, v, rfl, ru, rv⟩ := r.two
    rw [List.lookup_cons] at hy
    by_cases hx : y = Str.ofString "one"
    · subst hx
      simp at hy; subst hy
      exact ⟨L + 1, u, by kernel_rfl, by kernel_rfl, ru⟩
    · have : (y == Str.ofString "one") = false := beq_eq_false_iff_ne.mpr hx
      simp only [this] at hy
      rw [List.lookup_cons] at hy
      by_cases hx' : y = Str.ofString "two"
      · subst hx'
        simp at hy; subst hy
        exact ⟨L + 1 + 1, v, by kernel_rfl, by kernel_rfl, rv⟩
      · have : (y == Str.ofString "two") = false := beq_eq_false_iff_ne.mpr hx'
        simp [this] at hy
  · have eone : ∀ ρ pos, Ev prog w A (envF w 68 L) ρ [(Str.ofString "one", oneD o1), (Str.ofString "two", oneD o2)] (.Name "one" pos) (oneD o1) := fun ρ pos => .cell (by rfl) (by kernel_rfl) (by decide)
    have etwo : ∀ ρ pos, Ev prog w A (envF w 68 L) ρ [(Str.ofString "one", oneD o1), (Str.ofString "two", oneD o2)] (.Name "two" pos) (oneD o2) := fun ρ pos => .cell (by rfl) (by kernel_rfl) (by decide)
    refine Bd.cons (S1.assignComp (σ' := [(Str.ofString "one", oneD o1)]) (cl := [(Str.ofString "one", L + 1)]) (ds := o2.1.map entD) (keep := fun _ => true) (f := bothD o1.2) room.handled (by rfl) (by kernel_rfl) (fun _ => by simp) (.inr ⟨_, _, _, rfl⟩) (by rfl) (by rfl) (by decide +kernel)
      (.item (etwo _ _) .int (by decide) (by decide) (by rfl)) (by rw [List.length_map]; exact big _ (by omega)) (fun C x d e => ?_) fun C d hd => ?_) ?_
    · rw [List.lookup_cons] at e
      by_cases hx : x = Str.ofString "one"
      · subst hx
        simp at e; subst e
        refine ⟨by rfl, fun c hc => ?_⟩
        have : (envF w 68 L).cells.lookup (Str.ofString "one") = some (L + 1) := by kernel_rfl
        rw [this] at hc; cases hc
        kernel_rfl
      · have : (x == Str.ofString "one") = false := beq_eq_false_iff_ne.mpr hx
        simp [this] at e
    · obtain ⟨x, hx, rfl⟩ := List.mem_map.mp hd
      have hpx : Pl x.2 := h2.1 x hx
      refine ⟨[(Str.ofString "sign", .str (ch x.1))], [(Str.ofString "ahead", pl x.2), (Str.ofString "one", oneD o1)], .pair room.handled (.name (fun _ => by simp) (by kernel_rfl)) (.cell (c := C + 1) (show C + 1 ∈ [C + 1] from List.mem_singleton.mpr rfl) (by kernel_rfl) (by kernel_rfl)) (by rfl), sub_skip (by rfl) sub_refl, .nil, fun _ => ?_⟩
      have ef : bothD o1.2 (entD x) = .list [.str (ch x.1), .list (List.map (pickD x.2) (List.filter (fun _ => true) (o1.2.map PyData.int)))] := by
        unfold bothD; rw [dec_entD, pickD_map]; rfl
      rw [ef]
      refine .list (.cons (.loc (by rfl) (by kernel_rfl) (by decide)) rfl (.cons (.comp (σ' := [(Str.ofString "ahead", pl x.2)]) (cl := [(Str.ofString "ahead", C + 1)]) room.handled (.inl ⟨_, _, rfl⟩) (by rfl) (by rfl) (by decide +kernel)
        (.item (.cell (d := oneD o1) (by rfl) (by kernel_rfl) (by decide)) .int (by decide) (by decide) (by rfl)) hsz1 (fun C' y d e => ?_) fun C' d hd' => ?_) rfl .nil)) two_le
      · rw [List.lookup_cons] at e
        by_cases hy : y = Str.ofString "ahead"
        · subst hy
          simp at e; subst e
          refine ⟨by rfl, fun c hc => ?_⟩
          have hc' : (some (C + 1) : Option Addr) = some c := by rw [← hc]; kernel_rfl
          cases hc'
          kernel_rfl
        · have : (y == Str.ofString "ahead") = false := beq_eq_false_iff_ne.mpr hy
          simp [this] at e
      · obtain ⟨q, hq, rfl⟩ := List.mem_map.mp hd'
        have hq' := h1.2.2 q hq
        refine ⟨_, [(Str.ofString "ahead", pl x.2)], .name (fun _ => by simp) (by kernel_rfl), fun _ _ e => e, .nil, fun _ => ?_⟩
        exact .item (.cell (by rfl) (by kernel_rfl) (by decide)) (.loc (by rfl) (by kernel_rfl) (by decide)) hq'.1 (by omega) (getElem_pl hpx hq'.1 hq'.2)
    · rw [bothD_map]
      have er : oneD (both o1 o2) = .list [.list (o1.1.map entD ++ (o2.1.map (fun x => (x.1, pick x.2 o1.2))).map entD), .list (List.map (pickD o2.2) (List.filter (fun _ => true) (o1.2.map PyData.int)))] := by
        rw [pickD_map]; unfold oneD both pl; simp
      rw [er]
      refine Bd.ret (.list (.cons (.add_list (.item (eone _ _) .int (by decide) (by decide) (by rfl)) (.loc (by rfl) (by kernel_rfl) (by decide)) (by simp only [List.length_map]; exact big _ (by omega))) rfl (.cons (.comp (σ' := [(Str.ofString "two", oneD o2)]) (cl := [(Str.ofString "two", L + 1 + 1)]) room.handled (.inl ⟨_, _, rfl⟩) (by rfl) (by rfl) (by decide +kernel)
        (.item (eone _ _) .int (by decide) (by decide) (by rfl)) hsz1 (fun C' y d e => ?_) fun C' d hd' => ?_) rfl .nil)) two_le)
      · rw [List.lookup_cons] at e
        by_cases hy : y = Str.ofString "two"
        · subst hy
          simp at e; subst e
          refine ⟨by rfl, fun c hc => ?_⟩
          have hc' : (some (L + 1 + 1) : Option Addr) = some c := by rw [← hc]; kernel_rfl
          cases hc'
          kernel_rfl
        · have : (y == Str.ofString "two") = false := beq_eq_false_iff_ne.mpr hy
          simp [this] at e
      · obtain ⟨q, hq, rfl⟩ := List.mem_map.mp hd'
        have hq' := h1.2.2 q hq
        refine ⟨_, [(Str.ofString "two", oneD o2)], .name (fun _ => by simp) (by kernel_rfl), fun _ _ e => e, .nil, fun _ => ?_⟩
        exact .item (.item (.cell (d := oneD o2) (by rfl) (by kernel_rfl) (by decide)) .int (by decide) (by decide) (by rfl)) (.loc (by rfl) (by kernel_rfl) (by decide)) hq'.1 (by omega) (getElem_pl h2.2 hq'.1 hq'.2)
end
end Mine
set_option maxRecDepth 100000
namespace Mine
section
variable {prog : Program} {w : World} {A : Around} {env : Env} {ρ σ ρ' σ' ρ₀ : List (Str × PyData)} {fz : Heap} {s : Shared}

theorem S1.pre {st : Stmt} {μ μ' : Option (Str × List PyData)} (h : S1 prog w A env st ρ₀ σ μ ρ' σ' μ') (hρ : ∀ y d, ρ₀.lookup y = some d → ρ.lookup y = some d) : S1 prog w A env st ρ σ μ ρ' σ' μ' := fun fz₀ kp fz s a => h fz₀ kp fz s (a.weaken hρ fun _ _ e => e)

-- what may be laid, and how deep it is
def Cok (o : One) : Prop := ∀ x ∈ o.1, x.1 < 1114112
theorem canLay_pl (ps : List Int) : (pl ps).canLay0 = true := by
  show PyData.canLayAll0 (ps.map PyData.int) = true
  induction ps with
  | nil => rfl
  | cons p r ih => show (true && PyData.canLayAll0 (r.map PyData.int)) = true; rw [ih]; rfl
theorem depth_pl (ps : List Int) : (pl ps).depth ≤ 1 := by
  show PyData.depthAll (ps.map PyData.int) + 1 ≤ 1
  have : PyData.depthAll (ps.map PyData.int) = 0 := by
    induction ps with
    | nil => rfl
    | cons p r ih => show max 0 (PyData.depthAll (r.map PyData.int)) = 0; rw [ih]; rfl
  omega
theorem canLay_ent {x : Nat × List Int} (h : x.1 < 1114112) : (entD x).canLay0 = true := by
  show (PyData.strOk (ch x.1) && ((pl x.2).canLay0 && true)) = true
  rw [canLay_pl]
  have : PyData.strOk (ch x.1) = true := by
    show (#[x.1] : Array Nat).all (· < 0x110000) = true
    simp; omega
  rw [this]; rfl
theorem depth_ent (x : Nat × List Int) : (entD x).depth ≤ 2 := by
  show max 0 (max (pl x.2).depth 0) + 1 ≤ 2
  have := depth_pl x.2
  omega
theorem canLay_list {α : Type} {f : α → PyData} : ∀ {l : List α}, (∀ x ∈ l, (f x).canLay0 = true) → (PyData.list (l.map f)).canLay0 = true
  | [], _ => rfl
  | x :: r, h => by
    show ((f x).canLay0 && PyData.canLayAll0 (r.map f)) = true
    have : PyData.canLayAll0 (r.map f) = true := canLay_list (l := r) fun y hy => h y (List.mem_cons_of_mem _ hy)
    rw [h x List.mem_cons_self, this]; rfl
theorem depth_list {α : Type} {f : α → PyData} {n : Nat} : ∀ {l : List α}, (∀ x ∈ l, (f x).depth ≤ n) → (PyData.list (l.map f)).depth ≤ n + 1
  | [], _ => Nat.succ_le_succ (Nat.zero_le _)
  | x :: r, h => by
    show max (f x).depth (PyData.depthAll (r.map f)) + 1 ≤ n + 1
    have h1 : PyData.depthAll (r.map f) + 1 ≤ n + 1 := depth_list (l := r) fun y hy => h y (List.mem_cons_of_mem _ hy)
    have h2 := h x List.mem_cons_self
    omega
theorem canLay_rows {l : List (Nat × List Int)} (h : ∀ x ∈ l, x.1 < 1114112) : (PyData.list (l.map entD)).canLay0 = true := canLay_list fun x hx => canLay_ent (h x hx)
theorem depth_rows (l : List (Nat × List Int)) : (PyData.list (l.map entD)).depth ≤ 3 := depth_list fun x _ => depth_ent x
theorem canLay_one {o : One} (h : Cok o) : (oneD o).canLay0 = true := by
  show ((PyData.list (o.1.map entD)).canLay0 && ((pl o.2).canLay0 && true)) = true
  rw [canLay_rows h, canLay_pl]; rfl
theorem depth_one (o : One) : (oneD o).depth ≤ 4 := by
  show max (PyData.list (o.1.map entD)).depth (max (pl o.2).depth 0) + 1 ≤ 4
  have h1 := depth_rows o.1
  have h2 := depth_pl o.2
  omega
theorem eqv_nil (l : List PyData) : PyData.eqv (.list l) (.list []) = l.isEmpty := by cases l <;> rfl
theorem eqv_pl (a b : List Int) : PyData.eqv (pl a) (pl b) = decide (a = b) := by
  show PyData.eqvAll (a.map PyData.int) (b.map PyData.int) = decide (a = b)
  induction a generalizing b with
  | nil => cases b <;> simp [PyData.eqvAll]
  | cons x r ih =>
    cases b with
    | nil => simp [PyData.eqvAll]
    | cons y q =>
      show (PyData.eqv (.int x) (.int y) && PyData.eqvAll (r.map PyData.int) (q.map PyData.int)) = _
      rw [ih]
      show ((x == y) && decide (r = q)) = _
      rw [Bool.eq_iff_iff]; simp

open Classical in
theorem tr_in {a b : Value} {d : PyData} {ds : List PyData} (i : Inc fz s.heap) (ra : Rd fz a d) (rb : Rd fz b (.list ds)) (hd : d.canLay0 = true) (hds : ∀ e ∈ ds, e.canLay0 = true) (hu : A.units + 1 + d.depth < cLine) :
    Tr prog w A (compareOp .In a b) fz s (fun fz' v => Rd fz' v (.bool (ds.any fun e => PyData.eqv e d))) := by
  obtain ⟨l, vs, rfl, hl, rs⟩ := rb.list_inv
  have hl' := isList_up hl i
  have rs' := rs.up i
  obtain ⟨aas, ra'⟩ := ra.up i
  let e : Value → Bool := fun y => decide (∃ dy ∈ ds, Rd s.heap y dy ∧ PyData.eqv dy d = true)
  have he : ∀ y dy, dy ∈ ds → Rd s.heap y dy → e y = PyData.eqv dy d := fun y dy hm ry => by
    cases hq : PyData.eqv dy d with
    | true => exact decide_eq_true ⟨dy, hm, ry, hq⟩
    | false =>
      refine decide_eq_false ?_
      rintro ⟨dy', hm', ⟨as', ry'⟩, hq'⟩
      obtain ⟨as, ry⟩ := ry
      rw [SeqAt.Reads.unique dy dy' y as as' (hds dy hm) ry ry', hq'] at hq
      cases hq
  refine SeqAt.in_listAt e hl' (fun y hy => ?_) ⟨fz, .refl i, .refl s, ?_⟩
  · obtain ⟨j, hj⟩ := List.getElem?_of_mem (show y ∈ vs by simpa using hy)
    obtain ⟨dy, hdy, ry⟩ := rs'.get hj
    have hm := List.mem_of_getElem? hdy
    rw [he y dy hm ry]
    obtain ⟨yas, ry⟩ := ry
    exact SeqAt.eqAt_reads dy d A.in1 s y a _ _ ry ra' (hds dy hm) hd (by have := Nat.min_le_right dy.depth d.depth; show A.units + 1 + _ < _; omega)
  · have key : ∀ (vs : List Value) (es : List PyData), (∀ x ∈ es, x ∈ ds) → Rds s.heap vs es → vs.any e = es.any fun x => PyData.eqv x d := by
      intro vs es
      induction es generalizing vs with
      | nil => intro _ r; rw [r.nil_inv]; rfl
      | cons x r ih =>
        intro hsub q
        obtain ⟨v, vs', rfl, q1, q2⟩ := q.cons_inv
        rw [List.any_cons, List.any_cons, ih vs' (fun z hz => hsub z (List.mem_cons_of_mem _ hz)) q2, he v x (hsub x List.mem_cons_self) q1]
    have : vs.toArray.any e = ds.any fun x => PyData.eqv x d := by rw [← key vs ds (fun _ h => h) rs']; simp
    rw [this]; exact .bool

theorem tr_notIn {a b : Value} {x : Str} {c : Nat} (i : Inc fz s.heap) (ra : Rd fz a (.str (ch c))) (rb : Rd fz b (.str x)) :
    Tr prog w A (compareOp .NotIn a b) fz s (fun fz' v => Rd fz' v (.bool (!decide (c ∈ x.cps.toList)))) := by
  obtain ⟨t, rfl⟩ := ra.str_inv
  obtain ⟨u, rfl⟩ := rb.str_inv
  refine P.notIn_str ⟨fz, .refl i, .refl s, ?_⟩
  rw [← StrLaws.found_one x c]; exact .bool

-- the law's own reckoning of a quoted text
def safeStr : Str := "ABCDEFGHIJKLMNOPQRSTUVWXYZabcdefghijklmnopqrstuvwxyz0123456789_@%+=:,./-"
def isSafe (c : Nat) : Bool := decide (c ∈ safeStr.cps.toList)
def evn (ps : List Int) : Bool := decide (ps = [0, 1, 2]) || (decide (ps = [1, 2, 0]) || decide (ps = [2, 0, 1]))
def marksOf (cs : List Nat) : List Nat := if cs = [39] then [39, 34, 39, 34, 39] else cs
def startQ (ps : List Int) : List Int := if evn ps then [1, 0, 2] else [1, 2, 0]
def stepQ (o : One) (x : List Nat × List Int) : One := (marksOf x.1).foldl stepR (o.1, startQ x.2)
def itemsQ (o : One) : List (List Nat × List Int) := o.1.map (fun x => ([x.1], x.2)) ++ [([], o.2)]
def foldQ (l : List (List Nat × List Int)) : One := l.foldl stepQ ([(39, [0, 1, 2])], [0, 1, 2])
def quoteQ (o : One) : One := ((foldQ (itemsQ o)).1 ++ [(39, (foldQ (itemsQ o)).2)], if evn o.2 then [0, 1, 2] else [0, 2, 1])
def quotedS (o : One) : One := if o.1 ≠ [] ∧ o.1.all (fun x => isSafe x.1) = true then o else quoteQ o
def itemD (x : List Nat × List Int) : PyData := .list [.str ⟨x.1.toArray⟩, pl x.2]
theorem itemD_ent (x : Nat × List Int) : itemD ([x.1], x.2) = entD x := rfl

theorem ev_any (ps : List Int) : (([pl [0, 1, 2], pl [1, 2, 0], pl [2, 0, 1]] : List PyData).any fun e => PyData.eqv e (pl ps)) = evn ps := by
  simp only [List.any_cons, List.any_nil, eqv_pl, Bool.or_false, evn]
  congr 1
  · rw [Bool.eq_iff_iff]; simp [eq_comm]
  · congr 1 <;> (rw [Bool.eq_iff_iff]; simp [eq_comm])

theorem startQ_pl (ps : List Int) : Pl (startQ ps) := by unfold startQ; split <;> exact ⟨rfl, by decide⟩
theorem stepQ_pl {o : One} {x : List Nat × List Int} : Pl (stepQ o x).2 := foldR_pl _ (startQ_pl _)
theorem foldQ_pl (l : List (List Nat × List Int)) : Pl (foldQ l).2 := by
  unfold foldQ
  rcases List.eq_nil_or_concat l with rfl | ⟨l', x, rfl⟩
  · exact pl_id
  · simp only [List.concat_eq_append, List.foldl_append, List.foldl_cons, List.foldl_nil]; exact stepQ_pl
theorem marks_len {x : List Nat} (h : x.length ≤ 1) : (marksOf x).length ≤ 5 := by
  unfold marksOf
  split
  · exact Nat.le_refl 5
  · omega
theorem foldQ_len (l : List (List Nat × List Int)) (h : ∀ x ∈ l, x.1.length ≤ 1) : (foldQ l).1.length ≤ 1 + 5 * l.length := by
  have key : ∀ (l : List (List Nat × List Int)) (o : One), (∀ x ∈ l, x.1.length ≤ 1) → (l.foldl stepQ o).1.length ≤ o.1.length + 5 * l.length := by
    intro l
    induction l with
    | nil => intro o _; simp
    | cons x r ih =>
      intro o h
      rw [List.foldl_cons]
      have h1 := ih (stepQ o x) fun y hy => h y (List.mem_cons_of_mem _ hy)
      have h2 : (stepQ o x).1.length = o.1.length + (marksOf x.1).length := by unfold stepQ; rw [foldR_len]
      have h3 := marks_len (h x List.mem_cons_self)
      rw [List.length_cons]; omega
  exact key l _ h
theorem itemsQ_short (o : One) : ∀ x ∈ itemsQ o, x.1.length ≤ 1 := fun x hx => by
  rcases List.mem_append.mp hx with h | h
  · obtain ⟨y, _, rfl⟩ := List.mem_map.mp h; simp
  · simp at h; subst h; simp
theorem itemsQ_pl {o : One} (h : Ok o) : ∀ x ∈ itemsQ o, Pl x.2 := fun x hx => by
  rcases List.mem_append.mp hx with h' | h'
  · obtain ⟨y, hy, rfl⟩ := List.mem_map.mp h'; exact h.1 y hy
  · simp at h'; subst h'; exact h.2
end
end Mine
set_option maxRecDepth 100000
namespace Mine
section
variable {prog : Program} {w : World} {A : Around} {env : Env} {ρ σ ρ' σ' ρ₀ : List (Str × PyData)} {fz : Heap} {s : Shared}

/-- the call is entered: one local, and cells that nothing fills yet -/
theorem Fn.enterC {f : Addr} {k : Nat} {d1 d : PyData} (F : Fn w f) (x : Str) (hb : ∀ v, bindArgs (fdOf w f) ⟨[v], []⟩ = pure [(x, v)]) (hk : (fdOf w f).scope.names.lookup x = some .local)
    (h : ∀ A L, Room A k → ∀ fz₀ kp fz s, At w fz₀ kp (envF w f L) [(x, d1)] [] none fz s.heap → (∀ n c, (envF w f L).cells.lookup n = some c → (∃ v, s.heap.IsCell c v) ∧ fz.get? c = none ∧ kp.get? c = none) →
      wpAny (model prog w) A (execs (bodyOf w f) (envF w f L)) (fun f s' => ∃ v fz', f = .ret v ∧ Mv fz₀ kp fz' s'.heap ∧ Same s s' ∧ Rd fz' v d) Nope s) : Ct prog w f (k + 1) [d1] d := fun A fz s vs room B i r => by
  obtain ⟨v, rfl, rv⟩ := r.one
  have B' := B.up i
  refine codeAny_call_cells (fd := fdOf w f) (body := bodyOf w f) (binds := [(x, v)]) room.lim (B'.k _ _ F.at_) F.data (Fn.nolimit B') (F.code _ B') F.body (hb v) F.clo (fun y hy => by simp at hy; subst hy; exact .inl hk) (fun s₁ c => ?_) F.co F.gen F.kind
  have hs : ∃ h' tk, s₁ = { s with heap := h', toks := tk } := c.toInCall.same
  have fnone : ∀ a, s.heap.objs.size ≤ a → fz.get? a = none := fun a ha => by
    cases e : fz.get? a with
    | none => rfl
    | some o => have := i _ _ e; rw [get_ge ha] at this; cases this
  have a : At w fz s.heap (envF w f s.heap.objs.size) [(x, d1)] [] none fz s₁.heap := by
    refine ⟨⟨B, i.trans c.toInCall.keep, F.kind, F.gl, F.bi, ⟨_, c.toInCall.ns, fun y e hy => ?_⟩, (fun _ _ e => by cases e), fnone _ (Nat.le_refl _)⟩, Mv.up i c.toInCall.keep, get_new _, fun _ _ e => nomatch e⟩
    rw [List.lookup_cons] at hy
    by_cases hx : y = x
    · subst hx
      simp at hy; subst hy
      refine ⟨v, ?_, rv⟩
      unfold bindL bindL
      rw [if_pos (show (callEnvC (fdOf w f) s.heap.objs.size f).kindOf y = some .local from hk)]; simp
    · have : (y == x) = false := beq_eq_false_iff_ne.mpr hx
      simp [this] at hy
  refine wpAny_mono (h (A.deeper (envF w f s.heap.objs.size)) _ (room.deeper _) fz s.heap fz s₁ a fun n cc hc => ⟨⟨_, c.cell n cc hc⟩, fnone _ ?_, get_ge ?_⟩) (fun fl s₂ ⟨v, fz', q1, q2, q3, q4⟩ => ?_) fun _ _ x => x.elim
  · exact Nat.le_of_lt (c.above n cc (PySem.mem_of_lookup hc))
  · exact Nat.le_of_lt (c.above n cc (PySem.mem_of_lookup hc))
  · subst q1
    obtain ⟨h', tk, rfl⟩ := hs
    exact ⟨v, fz', rfl, q2, ⟨q3.os, q3.gens⟩, q4⟩

/-- a cell of the frame's is filled -/
theorem Bd.cell {x : Str} {p pos : Pos} {e : PySem.Expr} {rest : List Stmt} {d d' : PyData} {c : Addr} {fz₀ kp : Heap} {v₀ : Option Value} (a : At w fz₀ kp env ρ [] none fz s.heap) (h : Ev prog w A env ρ [] e d) (hc : env.cells.lookup x = some c) (hk : env.kindOf x = some .cell)
    (h0 : s.heap.IsCell c v₀) (hf : fz.get? c = none) (hp : kp.get? c = none) (k : Bd prog w A env rest d' ρ [(x, d)] none) (hs : swapsWith e (some (.Name x p)) pos.line env = pure false := by rfl) :
    wpAny (model prog w) A (execs (.Assign [.Name x p] e pos :: rest) env) (fun f s' => ∃ v fz', f = .ret v ∧ Mv fz₀ kp fz' s'.heap ∧ Same s s' ∧ Rd fz' v d') Nope s := by
  refine wpAny_execs_cons (wpAny_Assign_Name (wpAny_mono (h fz s a.ok) (fun v s₁ ⟨fz₁, m₁, q₁, r₁⟩ => ?_) fun _ _ x => x) hs)
  have hc1 := isCell_up h0 m₁.hh
  refine wpAny_storeName_cell a.ok.kind hk hc hc1 fun h' hc' hs' => ?_
  have f₁ : fz₁.get? c = none := by obtain ⟨o, ho, _⟩ := h0; exact m₁.old c o ho hf
  have a₁ := (a.step m₁).storeCell hc1 hs' hc' hc r₁ f₁ hp (fun _ _ _ e => by cases e)
  exact wpAny_mono (k fz₀ kp fz₁ { s₁ with heap := h' } a₁) (fun f s₂ ⟨v, fz₂, q1, q2, q3, q4⟩ => ⟨v, fz₂, q1, q2, ⟨q3.os.trans q₁.os, q3.gens.trans q₁.gens⟩, q4⟩) fun _ _ x => x

def signOf : PyData → PyData
  | .list (s :: _) => s
  | _ => .none

set_option maxHeartbeats 600000 in
theorem ct_quoted {o : One} (h : Ok o) (hc : Cok o) (hsz : o.1.length ≤ 100000) : Ct prog w 73 2 [oneD o] (oneD (quotedS o)) := by
  have big : ∀ n : Nat, n ≤ 2000000 → n ≤ sizeLine := fun n hn => Nat.le_trans hn (by decide)
  refine fn_quoted.enterC "one" (fun v => by kernel_rfl) (by kernel_rfl) fun A L room fz₀ kp fz s a cells => ?_
  have hcell : (envF w 73 L).cells.lookup (Str.ofString "safe") = some (L + 1) := by kernel_rfl
  obtain ⟨⟨v₀, h0⟩, hf, hp⟩ := cells _ _ hcell
  have hu := room.units
  have eone : ∀ ρ σ pos, ρ.lookup (Str.ofString "one") = some (oneD o) → Ev prog w A (envF w 73 L) ρ σ (.Name "one" pos) (oneD o) := fun ρ σ pos e => .loc e (by kernel_rfl) (by decide)
  refine Bd.cell a (d := .str safeStr) .str hcell (by kernel_rfl) h0 hf hp ?_
  -- the texts that need no quotation
  let allSafe : Bool := o.1.all fun x => isSafe x.1
  refine Bd.ifret (b := (!(o.1.map entD).isEmpty) && allSafe) (.and (.cmp (.item (eone _ _ _ (by rfl)) .int (by decide) (by decide) (by rfl)) (.list .nil (by decide)) fun _ _ _ _ i x y => ?_) fun _ => .cmp (dl := .list (((o.1.map entD).filter fun d => !isSafe (dec d).1).map signOf)) (dr := .list [])
    (.comp (σ' := [(Str.ofString "safe", .str safeStr)]) (cl := [(Str.ofString "safe", L + 1)]) room.handled (.inr ⟨_, _, _, rfl⟩) (by rfl) (by rfl) (by decide +kernel) (.item (eone _ _ _ (by rfl)) .int (by decide) (by decide) (by rfl)) (by rw [List.length_map]; exact big _ (by omega)) (fun C y d e => ?_) fun C d hd => ?_)
    (.list .nil (by decide)) fun _ _ _ _ i x y => ?_) (fun hb => ?_) fun hb => ?_
  · rw [← eqv_nil]
    exact tr_ne i x y (canLay_rows hc) rfl (by have := depth_rows o.1; omega)
  · rw [List.lookup_cons] at e
    by_cases hy : y = Str.ofString "safe"
    · subst hy
      simp at e; subst e
      refine ⟨by rfl, fun c hc => ?_⟩
      rw [hcell] at hc; cases hc
      kernel_rfl
    · have : (y == Str.ofString "safe") = false := beq_eq_false_iff_ne.mpr hy
      simp [this] at e
  · obtain ⟨x, hx, rfl⟩ := List.mem_map.mp hd
    refine ⟨[(Str.ofString "ahead", pl x.2), (Str.ofString "sign", .str (ch x.1))], [(Str.ofString "safe", .str safeStr)], .pair room.handled (.name (fun _ => by simp) (by kernel_rfl)) (.name (fun _ => by simp) (by kernel_rfl)) (by rfl), sub_refl, .one (.cmp (.loc (by rfl) (by kernel_rfl) (by decide)) (.cell (by rfl) (by kernel_rfl) (by decide)) fun _ _ _ _ i u v => ?_), fun _ => .loc (by rfl) (by kernel_rfl) (by decide)⟩
    have := tr_notIn (prog := prog) (w := w) (A := A) i u v
    rw [dec_entD]; exact this
  · have e : allSafe = (((o.1.map entD).filter fun d => !isSafe (dec d).1).map signOf).isEmpty := by
      show (o.1.all fun x => isSafe x.1) = _
      induction o.1 with
      | nil => rfl
      | cons z r ih =>
        rw [List.all_cons, List.map_cons, List.filter_cons, dec_entD]
        cases hz : isSafe z.1 with
        | true => simpa using ih
        | false => simp
    rw [e, ← eqv_nil]
    refine tr_eq i x y ?_ rfl ?_
    · have : ∀ l : List (Nat × List Int), (∀ z ∈ l, z.1 < 1114112) → (PyData.list (((l.map entD).filter fun d => !isSafe (dec d).1).map signOf)).canLay0 = true := by
        intro l hl
        refine canLay_list fun d hd => ?_
        obtain ⟨z, hz, rfl⟩ := List.mem_map.mp (List.mem_filter.mp hd).1
        show PyData.strOk (ch z.1) = true
        show (#[z.1] : Array Nat).all (· < 0x110000) = true
        have := hl z hz
        simp; omega
      exact this o.1 hc
    · have : (PyData.list (((o.1.map entD).filter fun d => !isSafe (dec d).1).map signOf)).depth ≤ 0 + 1 := depth_list fun d hd => by
        obtain ⟨z, hz, rfl⟩ := List.mem_map.mp (List.mem_filter.mp hd).1
        exact Nat.le_refl 0
      omega
  · have e : quotedS o = o := by
      unfold quotedS
      rw [if_pos]
      rw [Bool.and_eq_true] at hb
      refine ⟨fun e => ?_, hb.2⟩
      rw [e] at hb; simp at hb
    rw [e]
    exact Bd.ret (eone _ _ _ (by rfl))
  · have e : quotedS o = quoteQ o := by
      unfold quotedS
      rw [if_neg]
      rintro ⟨h1, h2⟩
      have h3 : (o.1.map entD).isEmpty = false := by cases ho : o.1 with
        | nil => exact absurd ho h1
        | cons _ _ => rfl
      rw [h3] at hb
      have h4 : allSafe = true := h2
      rw [h4] at hb; cases hb
    rw [e]
    have lit3 : ∀ (ρ σ) (a b c : Int) p1 p2 p3 pos, Ev prog w A (envF w 73 L) ρ σ (.List [.Constant (.int a) 0 p1, .Constant (.int b) 0 p2, .Constant (.int c) 0 p3] pos) (pl [a, b, c]) := fun ρ σ a b c p1 p2 p3 pos => .list (.cons .int rfl (.cons .int rfl (.cons .int rfl .nil))) (show 3 ≤ sizeLine by decide)
    have inEven : ∀ (ρ σ) (e1 e2 : PySem.Expr) pos (ps : List Int), Ev prog w A (envF w 73 L) ρ σ e1 (pl ps) → Ev prog w A (envF w 73 L) ρ σ e2 (.list [pl [0, 1, 2], pl [1, 2, 0], pl [2, 0, 1]]) → behindInMarks .In e2 = false → Ts prog w A (envF w 73 L) ρ σ (.Compare e1 [.In] [e2] pos) (evn ps) := fun ρ σ e1 e2 pos ps h1 h2 hm => by
      rw [← ev_any]
      refine .cmp h1 h2 (fun _ _ _ _ i x y => tr_in i x y (canLay_pl ps) (fun e he => ?_) ?_) hm
      · simp at he; rcases he with rfl | rfl | rfl <;> exact canLay_pl _
      · have := depth_pl ps; omega
    refine Bd.cons (ρ' := [(Str.ofString "even", .list [pl [0, 1, 2], pl [1, 2, 0], pl [2, 0, 1]]), (Str.ofString "one", oneD o)]) (σ' := [(Str.ofString "safe", PyData.str safeStr)]) (μ' := none) ?h1 ?h2
    case h1 =>
      have q := @S1.assign prog w A (envF w 73 L) [(Str.ofString "one", oneD o)] [(Str.ofString "safe", PyData.str safeStr)] none (.list [pl [0, 1, 2], pl [1, 2, 0], pl [2, 0, 1]])
      refine q ?_ ?_ ?_ ?_
      · refine .list (.cons ?_ rfl (.cons ?_ rfl (.cons ?_ rfl .nil))) (show 3 ≤ sizeLine by decide) <;> exact lit3 _ _ _ _ _ _ _ _ _
      · exact fun _ => by simp
      · kernel_rfl
      · rfl
    refine Bd.cons (ρ' := [(Str.ofString "places", pl [0, 1, 2]), (Str.ofString "even", .list [pl [0, 1, 2], pl [1, 2, 0], pl [2, 0, 1]]), (Str.ofString "one", oneD o)]) (σ' := [(Str.ofString "safe", PyData.str safeStr)]) (μ' := some (Str.ofString "row", [entD (39, [0, 1, 2])])) ?g1 ?g2
    case g1 =>
      refine S1.twoOwn room.handled ?_ ?_ ?_ ?_ ?_ ?_ ?_ ?_ ?_
      · exact .list (.cons (.list (.cons .str rfl (.cons (lit3 _ _ _ _ _ _ _ _ _) rfl .nil)) two_le) rfl .nil) (show 1 ≤ sizeLine by decide)
      · exact lit3 _ _ _ _ _ _ _ _ _
      · rfl
      · rfl
      · rfl
      · kernel_rfl
      · kernel_rfl
      · rfl
      · rfl
    have hitems : (itemsQ o).map itemD = o.1.map entD ++ [.list [.str (Str.ofString ""), pl o.2]] := by
      unfold itemsQ; rw [List.map_append, List.map_map]; rfl
    refine Bd.cons (S1.forList (ds := (itemsQ o).map itemD) (fun i => [(Str.ofString "places", pl (foldQ ((itemsQ o).take i)).2), (Str.ofString "even", .list [pl [0, 1, 2], pl [1, 2, 0], pl [2, 0, 1]]), (Str.ofString "one", oneD o)])
      (fun i => some (Str.ofString "row", (foldQ ((itemsQ o).take i)).1.map entD)) room.handled ?_ (.inr ⟨_, _, _, rfl⟩) fun i d hd => ?_) ?_
    · rw [hitems]
      exact .add_list (.item (eone _ _ _ (by rfl)) .int (by decide) (by decide) (by rfl)) (.list (.cons (.list (.cons .str rfl (.cons (.item (eone _ _ _ (by rfl)) .int (by decide) (by decide) (by rfl)) rfl .nil)) two_le) rfl .nil) (show 1 ≤ sizeLine by decide)) (by rw [List.length_map]; exact big _ (by simp; omega))
    · rw [List.getElem?_map] at hd
      obtain ⟨x, hx, rfl⟩ := Option.map_eq_some_iff.mp hd
      have hmem := List.mem_of_getElem? hx
      have hpx := itemsQ_pl h x hmem
      have hshort := itemsQ_short o x hmem
      have hlt : i < (itemsQ o).length := (List.getElem?_eq_some_iff.mp hx).1
      have hlen : (itemsQ o).length = o.1.length + 1 := by unfold itemsQ; simp
      have htk : (itemsQ o).take (i + 1) = (itemsQ o).take i ++ [x] := by rw [List.take_add_one]; simp [hx]
      have hfold : foldQ ((itemsQ o).take (i + 1)) = stepQ (foldQ ((itemsQ o).take i)) x := by rw [htk]; simp [foldQ]
      have hrow : (foldQ ((itemsQ o).take i)).1.length ≤ 1 + 5 * (o.1.length + 1) := by
        have h1 := foldQ_len ((itemsQ o).take i) fun y hy => itemsQ_short o y (List.mem_of_mem_take hy)
        have h2 : ((itemsQ o).take i).length ≤ (itemsQ o).length := by rw [List.length_take]; exact Nat.min_le_right _ _
        omega
      refine ⟨_, .pair room.handled (.name (fun _ => by simp [show Str.ofString "row" ≠ Str.ofString "sign" by decide]) (by kernel_rfl)) (.name (fun _ => by simp [show Str.ofString "row" ≠ Str.ofString "ahead" by decide]) (by kernel_rfl)) (by rfl), ?_⟩
      refine Sx.cons (S1.assign (d := pl (startQ x.2)) (.ite (c := evn x.2) (inEven _ _ _ _ _ _ (.loc (by rfl) (by kernel_rfl) (by decide)) (.loc (by rfl) (by kernel_rfl) (by decide)) (by rfl)) (fun hb => ?_) fun hb => ?_) (fun _ => by simp [show Str.ofString "row" ≠ Str.ofString "places" by decide]) (by kernel_rfl)) ?_
      · unfold startQ; rw [if_pos hb]; exact lit3 _ _ _ _ _ _ _ _ _
      · unfold startQ; rw [if_neg (by rw [hb]; decide)]; exact lit3 _ _ _ _ _ _ _ _ _
      have hz : (marksOf x.1).take ((⟨(marksOf x.1).toArray⟩ : Str).cps.size) = marksOf x.1 := List.take_of_length_le (by simp)
      have eM : stepQ (foldQ ((itemsQ o).take i)) x = ((marksOf x.1).take ((⟨(marksOf x.1).toArray⟩ : Str).cps.size)).foldl stepR ((foldQ ((itemsQ o).take i)).1, startQ x.2) := by rw [hz]; rfl
      show Sx prog w A _ _ _ _ _ [(Str.ofString "places", pl (foldQ ((itemsQ o).take (i + 1))).2), _, _] _ (some (Str.ofString "row", (foldQ ((itemsQ o).take (i + 1))).1.map entD))
      rw [hfold, eM]
      refine Sx.weaken (Sx.cons (S1.pre (ρ₀ := [(Str.ofString "places", pl (startQ x.2)), (Str.ofString "ahead", pl x.2), (Str.ofString "sign", .str ⟨x.1.toArray⟩), (Str.ofString "even", .list [pl [0, 1, 2], pl [1, 2, 0], pl [2, 0, 1]]), (Str.ofString "one", oneD o)])
        (S1.forStr (t := ⟨(marksOf x.1).toArray⟩) (fun j => [(Str.ofString "places", pl (((marksOf x.1).take j).foldl stepR ((foldQ ((itemsQ o).take i)).1, startQ x.2)).2), (Str.ofString "ahead", pl x.2), (Str.ofString "sign", .str ⟨x.1.toArray⟩), (Str.ofString "even", .list [pl [0, 1, 2], pl [1, 2, 0], pl [2, 0, 1]]), (Str.ofString "one", oneD o)])
          (fun j => some (Str.ofString "row", (((marksOf x.1).take j).foldl stepR ((foldQ ((itemsQ o).take i)).1, startQ x.2)).1.map entD)) room.handled (.ite (c := decide (x.1 = [39])) (.cmp (.loc (by rfl) (by kernel_rfl) (by decide)) .str fun _ _ _ _ i u v => ?_) (fun hb => ?_) fun hb => ?_) (by kernel_rfl) (fun j ds => by simp [show Str.ofString "row" ≠ Str.ofString "mark" by decide]) fun j c hc => ?_)
        (sub_cons (sub_cons (sub_cons (sub_skip (by rfl) sub_refl))))) Sx.nil) ?_
      · have := tr_eq_str (prog := prog) (w := w) (A := A) i u v
        have e : decide (({ cps := x.1.toArray } : Str) = Str.ofString "'") = decide (x.1 = [39]) := by
          rw [show Str.ofString "'" = ({ cps := #[39] } : Str) from by decide +kernel, Bool.eq_iff_iff]
          simp only [decide_eq_true_eq]
          constructor
          · intro e; have := congrArg (fun z : Str => z.cps.toList) e; simpa using this
          · intro e; rw [e]
        rw [e] at this; exact this
      · have e : (⟨(marksOf x.1).toArray⟩ : Str) = Str.ofString "'\"'\"'" := by unfold marksOf; rw [if_pos (of_decide_eq_true hb)]; decide +kernel
        rw [e]; exact .str
      · have e : marksOf x.1 = x.1 := by unfold marksOf; rw [if_neg (of_decide_eq_false hb)]
        rw [e]; exact .loc (by rfl) (by kernel_rfl) (by decide)
      · have hjl : j < (marksOf x.1).length := by have := (Array.getElem?_eq_some_iff.mp hc).1; simpa using this
        have hm5 := marks_len hshort
        have htj : (marksOf x.1).take (j + 1) = (marksOf x.1).take j ++ [c] := by rw [List.take_add_one]; simpa using hc
        generalize hst : ((marksOf x.1).take j).foldl stepR ((foldQ ((itemsQ o).take i)).1, startQ x.2) = st
        have hst' : ((marksOf x.1).take (j + 1)).foldl stepR ((foldQ ((itemsQ o).take i)).1, startQ x.2) = stepR st c := by rw [htj, List.foldl_append, hst]; rfl
        have hpl : Pl st.2 := by rw [← hst]; exact foldR_pl _ (startQ_pl _)
        have hln : st.1.length ≤ 1 + 5 * (o.1.length + 1) + 5 := by
          rw [← hst, foldR_len]
          have : ((marksOf x.1).take j).length ≤ (marksOf x.1).length := by rw [List.length_take]; exact Nat.min_le_right _ _
          show (foldQ ((itemsQ o).take i)).1.length + _ ≤ _
          omega
        rw [hst']
        have e1 : (stepR st c).1.map entD = st.1.map entD ++ [entD (c, st.2)] := by simp [stepR]
        rw [e1]
        show Sx prog w A _ _ _ _ _ [(Str.ofString "places", pl (mv st.2 ⟨#[c]⟩)), _, _, _, _] _ _
        refine Sx.weaken (Sx.cons (S1.append (d := entD (c, st.2)) (.list (.cons (.loc (by rfl) (by kernel_rfl) (by decide)) rfl (.cons (.loc (by rfl) (by kernel_rfl) (by decide)) rfl .nil)) two_le) rfl (by kernel_rfl) (by decide)
            (by rw [List.length_map]; exact big _ (by omega)))
          (Sx.cons (S1.assign (.call (room.less (Nat.le_refl 1)) glo_move fn_move.isDef (ct_move (c := ⟨#[c]⟩) hpl) (.cons (.loc (by rfl) (by kernel_rfl) (by decide)) rfl (.cons (.loc (by rfl) (by kernel_rfl) (by decide)) rfl .nil)) (by kernel_rfl)) (fun _ => by simp [show Str.ofString "row" ≠ Str.ofString "places" by decide]) (by kernel_rfl)) Sx.nil)) ?_
        exact sub_cons (sub_skip (by rfl) (sub_skip (by rfl) sub_refl))
      · exact sub_cons (sub_skip (by rfl) (sub_skip (by rfl) sub_refl))
    · have hn : (itemsQ o).take ((itemsQ o).map itemD).length = itemsQ o := List.take_of_length_le (by simp)
      show Bd prog w A _ _ _ [(Str.ofString "places", pl (foldQ ((itemsQ o).take ((itemsQ o).map itemD).length)).2), _, _] _ (some (Str.ofString "row", (foldQ ((itemsQ o).take ((itemsQ o).map itemD).length)).1.map entD))
      rw [hn]
      have er : oneD (quoteQ o) = .list [.list ((foldQ (itemsQ o)).1.map entD ++ [entD (39, (foldQ (itemsQ o)).2)]), pl (if evn o.2 then [0, 1, 2] else [0, 2, 1])] := by unfold oneD quoteQ; simp
      rw [er]
      have hrow : (foldQ (itemsQ o)).1.length ≤ 1 + 5 * (o.1.length + 1) := by
        have h1 := foldQ_len (itemsQ o) (itemsQ_short o)
        have hlen : (itemsQ o).length = o.1.length + 1 := by unfold itemsQ; simp
        omega
      refine Bd.frozen (Bd.ret (.list (.cons (.add_list (.loc (by rfl) (by kernel_rfl) (by decide)) (.list (.cons (.list (.cons .str rfl (.cons (.loc (by rfl) (by kernel_rfl) (by decide)) rfl .nil)) two_le) rfl .nil) (show 1 ≤ sizeLine by decide)) ?_) rfl
        (.cons (.ite (c := evn o.2) (inEven _ _ _ _ _ _ (.item (eone _ _ _ (by rfl)) .int (by decide) (by decide) (by rfl)) (.loc (by rfl) (by kernel_rfl) (by decide)) (by rfl)) (fun hb => ?_) fun hb => ?_) rfl .nil)) two_le))
      · rw [List.length_map]; exact big _ (by simp; omega)
      · rw [if_pos hb]; exact lit3 _ _ _ _ _ _ _ _ _
      · rw [if_neg (by rw [hb]; decide)]; exact lit3 _ _ _ _ _ _ _ _ _
end
end Mine
set_option maxRecDepth 100000
namespace Mine

-- picking
theorem pick_nil (p : List Int) (h : Pl p) : pick [0, 1, 2] p = p := by
  unfold pick
  conv => rhs; rw [← List.map_id p]
  refine List.map_congr_left fun i hi => ?_
  have := h.2 i hi
  obtain ⟨n, rfl⟩ := Int.eq_ofNat_of_zero_le this.1
  match n, (show n < 3 by omega) with
  | 0, _ => rfl
  | 1, _ => rfl
  | 2, _ => rfl
theorem pick_pick (t q p : List Int) (hq : Pl q) (hp : Pl p) : pick (pick t q) p = pick t (pick q p) := by
  unfold pick
  rw [List.map_map]
  refine List.map_congr_left fun i hi => ?_
  have := hp.2 i hi
  have hlt : i.toNat < q.length := by rw [hq.1]; omega
  simp [List.getD_eq_getElem?_getD, hlt]
theorem pick_mv (q p : List Int) (c : Str) (hq : Pl q) (hp : Pl p) : pick (mv q c) p = mv (pick q p) c := by
  unfold mv moveAp moveQm
  split
  · exact pick_pick _ _ _ hq hp
  · split
    · exact pick_pick _ _ _ hq hp
    · rfl
theorem pick_Pl {q p : List Int} (hq : Pl q) (hp : Pl p) : Pl (pick q p) := by
  refine pick_pl hp fun n hn => ?_
  have hlt : n < q.length := by rw [hq.1]; omega
  have : q.getD n 0 ∈ q := by simp [List.getD_eq_getElem?_getD, hlt]
  exact hq.2 _ this

theorem snoc_ind {α : Type} {P : List α → Prop} (h0 : P []) (h1 : ∀ l x, P l → P (l ++ [x])) (l : List α) : P l := by
  have : ∀ n (l : List α), l.length = n → P l := by
    intro n
    induction n with
    | zero => intro l hl; rw [List.length_eq_zero_iff.mp hl]; exact h0
    | succ n ih =>
      intro l hl
      rcases List.eq_nil_or_concat l with rfl | ⟨l', x, rfl⟩
      · exact h0
      · rw [List.concat_eq_append] at hl ⊢
        exact h1 l' x (ih l' (by simpa using hl))
  exact this _ l rfl

theorem fold_both (b : List Nat) : ∀ (o : One), Pl o.2 → b.foldl stepR o = both o (readS b) := by
  refine snoc_ind (P := fun b => ∀ o : One, Pl o.2 → b.foldl stepR o = both o (readS b)) ?_ ?_ b
  · intro o h
    show o = (o.1 ++ ([] : List (Nat × List Int)).map _, pick [0, 1, 2] o.2)
    rw [pick_nil _ h]; simp
  · intro b c ih o h
    rw [List.foldl_append, ih o h, readS_snoc]
    show ((o.1 ++ (readS b).1.map _) ++ [(c, pick (readS b).2 o.2)], mvc (pick (readS b).2 o.2) c) = (o.1 ++ ((readS b).1 ++ [(c, (readS b).2)]).map _, pick (mvc (readS b).2 c) o.2)
    rw [List.map_append, List.append_assoc]
    unfold mvc
    rw [pick_mv _ _ _ (readS_pl b) h]
    rfl
theorem readS_append (a b : List Nat) : readS (a ++ b) = both (readS a) (readS b) := by
  rw [← fold_both b (readS a) (readS_pl a)]
  simp [readS]

theorem readS_ok (t : List Nat) : Ok (readS t) := by
  refine ⟨?_, readS_pl t⟩
  refine snoc_ind (P := fun t => ∀ x ∈ (readS t).1, Pl x.2) (by intro x hx; simp [readS] at hx) (fun l c ih x hx => ?_) t
  rw [readS_snoc] at hx
  rcases List.mem_append.mp hx with h | h
  · exact ih x h
  · simp at h; subst h; exact readS_pl l
theorem readS_signs (t : List Nat) : (readS t).1.map (·.1) = t := by
  refine snoc_ind (P := fun t => (readS t).1.map (·.1) = t) rfl (fun l c ih => ?_) t
  rw [readS_snoc]
  show ((readS l).1 ++ [(c, (readS l).2)]).map (·.1) = _
  rw [List.map_append, ih]; rfl
theorem readS_cok {t : List Nat} (h : ∀ c ∈ t, c < 1114112) : Cok (readS t) := fun x hx => h _ (by
  have := List.mem_map_of_mem (f := (·.1)) hx
  rw [readS_signs] at this; exact this)

-- quoting
def esc (c : Nat) : List Nat := if c = 39 then [39, 34, 39, 34, 39] else [c]
def quoteT (t : List Nat) : List Nat := if t ≠ [] ∧ t.all isSafe = true then t else 39 :: (t.flatMap esc ++ [39])

def perms : List (List Int) := [[0, 1, 2], [1, 2, 0], [2, 0, 1], [1, 0, 2], [2, 1, 0], [0, 2, 1]]
theorem mv_cases (ps : List Int) (c : Nat) : mvc ps c = if c = 39 then moveAp ps else if c = 34 then moveQm ps else ps := by
  unfold mvc mv ch
  have e1 : (({ cps := #[c] } : Str) = Str.ofString "'") ↔ c = 39 := by
    rw [show Str.ofString "'" = ({ cps := #[39] } : Str) from by decide +kernel]; simp
  have e2 : (({ cps := #[c] } : Str) = Str.ofString "\"") ↔ c = 34 := by
    rw [show Str.ofString "\"" = ({ cps := #[34] } : Str) from by decide +kernel]; simp
  simp only [e1, e2]
theorem mv_perm {ps : List Int} (h : ps ∈ perms) (c : Nat) : mvc ps c ∈ perms := by
  rw [mv_cases]
  split
  · revert ps; decide
  · split
    · revert ps; decide
    · exact h
theorem readS_perm (t : List Nat) : (readS t).2 ∈ perms := by
  refine snoc_ind (P := fun t => (readS t).2 ∈ perms) (by decide) (fun l c ih => ?_) t
  rw [readS_snoc]; exact mv_perm ih c
theorem marks_esc (c : Nat) : marksOf [c] = esc c := by
  unfold marksOf esc
  by_cases h : c = 39
  · subst h; rfl
  · rw [if_neg (by simpa using h), if_neg h]

theorem fold2 (cs : List Nat) : ∀ o : One, (cs.foldl stepR o).2 = cs.foldl mvc o.2 := by
  induction cs with
  | nil => intro o; rfl
  | cons c r ih => intro o; rw [List.foldl_cons, ih]; rfl
theorem esc_move {ps : List Int} (h : ps ∈ perms) (c : Nat) : (esc c).foldl mvc (startQ ps) = startQ (mvc ps c) := by
  unfold esc
  by_cases h9 : c = 39
  · subst h9
    rw [if_pos rfl]
    simp only [List.foldl_cons, List.foldl_nil, mv_cases]
    revert ps; decide
  · rw [if_neg h9]
    simp only [List.foldl_cons, List.foldl_nil, mv_cases, if_neg h9]
    split
    · revert ps; decide
    · rfl
theorem fold_quote (t : List Nat) : (foldQ ((readS t).1.map fun x => ([x.1], x.2))).1 = (readS (39 :: t.flatMap esc)).1 ∧ (readS (39 :: t.flatMap esc)).2 = startQ (readS t).2 := by
  refine snoc_ind (P := fun t => (foldQ ((readS t).1.map fun x => ([x.1], x.2))).1 = (readS (39 :: t.flatMap esc)).1 ∧ (readS (39 :: t.flatMap esc)).2 = startQ (readS t).2) (by decide) (fun l c ih => ?_) t
  have e : (39 :: (l ++ [c]).flatMap esc) = (39 :: l.flatMap esc) ++ esc c := by simp
  have er : readS ((39 :: l.flatMap esc) ++ esc c) = (esc c).foldl stepR (readS (39 :: l.flatMap esc)) := by simp [readS]
  rw [e, er, readS_snoc]
  constructor
  · show (foldQ (((readS l).1 ++ [(c, (readS l).2)]).map fun x => ([x.1], x.2))).1 = _
    rw [List.map_append]
    have : foldQ (((readS l).1.map fun x => ([x.1], x.2)) ++ [([c], (readS l).2)]) = stepQ (foldQ ((readS l).1.map fun x => ([x.1], x.2))) ([c], (readS l).2) := by simp [foldQ]
    show (foldQ (((readS l).1.map fun x => ([x.1], x.2)) ++ [([c], (readS l).2)])).1 = _
    rw [this]
    unfold stepQ
    rw [marks_esc, ih.1, ← ih.2]
  · rw [fold2, ih.2, esc_move (readS_perm l)]
    rfl
theorem end_quote {ps : List Int} (h : ps ∈ perms) : mvc (startQ ps) 39 = if evn ps then [0, 1, 2] else [0, 2, 1] := by
  rw [mv_cases, if_pos rfl]
  revert ps; decide
theorem quoted_read (t : List Nat) : quotedS (readS t) = readS (quoteT t) := by
  have h1 : (readS t).1 ≠ [] ↔ t ≠ [] := by
    constructor
    · intro h e; subst e; exact h rfl
    · intro h e
      have := readS_signs t
      rw [e] at this; exact h this.symm
  have h2 : ((readS t).1.all fun x => isSafe x.1) = t.all isSafe := by
    conv => rhs; rw [← readS_signs t]
    rw [List.all_map]; rfl
  unfold quotedS quoteT
  rw [h2]
  by_cases hc : t ≠ [] ∧ t.all isSafe = true
  · rw [if_pos ⟨h1.mpr hc.1, hc.2⟩, if_pos hc]
  · rw [if_neg (fun h => hc ⟨h1.mp h.1, h.2⟩), if_neg hc]
    obtain ⟨q1, q2⟩ := fold_quote t
    have eI : foldQ (itemsQ (readS t)) = ((foldQ ((readS t).1.map fun x => ([x.1], x.2))).1, startQ (readS t).2) := by
      unfold itemsQ
      have : foldQ (((readS t).1.map fun x => ([x.1], x.2)) ++ [([], (readS t).2)]) = stepQ (foldQ ((readS t).1.map fun x => ([x.1], x.2))) ([], (readS t).2) := by simp [foldQ]
      rw [this]; rfl
    unfold quoteQ
    rw [eI]
    show ((foldQ ((readS t).1.map fun x => ([x.1], x.2))).1 ++ [(39, startQ (readS t).2)], _) = _
    have er : (39 :: (t.flatMap esc ++ [39])) = (39 :: t.flatMap esc) ++ [39] := rfl
    rw [er, readS_snoc]
    show _ = ((readS (39 :: t.flatMap esc)).1 ++ [(39, (readS (39 :: t.flatMap esc)).2)], mvc (readS (39 :: t.flatMap esc)).2 39)
    rw [q1, q2, end_quote (readS_perm t)]

theorem flat_len (t : List Nat) : (t.flatMap esc).length ≤ 5 * t.length := by
  induction t with
  | nil => exact Nat.le_refl _
  | cons c r ih =>
    rw [List.flatMap_cons, List.length_append, List.length_cons]
    have : (esc c).length ≤ 5 := by unfold esc; split <;> simp
    omega
theorem quoteT_len (t : List Nat) : (quoteT t).length ≤ 5 * t.length + 2 := by
  unfold quoteT
  split
  · omega
  · have := flat_len t
    simp only [List.length_cons, List.length_append, List.length_nil]; omega
theorem quoteT_ok {t : List Nat} (h : ∀ c ∈ t, c < 1114112) : ∀ c ∈ quoteT t, c < 1114112 := by
  unfold quoteT
  split
  · exact h
  · intro c hc
    simp only [List.mem_cons, List.mem_append, List.mem_flatMap, List.not_mem_nil, or_false] at hc
    rcases hc with rfl | ⟨a, ha, hc⟩ | rfl
    · omega
    · unfold esc at hc
      split at hc
      · simp at hc; omega
      · simp at hc; subst hc; exact h _ ha
    · omega
def joinT : List (List Nat) → List Nat
  | [] => []
  | t :: r => r.foldl (fun line u => line ++ [32] ++ quoteT u) (quoteT t)
end Mine
set_option maxRecDepth 100000
namespace Mine
section
variable {prog : Program} {w : World} {A : Around} {env : Env} {ρ σ ρ' σ' ρ₀ : List (Str × PyData)} {fz : Heap} {s : Shared}

def rD (t : List Nat) : PyData := oneD (readS t)
def sD (t : List Nat) : PyData := .str ⟨t.toArray⟩
/-- a text within bounds -/
def Txt (n : Nat) (t : List Nat) : Prop := t.length ≤ n ∧ ∀ c ∈ t, c < 1114112

theorem ct_readD {t : List Nat} (h : t.length ≤ 100000) : Ct prog w 63 2 [sD t] (rD t) := by
  have := ct_read (prog := prog) (w := w) (t := ⟨t.toArray⟩) (by simpa using h)
  simpa [rD, sD] using this
theorem ct_bothD {a b : List Nat} (ha : a.length ≤ 1000000) (hb : b.length ≤ 1000000) : Ct prog w 68 1 [rD a, rD b] (rD (a ++ b)) := by
  unfold rD
  rw [readS_append]
  exact ct_both (readS_ok a) (readS_ok b) (by rw [readS_len]; exact ha) (by rw [readS_len]; exact hb)
theorem ct_quotedD {t : List Nat} (h : Txt 100000 t) : Ct prog w 73 2 [rD t] (rD (quoteT t)) := by
  unfold rD
  rw [← quoted_read]
  exact ct_quoted (readS_ok t) (readS_cok h.2) (by rw [readS_len]; exact h.1)

theorem fold_join_len (r : List (List Nat)) : ∀ (l : List Nat), (∀ t ∈ r, t.length ≤ 100) → (r.foldl (fun line u => line ++ [32] ++ quoteT u) l).length ≤ l.length + 503 * r.length := by
  induction r with
  | nil => intro l _; simp
  | cons t r ih =>
    intro l h
    rw [List.foldl_cons]
    have h1 := ih (l ++ [32] ++ quoteT t) fun u hu => h u (List.mem_cons_of_mem _ hu)
    have h2 := quoteT_len t
    have h3 := h t List.mem_cons_self
    simp only [List.length_append, List.length_cons, List.length_nil] at h1 ⊢
    omega

theorem ct_joined {t : List Nat} {r : List (List Nat)} (ht : Txt 100 t) (hr : ∀ u ∈ r, Txt 100 u) (hl : r.length ≤ 10) : Ct prog w 80 3 [.list ((t :: r).map rD)] (rD (joinT (t :: r))) := by
  refine fn_joined.enter1 "ones" (fun v => by kernel_rfl) (by kernel_rfl) fun A L room => ?_
  have big : ∀ n : Nat, n ≤ 2000000 → n ≤ sizeLine := fun n hn => Nat.le_trans hn (by decide)
  refine Bd.cons (ρ' := [(Str.ofString "line", rD (quoteT t)), (Str.ofString "ones", .list ((t :: r).map rD))]) (σ' := []) (μ' := none) ?h1 ?h2
  case h1 =>
    refine S1.assign ?_ ?_ ?_ ?_
    · exact .call (room.less (Nat.le_refl 2)) glo_quoted fn_quoted.isDef (ct_quotedD ⟨by have := ht.1; omega, ht.2⟩) (.cons (.item (.loc (by rfl) (by kernel_rfl) (by decide)) .int (by decide) (by decide) (by rfl)) rfl .nil) (by kernel_rfl)
    · exact fun _ => by simp
    · kernel_rfl
    · rfl
  refine Bd.cons (S1.forList (ds := r.map rD) (fun i => [(Str.ofString "line", rD ((r.take i).foldl (fun line u => line ++ [32] ++ quoteT u) (quoteT t))), (Str.ofString "ones", .list ((t :: r).map rD))]) (fun _ => none) room.handled ?_ (.inl ⟨_, _, rfl⟩) fun i d hd => ?_) ?_
  · refine Ev.eq (.slice (a := 1) (b := ((t :: r).map rD).length) (.loc (by rfl) (by kernel_rfl) (by decide)) (.some .int) .none ?_ (big _ (by simp; omega))) ?_
    · simp only [sliceBounds, Option.getD_none, List.length_map, List.length_cons]
      have h1 : ¬ ((1 : Int) < 0) := by decide
      simp only [h1, if_false, show (1 : Int) > 0 by decide, if_true, Prod.mk.injEq, and_true]
      omega
    · show PyData.list (((t :: r).map rD).drop 1 |>.take (((t :: r).map rD).length - 1)) = _
      rw [List.take_of_length_le (by simp)]; rfl
  · rw [List.getElem?_map] at hd
    obtain ⟨u, hu, rfl⟩ := Option.map_eq_some_iff.mp hd
    have hmem := List.mem_of_getElem? hu
    have hu' := hr u hmem
    have htk : r.take (i + 1) = r.take i ++ [u] := by rw [List.take_add_one]; simp [hu]
    have hf : (r.take (i + 1)).foldl (fun line u => line ++ [32] ++ quoteT u) (quoteT t) = (r.take i).foldl (fun line u => line ++ [32] ++ quoteT u) (quoteT t) ++ [32] ++ quoteT u := by rw [htk, List.foldl_append]; rfl
    have hlen : ((r.take i).foldl (fun line u => line ++ [32] ++ quoteT u) (quoteT t)).length ≤ 10000 := by
      have h1 := fold_join_len (r.take i) (quoteT t) fun x hx => (hr x (List.mem_of_mem_take hx)).1
      have h2 := quoteT_len t
      have h3 := ht.1
      have h4 : (r.take i).length ≤ r.length := by rw [List.length_take]; exact Nat.min_le_right _ _
      omega
    have hq := quoteT_len u
    have hq' := hu'.1
    refine ⟨_, .name (fun _ => by simp) (by kernel_rfl), ?_⟩
    show Sx prog w A _ _ _ _ _ [(Str.ofString "line", rD ((r.take (i + 1)).foldl (fun line u => line ++ [32] ++ quoteT u) (quoteT t))), _] _ none
    rw [hf]
    generalize (r.take i).foldl (fun line u => line ++ [32] ++ quoteT u) (quoteT t) = line at hlen ⊢
    refine Sx.weaken (ρ' := [(Str.ofString "line", rD (line ++ [32] ++ quoteT u)), (Str.ofString "one", rD u), (Str.ofString "line", rD line), (Str.ofString "ones", .list ((t :: r).map rD))]) (Sx.cons (ρ' := [(Str.ofString "line", rD (line ++ [32] ++ quoteT u)), (Str.ofString "one", rD u), (Str.ofString "line", rD line), (Str.ofString "ones", .list ((t :: r).map rD))]) (σ' := []) (μ' := none) ?_ Sx.nil) ?_
    · refine S1.assign ?_ ?_ ?_ ?_
      · refine .call (room.less (show 1 ≤ 2 by decide)) glo_both fn_both.isDef (ct_bothD (a := line ++ [32]) (b := quoteT u) (by simp; omega) (by omega)) (.cons (.call (room.less (show 1 ≤ 2 by decide)) glo_both fn_both.isDef (ct_bothD (a := line) (b := [32]) (by omega) (by decide)) (.cons (.loc (by rfl) (by kernel_rfl) (by decide)) rfl (.cons (.call (room.less (Nat.le_refl 2)) glo_read fn_read.isDef (ct_readD (t := [32]) (by decide)) (.cons ?_ rfl .nil) (by kernel_rfl)) rfl .nil)) (by kernel_rfl)) rfl
          (.cons (.call (room.less (Nat.le_refl 2)) glo_quoted fn_quoted.isDef (ct_quotedD ⟨by omega, hu'.2⟩) (.cons (.loc (by rfl) (by kernel_rfl) (by decide)) rfl .nil) (by kernel_rfl)) rfl .nil)) (by kernel_rfl)
        have e : sD [32] = .str (Str.ofString " ") := by unfold sD; rw [show Str.ofString " " = ({ cps := #[32] } : Str) from by decide +kernel]
        rw [e]; exact .str
      · exact fun _ => by simp
      · kernel_rfl
      · rfl
    · exact sub_cons (sub_skip (by rfl) (sub_skip (by rfl) sub_refl))
  · have hn : r.take (r.map rD).length = r := List.take_of_length_le (by simp)
    show Bd prog w A _ _ _ [(Str.ofString "line", rD ((r.take (r.map rD).length).foldl (fun line u => line ++ [32] ++ quoteT u) (quoteT t))), _] _ none
    rw [hn]
    exact Bd.ret (.loc (by rfl) (by kernel_rfl) (by decide))
end
end Mine
set_option maxRecDepth 100000
namespace Mine
section
variable {prog : Program} {w : World} {A : Around} {env : Env} {ρ σ ρ' σ' ρ₀ : List (Str × PyData)} {fz : Heap} {s : Shared}

theorem sb_to (k n : Nat) (hk : 0 < k) : sliceBounds none (some (-(k : Int))) none n = (((0 : Nat) : Int), ((n - k : Nat) : Int), 1) := by
  simp only [sliceBounds, Option.getD_none]
  have h1 : -(k : Int) < 0 := by omega
  simp only [h1, if_true, show (1 : Int) > 0 by decide, Prod.mk.injEq, and_true]
  omega
theorem sb_from (k n : Nat) (hk : 0 < k) : sliceBounds (some (-(k : Int))) none none n = (((n - k : Nat) : Int), (n : Int), 1) := by
  simp only [sliceBounds, Option.getD_none]
  have h1 : -(k : Int) < 0 := by omega
  simp only [h1, if_true, show (1 : Int) > 0 by decide, Prod.mk.injEq, and_true]
  omega
theorem sb_upto (k n : Nat) : sliceBounds none (some (k : Int)) none n = (((0 : Nat) : Int), ((min k n : Nat) : Int), 1) := by
  simp only [sliceBounds, Option.getD_none]
  have h1 : ¬ ((k : Int) < 0) := by omega
  simp only [h1, if_false, show (1 : Int) > 0 by decide, if_true, Prod.mk.injEq, and_true]
  omega
/-- v[:-k] -/
theorem Ev.sliceTo {v : PySem.Expr} {p p1 p2 pos : Pos} {c k : Nat} {ds : List PyData} (hv : Ev prog w A env ρ σ v (.list ds)) (hk : 0 < k) (hsz : ds.length ≤ sizeLine) :
    Ev prog w A env ρ σ (.Subscript v (.Slice Option.none (some (.UnaryOp .USub (.Constant (.int (k : Int)) c p1) p2)) Option.none p) pos) (.list (ds.take (ds.length - k))) := by
  refine Ev.eq (.slice hv .none (.some (.neg .int)) (sb_to k ds.length hk) hsz) ?_
  simp
/-- v[-k:] -/
theorem Ev.sliceFrom {v : PySem.Expr} {p p1 p2 pos : Pos} {c k : Nat} {ds : List PyData} (hv : Ev prog w A env ρ σ v (.list ds)) (hk : 0 < k) (hsz : ds.length ≤ sizeLine) :
    Ev prog w A env ρ σ (.Subscript v (.Slice (some (.UnaryOp .USub (.Constant (.int (k : Int)) c p1) p2)) Option.none Option.none p) pos) (.list (ds.drop (ds.length - k))) := by
  refine Ev.eq (.slice hv (.some (.neg .int)) .none (sb_from k ds.length hk) hsz) ?_
  rw [List.take_of_length_le (by simp)]
theorem tr_len {ds : List PyData} {vs : List Value} (i : Inc fz s.heap) (r : Rds fz vs [.list ds]) (h : ds.length < 2 ^ 63) : Tr prog w A (PySem.call (.builtin "len") vs) fz s (fun fz' v => Rd fz' v (.int ds.length)) := by
  obtain ⟨v, rfl, r'⟩ := r.one
  obtain ⟨l, ws, rfl, hl, rs⟩ := r'.list_inv
  have e : ws.toArray.size = ds.length := by simpa using rs.length
  refine Calls.call_len_list (isList_up hl i) (by rw [e]; exact_mod_cast h) ⟨fz, .refl i, ⟨rfl, rfl⟩, ?_⟩
  rw [e]; exact .int
theorem tr_len_str {x : Str} {vs : List Value} (i : Inc fz s.heap) (r : Rds fz vs [.str x]) (h : x.length < 2 ^ 63) : Tr prog w A (PySem.call (.builtin "len") vs) fz s (fun fz' v => Rd fz' v (.int x.length)) := by
  obtain ⟨v, rfl, r'⟩ := r.one
  obtain ⟨t, rfl⟩ := r'.str_inv
  exact P.len_str (by have : ((x.length : Nat) : Int) < 2 ^ 63 := by exact_mod_cast h
                      omega) ⟨fz, .refl i, ⟨rfl, rfl⟩, .int⟩

/-- what a deed makes of the texts -/
def doneS (ts : List (List Nat)) (x : Int) : List (List Nat) :=
  if x.fmod 10 < 5 then ts.take (ts.length - 1) ++ [ts.getLastD [] ++ [sgn x]]
  else if x.fmod 10 = 5 then ts ++ [[]]
  else if x.fmod 10 = 6 then ts.take (ts.length - 2) ++ [(ts.drop (ts.length - 2)).flatten]
  else if x.fmod 10 = 7 then ts.take (ts.length - 1) ++ [quoteT (ts.getLastD [])]
  else if x.fmod 10 = 8 then ts.take (ts.length - 2) ++ [joinT (ts.drop (ts.length - 2))]
  else ts ++ ts.drop (ts.length - 1)

theorem snoc_of {α : Type} {l : List α} (h : l ≠ []) : ∃ p x, l = p ++ [x] := by
  rcases List.eq_nil_or_concat l with e | ⟨p, x, rfl⟩
  · exact absurd e h
  · exact ⟨p, x, List.concat_eq_append ..⟩

theorem Ts.mod {x : Int} {l : PySem.Expr} {op : CmpOp} {p1 p2 p3 pos : Pos} {c1 c2 : Nat} {k : Int} {b : Bool} (hx : Ev prog w A env ρ σ l (.int x))
    (h : ∀ fz s u v, Inc fz s.heap → Rd fz u (.int (x.fmod 10)) → Rd fz v (.int k) → Tr prog w A (compareOp op u v) fz s (fun fz' v => Rd fz' v (.bool b))) (hm : behindInMarks op (.Constant (.int k) c2 p2) = false := by with_unfolding_all rfl) :
    Ts prog w A env ρ σ (.Compare (.BinOp l .Mod (.Constant (.int 10) c1 p1) p3) [op] [.Constant (.int k) c2 p2] pos) b := .cmp (.mod hx .int (by decide)) .int h hm

set_option maxHeartbeats 1000000 in
theorem ct_told {ts : List (List Nat)} {x : Int} (hne : ts ≠ []) (hlen : ts.length ≤ 100) (ht : ∀ t ∈ ts, Txt 100 t) : Ct prog w 101 4 [.list (ts.map rD), .int x] (.list ((doneS ts x).map rD)) := by
  have big : ∀ n : Nat, n ≤ 2000000 → n ≤ sizeLine := fun n hn => Nat.le_trans hn (by decide)
  have hsz : (ts.map rD).length ≤ sizeLine := big _ (by rw [List.length_map]; omega)
  refine fn_told.enter2 "ones" "x" (by decide) (fun u v => by kernel_rfl) (by kernel_rfl) (by kernel_rfl) fun A L room => ?_
  have eones : ∀ pos, Ev prog w A (envF w 101 L) [(Str.ofString "ones", .list (ts.map rD)), (Str.ofString "x", .int x)] [] (.Name "ones" pos) (.list (ts.map rD)) := fun pos => .loc (by rfl) (by kernel_rfl) (by decide)
  have ex : ∀ pos, Ev prog w A (envF w 101 L) [(Str.ofString "ones", .list (ts.map rD)), (Str.ofString "x", .int x)] [] (.Name "x" pos) (.int x) := fun pos => .loc (by rfl) (by kernel_rfl) (by decide)
  obtain ⟨pre, t, hts⟩ := snoc_of hne
  have hmt : Txt 100 t := ht t (by rw [hts]; simp)
  have hl1 : ts.length = pre.length + 1 := by rw [hts]; simp
  have hlast : ts.getLastD [] = t := by rw [hts]; simp
  have eitem : ∀ (e : PySem.Expr), Ev prog w A (envF w 101 L) [(Str.ofString "ones", .list (ts.map rD)), (Str.ofString "x", .int x)] [] e (.int (-1)) → (∀ a b, subscripted e false a b = operate [a, b] (getItem a b)) → ∀ p1 pos, Ev prog w A (envF w 101 L) [(Str.ofString "ones", .list (ts.map rD)), (Str.ofString "x", .int x)] [] (.Subscript (.Name "ones" p1) e pos) (rD t) := fun e he hs p1 pos => by
    refine .item_neg (eones _) he (by decide) (by rw [List.length_map, hl1]; omega) (by decide) ?_ hs
    rw [List.length_map, List.getElem?_map, hl1]
    have : ((-1 : Int) + ((pre.length + 1 : Nat) : Int)).toNat = pre.length := by omega
    rw [this, hts]; simp
  refine Bd.ifret (b := decide (x.fmod 10 < 5)) (.mod (ex _) fun _ _ _ _ i u v => tr_lt i u v) (fun hb => ?_) fun hb => ?_
  · have hb' := of_decide_eq_true hb
    have e : doneS ts x = ts.take (ts.length - 1) ++ [t ++ [sgn x]] := by unfold doneS; rw [if_pos hb', hlast]
    rw [e, List.map_append, List.map_take]
    have hlm : ts.length = (ts.map rD).length := by simp
    rw [hlm]
    refine Bd.ret (.add_list (.sliceTo (k := 1) (eones _) (by decide) hsz) (.list (.cons (.call (room.less (show 1 ≤ 3 by decide)) glo_both fn_both.isDef (ct_bothD (a := t) (b := [sgn x]) (by have := hmt.1; omega) (show 1 ≤ 1000000 by decide))
      (.cons (eitem _ (.neg .int) (by intro _ _; with_unfolding_all rfl) _ _) rfl (.cons (.call (room.less (show 2 ≤ 3 by decide)) glo_read fn_read.isDef (ct_readD (t := [sgn x]) (show 1 ≤ 100000 by decide)) (.cons (.call (room.less (show 1 ≤ 3 by decide)) glo_sign fn_sign.isDef (ct_sign hb') (.cons (ex _) rfl .nil) (by kernel_rfl)) rfl .nil) (by kernel_rfl)) rfl .nil)) (by kernel_rfl)) rfl .nil) (show 1 ≤ sizeLine by decide)) ?_)
    simp; exact big _ (by omega)
  have n5 := of_decide_eq_false hb
  refine Bd.ifret (b := decide (x.fmod 10 = 5)) (.mod (ex _) fun _ _ _ _ i u v => tr_eq_int i u v) (fun hb => ?_) fun hb => ?_
  · have hb' := of_decide_eq_true hb
    have e : doneS ts x = ts ++ [[]] := by unfold doneS; rw [if_neg n5, if_pos hb']
    rw [e, List.map_append]
    refine Bd.ret (.add_list (eones _) (.list (.cons (.call (room.less (show 2 ≤ 3 by decide)) glo_read fn_read.isDef (ct_readD (t := []) (by decide)) (.cons .str rfl .nil) (by kernel_rfl)) rfl .nil) (show 1 ≤ sizeLine by decide)) ?_)
    simp; exact big _ (by omega)
  have m5 := of_decide_eq_false hb
  refine Bd.ifret (b := decide (x.fmod 10 = 6)) (.mod (ex _) fun _ _ _ _ i u v => tr_eq_int i u v) (fun hb => ?_) fun hb => ?_
  · have hb' := of_decide_eq_true hb
    have e : doneS ts x = ts.take (ts.length - 2) ++ [(ts.drop (ts.length - 2)).flatten] := by unfold doneS; rw [if_neg n5, if_neg m5, if_pos hb']
    rw [e, List.map_append, List.map_take]
    have hlm : ts.length - 2 = (ts.map rD).length - 2 := by simp
    rw [show List.take (ts.length - 2) (ts.map rD) = List.take ((ts.map rD).length - 2) (ts.map rD) by rw [hlm]]
    refine Bd.ret (.add_list (.sliceTo (k := 2) (eones _) (by decide) hsz) (.list (.cons (.ite (c := decide ((ts.map rD).length > (1 : Int))) (.cmp (.callb blt_len (fun fz s vs _ i r => tr_len i r (by rw [List.length_map]; omega)) (.cons (eones _) rfl .nil) (hk := by kernel_rfl)) .int fun _ _ _ _ i u v => tr_gt i u v) (fun hb => ?_) fun hb => ?_) rfl .nil) (show 1 ≤ sizeLine by decide)) ?_)
    · have hgt : 1 < ts.length := by have := of_decide_eq_true hb; rw [List.length_map] at this; omega
      have hpne : pre ≠ [] := fun e => by rw [hl1, e] at hgt; simp at hgt
      obtain ⟨p2, u, hp2⟩ := snoc_of hpne
      have hmu : Txt 100 u := ht u (by rw [hts, hp2]; simp)
      have hl2 : ts.length = p2.length + 2 := by rw [hl1, hp2]; simp
      have ef : (ts.drop (ts.length - 2)).flatten = u ++ t := by rw [hl2, hts, hp2]; simp
      rw [ef]
      refine .call (room.less (show 1 ≤ 3 by decide)) glo_both fn_both.isDef (ct_bothD (a := u) (b := t) (by have := hmu.1; omega) (by have := hmt.1; omega)) (.cons (.item_neg (k := -2) (eones _) (.neg .int) (by decide) (by rw [List.length_map, hl2]; omega) (by decide) ?_) rfl (.cons (eitem _ (.neg .int) (by intro _ _; with_unfolding_all rfl) _ _) rfl .nil)) (by kernel_rfl)
      rw [List.length_map, List.getElem?_map, hl2]
      have : ((-2 : Int) + ((p2.length + 2 : Nat) : Int)).toNat = p2.length := by omega
      rw [this, hts, hp2]; simp
    · have hle : ts.length = 1 := by
        have := of_decide_eq_false hb; rw [List.length_map] at this; omega
      have ef : (ts.drop (ts.length - 2)).flatten = t := by
        have : pre = [] := List.length_eq_zero_iff.mp (by omega)
        rw [hts, this]; simp
      rw [ef]
      exact eitem _ (.neg .int) (by intro _ _; with_unfolding_all rfl) _ _
    · simp; exact big _ (by omega)
  have m6 := of_decide_eq_false hb
  refine Bd.ifret (b := decide (x.fmod 10 = 7)) (.mod (ex _) fun _ _ _ _ i u v => tr_eq_int i u v) (fun hb => ?_) fun hb => ?_
  · have hb' := of_decide_eq_true hb
    have e : doneS ts x = ts.take (ts.length - 1) ++ [quoteT t] := by unfold doneS; rw [if_neg n5, if_neg m5, if_neg m6, if_pos hb', hlast]
    rw [e, List.map_append, List.map_take]
    have hlm : ts.length = (ts.map rD).length := by simp
    rw [hlm]
    refine Bd.ret (.add_list (.sliceTo (k := 1) (eones _) (by decide) hsz) (.list (.cons (.call (room.less (show 2 ≤ 3 by decide)) glo_quoted fn_quoted.isDef (ct_quotedD ⟨by have := hmt.1; omega, hmt.2⟩)
      (.cons (eitem _ (.neg .int) (by intro _ _; with_unfolding_all rfl) _ _) rfl .nil) (by kernel_rfl)) rfl .nil) (show 1 ≤ sizeLine by decide)) ?_)
    simp; exact big _ (by omega)
  have m7 := of_decide_eq_false hb
  refine Bd.ifret (b := decide (x.fmod 10 = 8)) (.mod (ex _) fun _ _ _ _ i u v => tr_eq_int i u v) (fun hb => ?_) fun hb => ?_
  · have hb' := of_decide_eq_true hb
    have e : doneS ts x = ts.take (ts.length - 2) ++ [joinT (ts.drop (ts.length - 2))] := by unfold doneS; rw [if_neg n5, if_neg m5, if_neg m6, if_neg m7, if_pos hb']
    rw [e, List.map_append, List.map_take]
    rw [show List.take (ts.length - 2) (ts.map rD) = List.take ((ts.map rD).length - 2) (ts.map rD) by simp]
    obtain ⟨u, r, hur, hu, hr, hrl⟩ : ∃ u r, ts.drop (ts.length - 2) = u :: r ∧ Txt 100 u ∧ (∀ v ∈ r, Txt 100 v) ∧ r.length ≤ 1 := by
      cases hd : ts.drop (ts.length - 2) with
      | nil => have := List.drop_eq_nil_iff.mp hd; omega
      | cons u r =>
        have hsub : ∀ v ∈ u :: r, v ∈ ts := fun v hv => List.mem_of_mem_drop (hd ▸ hv)
        refine ⟨u, r, rfl, ht u (hsub u List.mem_cons_self), fun v hv => ht v (hsub v (List.mem_cons_of_mem _ hv)), ?_⟩
        have := congrArg List.length hd
        simp at this; omega
    rw [hur]
    refine Bd.ret (.add_list (.sliceTo (k := 2) (eones _) (by decide) hsz) (.list (.cons (.call (room.less (Nat.le_refl 3)) glo_joined fn_joined.isDef (ct_joined hu hr (by omega))
      (.cons (Ev.eq (.sliceFrom (k := 2) (eones _) (by decide) hsz) ?_) rfl .nil) (by kernel_rfl)) rfl .nil) (show 1 ≤ sizeLine by decide)) ?_)
    · rw [List.length_map, ← List.map_drop, hur]
    · simp; exact big _ (by omega)
  have m8 := of_decide_eq_false hb
  have e : doneS ts x = ts ++ ts.drop (ts.length - 1) := by unfold doneS; rw [if_neg n5, if_neg m5, if_neg m6, if_neg m7, if_neg m8]
  rw [e, List.map_append, List.map_drop]
  rw [show List.drop (ts.length - 1) (ts.map rD) = List.drop ((ts.map rD).length - 1) (ts.map rD) by simp]
  refine Bd.ret (.add_list (eones _) (.sliceFrom (k := 1) (eones _) (by decide) hsz) ?_)
  simp; exact big _ (by omega)
end
end Mine
set_option maxRecDepth 100000
namespace Mine
open PySem.Builtin.Re

def codeA : Array Nat := #[14, 17, 4, 1, 1, 21, 9, 0, 604043296, 1, 0, 0, 0, 0, 0, 8, 4, 0, 13, 14, 21, 9, 0, 604043296, 1, 0, 0, 0, 0, 0, 8, 4, 0, 1]
def inCls (c : Nat) : Bool := (decide (c < 256) && (codeA.getD (7 + c / 32) 0).testBit (c % 32)) || Sre.isWord c

theorem inSet_5 (c : Nat) (seen : Sre.Seen) : ∃ seen', Sre.inSet codeA c codeA.size 5 true seen = .ok (!inCls c, seen') := by
  unfold inCls
  show ∃ seen', Sre.inSet codeA c 34 5 true seen = _
  unfold Sre.inSet Sre.inSet
  show ∃ seen', (if (decide (c < 256) && (codeA.getD (6 + (1 + c / 32)) 0).testBit (c % 32)) = true then Except.ok (!true, _) else _) = _
  rw [show 6 + (1 + c / 32) = 7 + c / 32 by omega]
  cases h : (decide (c < 256) && (codeA.getD (7 + c / 32) 0).testBit (c % 32)) with
  | true => exact ⟨_, rfl⟩
  | false =>
    rw [if_neg (by decide)]
    unfold Sre.inSet Sre.inSet
    cases hw : Sre.isWord c with
    | true =>
      have : Sre.category 4 c = .ok true := by unfold Sre.category; simp [hw, Except.map]
      show ∃ seen', (Sre.category 4 c >>= _) = _
      rw [this]; exact ⟨_, rfl⟩
    | false =>
      have : Sre.category 4 c = .ok false := by unfold Sre.category; simp [hw, Except.map]
      show ∃ seen', (Sre.category 4 c >>= _) = _
      rw [this]; exact ⟨_, rfl⟩
theorem inSet_20 (c : Nat) (seen : Sre.Seen) : ∃ seen', Sre.inSet codeA c codeA.size 20 true seen = .ok (!inCls c, seen') := by
  unfold inCls
  show ∃ seen', Sre.inSet codeA c 34 20 true seen = _
  unfold Sre.inSet Sre.inSet
  show ∃ seen', (if (decide (c < 256) && (codeA.getD (21 + (1 + c / 32)) 0).testBit (c % 32)) = true then Except.ok (!true, _) else _) = _
  have e : c < 256 → codeA.getD (21 + (1 + c / 32)) 0 = codeA.getD (7 + c / 32) 0 := fun hc => by
    have : c / 32 < 8 := by omega
    match c / 32, this with
    | 0, _ => rfl | 1, _ => rfl | 2, _ => rfl | 3, _ => rfl | 4, _ => rfl | 5, _ => rfl | 6, _ => rfl | 7, _ => rfl
  have e' : (decide (c < 256) && (codeA.getD (21 + (1 + c / 32)) 0).testBit (c % 32)) = (decide (c < 256) && (codeA.getD (7 + c / 32) 0).testBit (c % 32)) := by
    by_cases hc : c < 256
    · rw [e hc]
    · simp [hc]
  rw [e']
  cases h : (decide (c < 256) && (codeA.getD (7 + c / 32) 0).testBit (c % 32)) with
  | true => exact ⟨_, rfl⟩
  | false =>
    rw [if_neg (by decide)]
    unfold Sre.inSet Sre.inSet
    cases hw : Sre.isWord c with
    | true =>
      have : Sre.category 4 c = .ok true := by unfold Sre.category; simp [hw, Except.map]
      show ∃ seen', (Sre.category 4 c >>= _) = _
      rw [this]; exact ⟨_, rfl⟩
    | false =>
      have : Sre.category 4 c = .ok false := by unfold Sre.category; simp [hw, Except.map]
      show ∃ seen', (Sre.category 4 c >>= _) = _
      rw [this]; exact ⟨_, rfl⟩

theorem inCls_safe (c : Nat) : inCls c = isSafe c := by
  by_cases hc : c < 256
  · have : ∀ n : Fin 256, inCls n.1 = isSafe n.1 := by decide +kernel
    exact this ⟨c, hc⟩
  · have h1 : inCls c = false := by
      unfold inCls Sre.isWord Sre.isDigit
      simp [hc]; omega
    have h2 : isSafe c = false := by
      unfold isSafe
      refine decide_eq_false fun hm => hc ?_
      have : ∀ x ∈ safeStr.cps.toList, x < 256 := by decide +kernel
      exact this c hm
    rw [h1, h2]

theorem admitted_spec (m : Sre.M) (hcode : m.code = codeA) : ∀ (fuel s : Nat) (seen : Sre.Seen), s + fuel = m.lim + 1 → 
    ((∀ p, s ≤ p → p < m.lim → isSafe (m.text.getD p 0) = true) ∧ ∃ seen', Sre.M.admitted m fuel s seen = .ok (none, seen')) ∨
    (∃ p seen', s ≤ p ∧ p < m.lim ∧ isSafe (m.text.getD p 0) = false ∧ Sre.M.admitted m fuel s seen = .ok (some p, seen'))
  | 0, s, seen, h => .inl ⟨fun p h1 h2 => by omega, seen, rfl⟩
  | fuel + 1, s, seen, h => by
    unfold Sre.M.admitted
    by_cases hs : s ≥ m.lim
    · rw [if_pos hs]; exact .inl ⟨fun p h1 h2 => by omega, seen, rfl⟩
    · rw [if_neg hs]
      obtain ⟨seen₁, h₁⟩ := inSet_5 (m.text.getD s 0) seen
      rw [hcode, h₁, inCls_safe]
      cases hsf : isSafe (m.text.getD s 0) with
      | false => exact .inr ⟨s, seen₁, Nat.le_refl _, by omega, hsf, rfl⟩
      | true =>
        rcases admitted_spec m hcode fuel (s + 1) seen₁ (by omega) with ⟨h2, seen₂, h3⟩ | ⟨p, seen₂, h2, h3, h4, h5⟩
        · refine .inl ⟨fun p h1 h2' => ?_, seen₂, h3⟩
          by_cases hp : p = s
          · rw [hp]; exact hsf
          · exact h2 p (by omega) h2'
        · exact .inr ⟨p, seen₂, by omega, h3, h4, h5⟩

theorem runFor_succ {m : Sre.M} {n : Nat} (h : m.outcome = none) : m.runFor (n + 1) = m.step.runFor n := by
  show (if m.outcome.isSome = true then m else m.step.runFor n) = _
  rw [h]; rfl

/-- the machine's end -/
theorem search_end (text : Array Nat) (hne : 0 < text.size) :
    ((∀ c ∈ text.toList, isSafe c = true) ∧ ∃ m : Sre.M, (Sre.forSearch codeA text 0 0 text.size false).runFor 4 = m ∧ m.outcome = some .failed) ∨
    ((∃ c ∈ text.toList, isSafe c = false) ∧ ∃ m : Sre.M, (Sre.forSearch codeA text 0 0 text.size false).runFor 4 = m ∧ m.outcome = some .matched) := by
  have hstart : ∃ m₀ : Sre.M, m₀.code = codeA ∧ m₀.text = text ∧ m₀.lim = text.size ∧ Sre.forSearch codeA text 0 0 text.size false = m₀.attemptFrom 0 true ∧ m₀.pc = 18 ∧ m₀.frames = [] ∧ m₀.outcome = none ∧ m₀.answer = none ∧ m₀.weight = 0 ∧ m₀.wholeText = false ∧ m₀.mustAdvance = false := by
    unfold Sre.forSearch
    dsimp only
    have hneg : ¬ ((decide (0 > text.size) || decide (text.size - 0 < (Sre.header codeA).1)) = true) := by
      intro h
      rw [show (Sre.header codeA).1 = 1 from rfl, Bool.or_eq_true] at h
      rcases h with h | h
      · have := of_decide_eq_true h; omega
      · have := of_decide_eq_true h; omega
    rw [if_neg hneg]
    exact ⟨_, rfl, rfl, rfl, rfl, rfl, rfl, rfl, rfl, rfl, rfl, rfl⟩
  obtain ⟨m₀, hc, ht, hl, hm, hpc, hfr, hoc, han, hwt, hwh, hmu⟩ := hstart
  have hfs : m₀.hasFirstSet = true := by unfold Sre.M.hasFirstSet; rw [hc]; rfl
  have hmem : ∀ p, p < text.size → text.getD p 0 ∈ text.toList := fun p hp => by simp [Array.getD, hp]
  rcases admitted_spec m₀ hc (m₀.lim + 1 - 0) 0 m₀.seen (by omega) with ⟨h1, seen', h2⟩ | ⟨p, seen', _, h3, h4, h5⟩
  · refine .inl ⟨fun c hcm => ?_, ?_⟩
    · obtain ⟨i, hi, rfl⟩ := List.mem_iff_getElem.mp hcm
      have hi' : i < text.size := by simpa using hi
      have := h1 i (Nat.zero_le _) (by rw [hl]; exact hi')
      rw [ht] at this
      simpa [Array.getD, hi'] using this
    · rw [hm]
      unfold Sre.M.attemptFrom
      rw [hfs, h2]
      simp only [Bool.not_true, Bool.false_eq_true, if_false]
      refine ⟨_, rfl, ?_⟩
      simp [Sre.M.runFor, Sre.M.say, Sre.M.step, hoc, hfr]
  · refine .inr ⟨⟨text.getD p 0, hmem p (by rw [← hl]; exact h3), by rw [← ht]; exact h4⟩, ?_⟩
    rw [hm]
    unfold Sre.M.attemptFrom
    rw [hfs, h5]
    simp only [Bool.not_true, Bool.false_eq_true, if_false]
    refine ⟨_, rfl, ?_⟩
    obtain ⟨sn, hsn⟩ := inSet_20 (text.getD p 0) (seen'.add 13)
    rw [inCls_safe, show isSafe (text.getD p 0) = false by rw [← ht]; exact h4] at hsn
    have hacc : Sre.accepts codeA 18 (text.getD p 0) (seen'.add 13) = .ok (true, sn) := hsn
    have w0 : codeA.getD 18 0 = 13 := rfl
    have h3' : ¬ p ≥ text.size := by rw [← hl]; omega
    -- the machine stands at the sign
    obtain ⟨m₁, hm₁, q1, q2, q3, q4, q5, q6, q7, q8, q9, q10, q11⟩ : ∃ m₁ : Sre.M, ({ m₀ with mustAdvance := false, seen := seen' } : Sre.M).attemptAt p true = m₁ ∧ m₁.code = codeA ∧ m₁.text = text ∧ m₁.lim = text.size ∧ m₁.pc = 18 ∧ m₁.pos = p ∧ m₁.outcome = none ∧ m₁.answer = none ∧ m₁.seen = seen' ∧ m₁.outermost = true ∧ (m₁.wholeText = false ∧ m₁.mustAdvance = false) ∧
        ∃ f : Sre.Frame, m₁.frames = [f] ∧ f.wait = .nextStart := by
      unfold Sre.M.attemptAt Sre.M.attempt
      simp only
      rw [if_neg (by rw [hwt]; decide)]
      exact ⟨_, rfl, hc, ht, hl, hpc, rfl, hoc, han, rfl, rfl, ⟨hwh, rfl⟩, ⟨_, by rw [hfr], rfl⟩⟩
    rw [hm₁]
    obtain ⟨f, hf1, hf2⟩ := q11
    have s1 : m₁.step = { m₁ with seen := sn, pc := 33, pos := p + 1 } := by
      unfold Sre.M.step
      rw [q6, q7]
      simp only [Option.isSome_none, Bool.false_eq_true, if_false]
      rw [if_pos (by rw [q4, q1]; decide)]
      unfold Sre.M.exec Sre.M.word
      simp only [q4, q1, Nat.add_zero]
      rw [show Sre.ops[codeA.getD 18 0]? = some Sre.Op.IN from rfl]
      simp only [q5, q3, q2, q8]
      rw [if_neg h3']
      rw [show codeA.getD 18 0 = 13 from rfl, hacc]
      simp only [q6, q7]
      rfl
    obtain ⟨m₃, s2, r1, r2, r3⟩ : ∃ m₃ : Sre.M, ({ m₁ with seen := sn, pc := 33, pos := p + 1 } : Sre.M).step = m₃ ∧ m₃.outcome = none ∧ m₃.answer = some true ∧ m₃.frames = [f] := by
      unfold Sre.M.step
      simp only [q6, q7, Option.isSome_none, Bool.false_eq_true, if_false]
      rw [if_pos (by rw [q1]; decide)]
      unfold Sre.M.exec Sre.M.word
      simp only [q1, Nat.add_zero]
      rw [show Sre.ops[codeA.getD 33 0]? = some Sre.Op.SUCCESS from rfl]
      simp only [q9, q10.1, q10.2, Bool.false_and, Bool.and_false, Bool.or_false, Bool.false_eq_true, if_false]
      exact ⟨_, rfl, rfl, rfl, hf1⟩
    obtain ⟨m₄, s3, t1, t2, t3⟩ : ∃ m₄ : Sre.M, m₃.step = m₄ ∧ m₄.outcome = none ∧ m₄.answer = some true ∧ m₄.frames = [] := by
      unfold Sre.M.step
      rw [r1, r2, r3]
      simp only [Option.isSome_none, Bool.false_eq_true, if_false]
      unfold Sre.M.resume
      rw [hf2]
      simp only [if_true]
      exact ⟨_, rfl, rfl, rfl, rfl⟩
    have s4 : m₄.step.outcome = some .matched := by
      unfold Sre.M.step
      rw [t1, t2, t3]
      rfl
    have e : m₁.runFor 4 = m₄.step := by
      rw [runFor_succ q6, s1, runFor_succ (m := { m₁ with seen := sn, pc := 33, pos := p + 1 }) q6, s2, runFor_succ r1, s3, runFor_succ t1]
      rfl
    rw [e]; exact s4
end Mine
set_option maxRecDepth 100000
namespace Mine
open PySem.Builtin.Re
section
variable {prog : Program} {w : World} {A : Around} {E : Value → Shared → Prop} {s : Shared} {fz : Heap} {env : Env} {ρ σ : List (Str × PyData)}

theorem drive_now {m : Sre.M} {Q : Sre.M → Shared → Prop} (h : (m.runFor 4).outcome.isSome = true) (hq : Q (m.runFor 4) s) : wpAny (model prog w) A (reDrive (2 ^ 64) m) Q E s := by
  show wpAny _ _ (reDrive (18446744073709551615 + 1) m) Q E s
  unfold reDrive
  show wpAny _ _ (if (m.runFor 4).outcome.isSome = true then pure (m.runFor 4) else _) Q E s
  rw [if_pos h]
  exact wpAny_pure hq
theorem run_rules {l : List Nat} {p : Nat → Bool} {f : Nat → String} {Q : PUnit → Shared → Prop} (h : Q ⟨⟩ s) :
    wpAny (model prog w) A (forIn l PUnit.unit fun i (_ : PUnit) => if p i = true then (do rule (f i); pure (ForInStep.yield PUnit.unit)) else pure (ForInStep.yield PUnit.unit)) Q E s := by
  induction l with
  | nil => rw [List.forIn_nil]; exact wpAny_pure h
  | cons i r ih =>
    rw [List.forIn_cons]
    refine wpAny_bind ?_
    split
    · exact wpAny_bind (wpAny_rule (wpAny_pure ih))
    · exact wpAny_pure ih
theorem run_end {m : Sre.M} {Q : Option Sre.M → Shared → Prop} (h : (m.runFor 4).outcome = some .failed ∧ Q none s ∨ (m.runFor 4).outcome = some .matched ∧ Q (some (m.runFor 4)) s) : wpAny (model prog w) A (reRunToEnd m) Q E s := by
  unfold reRunToEnd
  refine wpAny_bind (drive_now (by rcases h with ⟨h, _⟩ | ⟨h, _⟩ <;> rw [h] <;> rfl) ?_)
  refine wpAny_bind (run_rules ?_)
  rcases h with ⟨h, hq⟩ | ⟨h, hq⟩
  · rw [h]; exact wpAny_pure hq
  · rw [h]; exact wpAny_pure hq
theorem named_search (v : Value) : reNamed "re.Pattern.search" "search" ["string", "pos", "endpos"] 1 [v] [] = pure [some v, none, none] := by rfl
theorem code_of (P : Params) : True := trivial
theorem target_search {x : Str} {t : Tok} {Q : ReTarget → Shared → Prop} (B : Base w s.heap) (hx : x.cps.size < 2 ^ 63)
    (h : Q { pattern := .ref 36, string := .str x t, code := codeA, text := x.cps, kind := 0, groups := 0, pos := 0, lim := x.cps.size } s) :
    wpAny (model prog w) A (reTarget "re.Pattern.search" "search" ⟨[.ref 36, .str x t], []⟩) Q E s := by
  unfold reTarget
  show wpAny _ _ (reNamed "re.Pattern.search" "search" ["string", "pos", "endpos"] 1 [.str x t] [] >>= _) Q E s
  rw [named_search]
  refine wpAny_bind (wpAny_pure ?_)
  have h36 : s.heap.get? 36 = some (objOf w 36) := B.k _ _ (by kernel_rfl)
  have d36 : (objOf w 36).data = .fields (fieldsAt w 36) := by kernel_rfl
  have h35 : s.heap.get? 35 = some (objOf w 35) := B.k _ _ (by kernel_rfl)
  show wpAny _ _ (pure (0 : Int) >>= fun pos => pure (2 ^ 63 - 1 : Int) >>= fun lim => fieldsOf (.ref 36) >>= _) Q E s
  refine wpAny_bind (wpAny_pure (wpAny_bind (wpAny_pure (wpAny_bind (wpAny_fieldsOf h36 d36 ?_)))))
  have e6 : (fieldsAt w 36).getD 6 .none = .int 0 0 := by kernel_rfl
  have e5 : (fieldsAt w 36).getD 5 .none = .ref 35 := by kernel_rfl
  have e2 : (fieldsAt w 36).getD 2 .none = .int 0 0 := by kernel_rfl
  show wpAny _ _ (pure (x.cps, 0) >>= _) Q E s
  refine wpAny_bind (wpAny_pure ?_)
  simp only [e6, e5, e2]
  rw [if_neg (by decide), if_neg (by decide)]
  refine wpAny_bind (wpAny_of_eq (a := ()) rfl ?_)
  refine wpAny_bind (m := reRawItems (.ref 35)) ?_
  unfold reRawItems
  refine wpAny_bind (wpAny_seqItems h35 (items := match (objOf w 35).data with | .seq xs _ => xs | _ => #[]) (n := match (objOf w 35).data with | .seq _ n => n | _ => 0) (by kernel_rfl) (wpAny_pure (wpAny_pure ?_)))
  have ec : Array.map (fun x => x.toNat) (Array.map reRawOf ((some (match (objOf w 35).data with | .seq xs _ => xs | _ => #[])).getD #[])) = codeA := by kernel_rfl
  rw [ec]
  have el : min ((2 ^ 63 - 1 : Int)).toNat x.cps.size = x.cps.size := Nat.min_eq_right (by
    have : ((2 ^ 63 - 1 : Int)).toNat = 9223372036854775807 := by decide
    omega)
  rw [el]
  exact h

def gR := (Manifest.signature? "re.Pattern.search").get (by decide +kernel)
theorem sigR : Manifest.signature? "re.Pattern.search" = some gR := (Option.some_get _).symm
theorem kindR : builtinKind "re.Pattern.search" = some .method := by kernel_rfl
theorem argsR (a b : Value) : Bind.checkArgs "re.Pattern.search" { gR with full := s!"{Bind.lastOf "re.Pattern"}.{Bind.lastOf "re.Pattern.search"}" } ⟨[a, b], []⟩ = pure () := by kernel_rfl
theorem check_search {v : Value} {Q : Unit → Shared → Prop} (B : Base w s.heap) (h : Q () s) : wpAny (model prog w) A (checkBoundCall "re.Pattern.search" ⟨[.ref 36, v], []⟩) Q E s := by
  have h36 : s.heap.get? 36 = some (objOf w 36) := B.k _ _ (by kernel_rfl)
  have hT : s.TypeIs (.ref 36) "re.Pattern" := ⟨_, h36, by kernel_rfl⟩
  unfold checkBoundCall
  simp only [sigR, kindR]
  rw [if_neg (by decide)]
  refine wpAny_bind (wpAny_isInstance (b := false) hT (by rw [isSubtype_type]; kernel_rfl) ?_)
  rw [if_neg (by decide +kernel)]
  refine wpAny_bind (m := isType (.ref 36)) ?_
  unfold isType
  refine wpAny_bind (wpAny_loadPart h36 ?_)
  have hd : (objOf w 36).data = .fields (fieldsAt w 36) := by kernel_rfl
  rw [hd]
  refine wpAny_pure ?_
  rw [if_neg (by intro h; cases h)]
  refine wpAny_bind (wpAny_typeOf hT ?_)
  exact wpAny_of_eq (a := ()) (argsR _ _) h
theorem entryR : entryFor table "re.Pattern.search" = some Builtin.«re.Pattern.search» := entryFor_of_tree (by kernel_rfl)
theorem quietR {as : Args} : (Code.builtin "re.Pattern.search" as).quiet = true := Code.quiet_builtin _ (by decide +kernel)

theorem call_search {x : Str} {t : Tok} {Q : Value → Shared → Prop} (B : Base w s.heap) (hne : 0 < x.cps.size) (hx : x.cps.size < 2 ^ 63)
    (h0 : (∀ c ∈ x.cps.toList, isSafe c = true) → Q .none s) (h1 : (∃ c ∈ x.cps.toList, isSafe c = false) → ∀ a h', Inc s.heap h' → Q (.ref a) { s with heap := h' }) :
    wpAny (model prog w) A (PySem.call (.ref 44) [.str x t]) Q E s := by
  have h44 : s.heap.get? 44 = some (objOf w 44) := B.k _ _ (by kernel_rfl)
  refine wpAny_call (codeAny_of_tree ?_)
  show wpAny _ _ (callAny (.ref 44) ⟨[.str x t], []⟩) _ _ s
  simp only [callAny]
  refine wpAny_bind (wpAny_load h44 ?_)
  have hd : (objOf w 44).data = .fields #[.builtin "re.Pattern.search", .ref 36] := by kernel_rfl
  have hcl : (objOf w 44).cls = .type "builtin_function_or_method" := by kernel_rfl
  rw [hd, hcl]
  simp only [show (Value.type "builtin_function_or_method" == Value.type "method" || Value.type "builtin_function_or_method" == Value.type "builtin_function_or_method" || Value.type "builtin_function_or_method" == Value.type "method-wrapper") = true by decide, if_true]
  show wpAny _ _ (if (Value.type "builtin_function_or_method" != Value.type "method") = true then _ else _) _ _ s
  rw [if_pos (by decide)]
  refine wpAny_bind (check_search B ?_)
  refine wpAny_bind (wpAny_pure (wpAny_pure ⟨quietR, codeAny_builtin entryR ?_⟩))
  show wpAny _ _ (reTarget "re.Pattern.search" "search" ⟨[.ref 36, .str x t], []⟩ >>= fun t => reAnswer t (Sre.forSearch t.code t.text t.groups t.pos t.lim false)) _ _ s
  refine wpAny_bind (target_search B hx ?_)
  unfold reAnswer
  refine wpAny_bind ?_
  rcases search_end x.cps hne with ⟨hs, m, hm, ho⟩ | ⟨hs, m, hm, ho⟩
  · refine run_end (.inl ⟨by rw [hm]; exact ho, ?_⟩)
    exact wpAny_pure (h0 hs)
  · refine run_end (.inr ⟨by rw [hm]; exact ho, ?_⟩)
    refine wpAny_bind ?_
    unfold reNewMatch
    simp only [List.range_zero, List.flatMap_nil, List.any_nil, Bool.false_eq_true, if_false]
    refine wpAny_bind (wpAny_newTuple ?_ (by show 2 ≤ sizeLine; decide))
    refine wpAny_newObj_type (wpAny_pure ?_)
    exact h1 hs _ _ ((inc_push _ _).trans (inc_push _ _))

/-- a bound built-in is called -/
theorem callWith_mach {pos : Pos} {u : Addr} {first : List Value} {args : List (Bool × Sem Value)} {Q : Value → Shared → Prop} (hplain : args.any (·.1) = false)
    (h : wpAny (model prog w) A (evalArgs (.ref u) true args []) (fun x s₁ => (∃ o vs, s₁.heap.get? u = some o ∧ o.data = .fields vs ∧ o.cls = .type "builtin_function_or_method") ∧ wpAny (model prog w) A (PySem.call (.ref u) (first ++ x.pos) x.kw) Q E s₁) E s) :
    wpAny (model prog w) A (callWith pos (.ref u) first args []) Q E s := by
  unfold callWith
  refine wpAny_bind (wpAny_holding (wpAny_mono h (fun x s₁ h₁ => wpAny_bind (wpAny_standAt ?_)) fun _ _ x => x))
  obtain ⟨⟨o, vs, ho, hd, hcl⟩, hcall⟩ := h₁
  simp only [hplain, List.any_nil, Bool.or_false]
  refine wpAny_bind (m := keeperOf (.ref u)) ?_
  unfold keeperOf
  refine wpAny_bind (wpAny_load ho ?_)
  rw [hd, hcl]
  simp only [show (Value.type "builtin_function_or_method" != Value.type "method") = true by decide, show (Value.type "builtin_function_or_method" == Value.type "builtin_function_or_method" || Value.type "builtin_function_or_method" == Value.type "method-wrapper") = true by decide, if_true]
  refine wpAny_pure ?_
  exact wpAny_bind (wpAny_mono hcall (fun r s₂ hr => wpAny_bind (wpAny_holding (wpAny_point (wpAny_pure hr)))) fun _ _ x => x)

/-- _find_unsafe(e) is None -/
theorem Ts.search {e : PySem.Expr} {x : Str} {p p1 p2 pos : Pos} {k : Nat} (h : Ev prog w A env ρ σ e (.str x)) (hst : isStarred e = false) (hne : 0 < x.cps.size) (hx : x.cps.size < 2 ^ 63) (hk : env.kindOf "_find_unsafe" = some .globalImplicit) :
    Ts prog w A env ρ σ (.Compare (.Call (.Name "_find_unsafe" p) [e] [] p1) [.Is] [.Constant .none k p2] pos) (x.cps.toList.all isSafe) := fun fz s ok => by
  refine wpAny_isTrue_Compare1 ?_ (by with_unfolding_all rfl)
  rw [eval_call]
  refine wpAny_bind (wpAny_mono (Tr.glo glo_find hk (by decide) ok) (fun v s₁ ⟨fz₁, m₁, e₁, r₁⟩ => ?_) fun _ _ x => x)
  subst r₁
  rw [backTo_plain hst]
  refine callWith_mach rfl (Calls.evalArgs_plain (Calls.spliced_cons (wpAny_mono (h fz₁ s₁ (ok.mv m₁)) (fun u s₂ ⟨fz₂, m₂, e₂, r₂⟩ => Calls.spliced_nil ?_) fun _ _ x => x)))
  obtain ⟨t, rfl⟩ := r₂.str_inv
  have B : Base w s₂.heap := ((ok.mv m₁).mv m₂).base.up m₂.fh
  refine ⟨⟨objOf w 44, _, B.k _ _ (by kernel_rfl), (show (objOf w 44).data = .fields #[.builtin "re.Pattern.search", .ref 36] by kernel_rfl), by kernel_rfl⟩, ?_⟩
  refine call_search B hne hx (fun hs => ?_) fun hs a h' i' => ?_
  · have : x.cps.toList.all isSafe = true := List.all_eq_true.mpr hs
    rw [this]
    refine wpAny_pure (wpAny_is_plain rfl (wpAny_truthy_bool ⟨fz₂, m₁.trans m₂, e₁.trans e₂, rfl⟩))
  · have : x.cps.toList.all isSafe = false := by
      obtain ⟨c, hc, hs⟩ := hs
      cases e : x.cps.toList.all isSafe with
      | false => rfl
      | true => rw [List.all_eq_true.mp e c hc] at hs; cases hs
    rw [this]
    refine wpAny_pure (wpAny_is_plain rfl (wpAny_truthy_bool ⟨fz₂, (m₁.trans m₂).trans (Mv.up m₂.fh i'), ⟨(e₁.trans e₂).os, (e₁.trans e₂).gens⟩, rfl⟩))
end
end Mine
set_option maxRecDepth 100000
namespace Mine
section
variable {prog : Program} {w : World} {A : Around} {E : Value → Shared → Prop} {s : Shared} {fz : Heap} {env : Env} {ρ σ : List (Str × PyData)}

def subst (c : Nat) (z : List Nat) (l : List Nat) : List Nat := l.flatMap fun k => if k = c then z else [k]
theorem subst_append (c : Nat) (z a b : List Nat) : subst c z (a ++ b) = subst c z a ++ subst c z b := by simp [subst]
theorem subst_free (c : Nat) (z : List Nat) : ∀ l : List Nat, c ∉ l → subst c z l = l
  | [], _ => rfl
  | k :: r, h => by
    have h1 : ¬ k = c := fun e => h (e ▸ List.mem_cons_self ..)
    have h2 : c ∉ r := fun m => h (List.mem_cons_of_mem _ m)
    have ih := subst_free c z r h2
    unfold subst at ih ⊢
    rw [List.flatMap_cons, if_neg h1, ih]; rfl
theorem subst_join (c : Nat) (z : Str) : ∀ parts : List Str, (∀ p ∈ parts, c ∉ p.cps.toList) → subst c z.cps.toList (Str.join ⟨#[c]⟩ parts).cps.toList = (Str.join z parts).cps.toList
  | [], _ => rfl
  | [p], h => subst_free c _ _ (h p (List.mem_singleton.mpr rfl))
  | p :: q :: r, h => by
    have ih := subst_join c z (q :: r) fun a ha => h a (List.mem_cons_of_mem _ ha)
    show subst c z.cps.toList (p ++ ⟨#[c]⟩ ++ Str.join ⟨#[c]⟩ (q :: r)).cps.toList = (p ++ z ++ Str.join z (q :: r)).cps.toList
    simp only [Str.cps_append, Array.toList_append]
    rw [subst_append, subst_append, ih, subst_free c _ _ (h p (List.mem_cons_self ..))]
    have : subst c z.cps.toList [c] = z.cps.toList := by simp [subst]
    show p.cps.toList ++ subst c z.cps.toList [c] ++ _ = _
    rw [this]
theorem replace_subst (x z : Str) (c : Nat) : (PySem.Txt.replace x ⟨#[c]⟩ z).cps.toList = subst c z.cps.toList x.cps.toList := by
  rw [StrLaws.replace_one, ← subst_join c z _ (StrLaws.split_free x c), StrLaws.join_split]

theorem str_ext {a b : Str} (h : a.cps.toList = b.cps.toList) : a = b := by
  obtain ⟨⟨a⟩⟩ := a; obtain ⟨⟨b⟩⟩ := b; simp at h; subst h; rfl

theorem ap_lit : Str.ofString "'" = ({ cps := #[39] } : Str) := by decide +kernel
theorem five_lit : Str.ofString "'\"'\"'" = ({ cps := #[39, 34, 39, 34, 39] } : Str) := by decide +kernel
theorem esc_subst (t : List Nat) : subst 39 [39, 34, 39, 34, 39] t = t.flatMap esc := rfl

/-- "'" + x.replace("'", '..') -/
theorem Ev.quoteHead {o : PySem.Expr} {x : Str} {apos cpos p1 p2 p3 pos : Pos} {k1 k2 k3 : Nat} (ho : Ev prog w A env ρ σ o (.str x)) (hx : x.length ≤ 100000)
    (hbase : attributeBase o "replace" env (eval o env) = eval o env) (hline : (apos.endLine == cpos.line) = true) :
    Ev prog w A env ρ σ (.BinOp (.Constant (.str "'") k1 p1) .Add (.Call (.Attribute o "replace" apos) [.Constant (.str "'") k2 p2, .Constant (.str "'\"'\"'") k3 p3] [] cpos) pos) (.str ⟨(39 :: x.cps.toList.flatMap esc).toArray⟩) := fun fz s ok => by
  refine wpAny_BinOp (Calls.Constant_str ?_)
  have hs2 : starEach [PySem.Expr.Constant (.str "'") k2 p2, .Constant (.str "'\"'\"'") k3 p3] env = [(false, eval (.Constant (.str "'") k2 p2) env), (false, eval (.Constant (.str "'\"'\"'") k3 p3) env)] := rfl
  refine wpAny_Call_method_lateS hbase (by rw [hs2]; rfl) hline ?_
  rw [hs2]
  refine wpAny_mono (wpAny_toks_of (n := 1) (show 1 ≤ s.toks + 1 by omega) (ho fz { s with toks := s.toks + 1 } ok)) (fun v s₁ ⟨htk, fz₁, m₁, e₁, r₁⟩ => ?_) fun _ _ x => x.2
  obtain ⟨t, rfl⟩ := r₁.str_inv
  refine ⟨"str", "str.replace", PySem.F.plainAttrs_str, PySem.F.slot_str_replace, PySem.F.type_str_replace, typeIs_str _ _ _, fun a ha => (nomatch ha), ?_⟩
  refine Calls.callWith_builtin rfl (Calls.evalArgs_plain (Calls.spliced_cons (Calls.Constant_str (k := k2) (pos := p2) (Calls.spliced_cons (Calls.Constant_str (k := k3) (pos := p3) (Calls.spliced_nil ?_))))))
  show wpAny _ _ (PySem.call (.builtin "str.replace") [.str x t, .str "'" s₁.toks, .str "'\"'\"'" (s₁.toks + 1)]) _ _ _
  have hlen5 : (Str.ofString "'\"'\"'").length = 5 := by rw [five_lit]; rfl
  refine SC.replace (Nat.ne_of_gt htk) (Nat.succ_ne_zero _) (Nat.ne_of_lt (Nat.lt_succ_self _)) (by rw [ap_lit, five_lit]; decide) (by rw [hlen5]; omega) fun t' k => ?_
  have er : PySem.Txt.replace x (Str.ofString "'") (Str.ofString "'\"'\"'") = ⟨(x.cps.toList.flatMap esc).toArray⟩ := by
    refine str_ext ?_
    rw [ap_lit, replace_subst, five_lit]
    exact esc_subst _
  rw [er]
  have hfl : (x.cps.toList.flatMap esc).length ≤ 5 * x.cps.toList.length := flat_len _
  have hxl : x.cps.toList.length = x.length := by simp [Str.length]
  refine wpAny_mono (tr_add_str (fz := fz₁) (x := Str.ofString "'") (y := ⟨(x.cps.toList.flatMap esc).toArray⟩) m₁.fh .str .str ?_) (fun v s₃ ⟨fz₃, m₃, e₃, r₃⟩ => ⟨fz₃, m₁.trans m₃, ⟨e₃.os.trans e₁.os, e₃.gens.trans e₁.gens⟩, ?_⟩) fun _ _ x => x
  · have : (Str.ofString "'").length = 1 := by rw [ap_lit]; rfl
    rw [this]
    have e2 : ({ cps := (x.cps.toList.flatMap esc).toArray } : Str).length = (x.cps.toList.flatMap esc).length := by show Array.size _ = _; exact List.size_toArray
    rw [e2]
    have : sizeLine = 16777216 := by decide
    omega
  · have e : (Str.ofString "'" ++ ({ cps := (x.cps.toList.flatMap esc).toArray } : Str)) = ⟨(39 :: x.cps.toList.flatMap esc).toArray⟩ := by
      refine str_ext ?_
      rw [ap_lit, Str.cps_append]; simp
    rw [e] at r₃; exact r₃

theorem ct_quote {t : List Nat} (h : t.length ≤ 100000) : Ct prog w 51 1 [sD t] (sD (quoteT t)) := by
  have hl : (⟨t.toArray⟩ : Str).length = t.length := by show Array.size _ = _; exact List.size_toArray
  refine fn_quote.enter1 "s" (fun v => by kernel_rfl) (by kernel_rfl) fun A L room => ?_
  have es : ∀ pos, Ev prog w A (envF w 51 L) [(Str.ofString "s", sD t)] [] (.Name "s" pos) (.str ⟨t.toArray⟩) := fun pos => .loc (by rfl) (by kernel_rfl) (by decide)
  refine Bd.ifret (.not (.str (es _) (by rw [hl]; omega) (by intro _; rfl))) (fun hb => ?_) fun hb => ?_
  · have e : t = [] := by
      rw [hl] at hb
      have h0 : t.length = 0 := by simpa using hb
      exact List.length_eq_zero_iff.mp h0
    subst e
    have e : sD (quoteT []) = .str (Str.ofString "''") := by
      show PyData.str _ = PyData.str _
      rw [show Str.ofString "''" = ({ cps := #[39, 39] } : Str) from by decide +kernel]; rfl
    rw [e]; exact Bd.ret .str
  have hne : t ≠ [] := fun e => by subst e; rw [hl] at hb; simp at hb
  have hpos : 0 < (⟨t.toArray⟩ : Str).cps.size := by
    show 0 < t.toArray.size
    rw [List.size_toArray]; exact List.length_pos_iff.mpr hne
  refine Bd.ifret (.search (es _) rfl hpos (by show t.toArray.size < 2 ^ 63; rw [List.size_toArray]; omega) (by kernel_rfl)) (fun hb' => ?_) fun hb' => ?_
  · have e : quoteT t = t := by unfold quoteT; rw [if_pos ⟨hne, hb'⟩]
    rw [e]; exact Bd.ret (es _)
  · have e : sD (quoteT t) = .str (({ cps := (39 :: t.flatMap esc).toArray } : Str) ++ Str.ofString "'") := by
      have hb'' : ¬ t.all isSafe = true := by
        intro hh
        have : (({ cps := t.toArray } : Str).cps.toList.all isSafe) = t.all isSafe := rfl
        rw [this, hh] at hb'; cases hb'
      unfold sD quoteT
      rw [if_neg (fun hh => hb'' hh.2)]
      congr 1
      refine str_ext ?_
      rw [ap_lit, Str.cps_append]; simp
    rw [e]
    refine Bd.ret (.add_str (.quoteHead (es _) (by rw [hl]; exact h) (by rfl) (by rfl)) .str ?_)
    have h1 : ({ cps := (39 :: t.flatMap esc).toArray } : Str).length = (t.flatMap esc).length + 1 := by show Array.size _ = _; rw [List.size_toArray]; rfl
    have h2 : (Str.ofString "'").length = 1 := by rw [ap_lit]; rfl
    show ({ cps := (39 :: t.flatMap esc).toArray } : Str).length + _ ≤ _
    rw [h1, h2]
    have := flat_len t
    have : sizeLine = 16777216 := by decide
    omega
end
end Mine
set_option maxRecDepth 100000
namespace Mine

/-- the table of join's code object stands, outside the frozen part -/
structure Tb (fz h : Heap) : Prop where
  tab : ∃ ps, h.get? 38 = some { cls := .none, data := .fields ps } ∧ TriplesOk ps.toList
  hid : fz.get? 38 = none
section
variable {fz fz' fz₁ fz₂ h h' : Heap} {s s' s₁ s₂ : Shared}
theorem Tb.mv (x : Tb fz h) (k : Mv fz h fz' h') : Tb fz' h' :=
  let ⟨ps, a, b⟩ := x.tab; ⟨⟨ps, k.hh _ _ a, b⟩, k.old _ _ a x.hid⟩
theorem Tb.ns {a : Addr} {m : Str → Option Value} (x : Tb fz h) (y : h.Ns a m) : a ≠ 38 := by
  rintro rfl
  obtain ⟨ps, e, _⟩ := x.tab
  obtain ⟨o, es, n, ho, hd, _⟩ := y
  rw [e] at ho; cases ho; cases hd
theorem Tb.cell {a : Addr} {v : Option Value} (x : Tb fz h) (y : h.IsCell a v) : a ≠ 38 := by
  rintro rfl
  obtain ⟨ps, e, _⟩ := x.tab
  obtain ⟨o, ho, hd⟩ := y
  rw [e] at ho; cases ho; cases hd
theorem Tb.list {a : Addr} {v : Array Value} (x : Tb fz h) (y : h.IsList a v) : a ≠ 38 := by
  rintro rfl
  obtain ⟨ps, e, _⟩ := x.tab
  obtain ⟨o, ho, _, _, hd⟩ := y
  rw [e] at ho; cases ho; cases hd

/-- a step that may let the table grow and may leave generators behind -/
structure Im (fz : Heap) (s : Shared) (fz' : Heap) (s' : Shared) : Prop where
  ff : Inc fz fz'
  hh : ∀ b o, b ≠ 38 → s.heap.get? b = some o → s'.heap.get? b = some o
  fh : Inc fz' s'.heap
  old : ∀ b o, s.heap.get? b = some o → fz.get? b = none → fz'.get? b = none
  tb : Tb fz' s'.heap
  os : s'.os = s.os
  bare : AllBare s.gens → AllBare s'.gens
theorem Im.of (t : Tb fz s.heap) (k : Mv fz s.heap fz' s'.heap) (e : Same s s') : Im fz s fz' s' :=
  ⟨k.ff, fun b o _ e => k.hh b o e, k.fh, k.old, t.mv k, e.os, fun x => by rw [show s'.gens = s.gens from congrArg Prod.fst e.gens]; exact x⟩
theorem Im.trans (x : Im fz s fz₁ s₁) (y : Im fz₁ s₁ fz₂ s₂) : Im fz s fz₂ s₂ :=
  ⟨x.ff.trans y.ff, fun b o h e => y.hh b o h (x.hh b o h e), y.fh, fun b o e f => by
    by_cases hb : b = 38
    · subst hb; exact y.tb.hid
    · exact y.old b o (x.hh b o hb e) (x.old b o e f), y.tb, y.os.trans x.os, fun h => y.bare (x.bare h)⟩

variable {w : World} {env : Env} {ρ σ : List (Str × PyData)}
theorem EOk.im (x : EOk w env ρ σ fz s.heap) (t : Tb fz s.heap) (k : Im fz s fz' s') : EOk w env ρ σ fz' s'.heap where
  base := x.base.up k.ff
  inc := k.fh
  kind := x.kind
  gl := x.gl
  bi := x.bi
  loc := let ⟨m, a, b⟩ := x.loc; ⟨m, a.at' fun o e => k.hh _ o (t.ns a) e, fun y d e => let ⟨v, p, q⟩ := b y d e; ⟨v, p, q.up k.ff⟩⟩
  cel := fun y d e => by
    obtain ⟨c, v, p, q, r⟩ := x.cel y d e
    have hc := t.cell q
    obtain ⟨o, ho, hd⟩ := q
    exact ⟨c, v, p, ⟨o, k.hh _ _ hc ho, hd⟩, r.up k.ff⟩
  hid := let ⟨m, ⟨o, _, _, ho, _⟩, _⟩ := x.loc; k.old _ o ho x.hid
theorem At.im {fz₀ kp : Heap} (x : At w fz₀ kp env ρ σ none fz s.heap) (t : Tb fz s.heap) (hkp : kp.get? 38 = none) (k : Im fz s fz' s') : At w fz₀ kp env ρ σ none fz' s'.heap where
  ok := x.ok.im t k
  mv := ⟨x.mv.ff.trans k.ff, fun b o e => k.hh b o (fun hb => by rw [hb, hkp] at e; cases e) (x.mv.hh b o e), k.fh, fun b o e f => k.old b o (x.mv.hh b o e) (x.mv.old b o e f)⟩
  new := x.new
  own := fun _ _ e => nomatch e
end

section
variable {prog : Program} {w : World} {A : Around} {env : Env} {ρ σ : List (Str × PyData)} {d : PyData}
def Ei (prog : Program) (w : World) (A : Around) (env : Env) (ρ σ : List (Str × PyData)) (e : PySem.Expr) (d : PyData) : Prop :=
  ∀ fz s, EOk w env ρ σ fz s.heap → Tb fz s.heap → wpAny (model prog w) A (eval e env) (fun v s' => ∃ fz', Im fz s fz' s' ∧ Rd fz' v d) Nope s
def Ci (prog : Program) (w : World) (f : Addr) (k : Nat) (ds : List PyData) (d : PyData) : Prop :=
  ∀ A fz s vs, Room A k → Base w fz → Inc fz s.heap → Tb fz s.heap → Rds fz vs ds → codeAny (model prog w) A (.call (.ref f) ⟨vs, []⟩) (fun r s' => ∃ v fz', r = .ok (.ret v) ∧ Im fz s fz' s' ∧ Rd fz' v d) s

theorem Ei.of {e : PySem.Expr} (h : Ev prog w A env ρ σ e d) : Ei prog w A env ρ σ e d := fun fz s ok t =>
  wpAny_mono (h fz s ok) (fun v s₁ ⟨fz₁, m₁, e₁, r₁⟩ => ⟨fz₁, .of t m₁ e₁, r₁⟩) fun _ _ x => x
theorem Ei.add_list {l r : PySem.Expr} {pos : Pos} {ds es : List PyData} (hl : Ei prog w A env ρ σ l (.list ds)) (hr : Ei prog w A env ρ σ r (.list es)) (hsz : ds.length + es.length ≤ sizeLine) :
    Ei prog w A env ρ σ (.BinOp l .Add r pos) (.list (ds ++ es)) := fun fz s ok t => by
  refine wpAny_BinOp (wpAny_mono (hl fz s ok t) (fun a s₁ ⟨fz₁, m₁, r₁⟩ => ?_) fun _ _ x => x)
  refine wpAny_mono (hr fz₁ s₁ (ok.im t m₁) m₁.tb) (fun b s₂ ⟨fz₂, m₂, r₂⟩ => ?_) fun _ _ x => x
  exact wpAny_mono (tr_add_list m₂.fh (r₁.up m₂.ff) r₂ hsz) (fun v s₃ ⟨fz₃, m₃, e₃, r₃⟩ => ⟨fz₃, (m₁.trans m₂).trans (.of m₂.tb m₃ e₃), r₃⟩) fun _ _ x => x
theorem Ei.one {e : PySem.Expr} {pos : Pos} (h : Ei prog w A env ρ σ e d) (hs : isStarred e = false) : Ei prog w A env ρ σ (.List [e] pos) (.list [d]) := fun fz s ok t => by
  rw [arm_eval_List]
  rw [starEach_plain hs]
  refine wpAny_bind (wpAny_standAt (wpAny_bind (Calls.spliced_cons (wpAny_mono (h fz s ok t) (fun v s₁ ⟨fz₁, m₁, r₁⟩ => ?_) fun _ _ x => x))))
  refine Calls.spliced_nil ?_
  exact wpAny_mono (tr_newList m₁.fh (Rds.cons r₁ Rds.nil) (show 1 ≤ sizeLine by decide)) (fun v s₃ ⟨fz₃, m₃, e₃, r₃⟩ => ⟨fz₃, m₁.trans (.of m₁.tb m₃ e₃), r₃⟩) fun _ _ x => x
theorem Ei.call {x : Str} {p pos : Pos} {f : Addr} {k : Nat} {e : PySem.Expr} {es : List PySem.Expr} {ds : List PyData} {d : PyData} (room : Room A k) (hg : Glo w x (.ref f)) (hf : IsDef w f) (ct : Ci prog w f k ds d)
    (hargs : Evs prog w A env ρ σ (e :: es) ds) (hk : env.kindOf x = some .globalImplicit := by rfl) (hd : (x == ("__debug__" : Str)) = false := by decide) :
    Ei prog w A env ρ σ (.Call (.Name x p) (e :: es) [] pos) d := fun fz s ok t => by
  obtain ⟨o, fd, hfd, hfo⟩ := hf
  rw [eval_call]
  refine wpAny_bind (wpAny_mono (Tr.glo hg hk hd ok) (fun v s₁ ⟨fz₁, m₁, e₁, r₁⟩ => ?_) fun _ _ x => x)
  subst r₁
  have hst : isStarred e = false := by cases hargs; assumption
  refine Calls.callWith_function (o := o) (fd := fd) ?_
  have hsp := hargs.spliced (pos := pos) fz₁ s₁ (ok.mv m₁)
  rw [backTo_plain hst] at hsp ⊢
  refine Calls.evalArgs_plain (wpAny_mono hsp (fun vs s₂ ⟨fz₂, m₂, e₂, r₂⟩ => ?_) fun _ _ x => x)
  have b₂ := ((ok.mv m₁).mv m₂).base
  have t₂ := (t.mv m₁).mv m₂
  refine ⟨⟨hfo _ (b₂.up m₂.fh), hfd⟩, wpAny_call (codeAny_mono (ct A fz₂ s₂ vs room b₂ m₂.fh t₂ r₂) fun r s₃ ⟨v, fz₃, hr, m₃, r₃⟩ => ?_)⟩
  subst hr
  exact ⟨fz₃, (Im.of t (m₁.trans m₂) (e₁.trans e₂)).trans m₃, r₃⟩

/-- a body that hands back d, by such steps -/
def Bi (prog : Program) (w : World) (A : Around) (env : Env) (body : List Stmt) (d : PyData) (ρ σ : List (Str × PyData)) : Prop :=
  ∀ fz₀ kp fz s, At w fz₀ kp env ρ σ none fz s.heap → Tb fz s.heap → kp.get? 38 = none →
    wpAny (model prog w) A (execs body env) (fun f s' => ∃ v fz', f = .ret v ∧ Mv fz₀ kp fz' s'.heap ∧ Tb fz' s'.heap ∧ s'.os = s.os ∧ (AllBare s.gens → AllBare s'.gens) ∧ Rd fz' v d) Nope s
theorem Bi.ret {e : PySem.Expr} {pos : Pos} {rest : List Stmt} (h : Ei prog w A env ρ σ e d) : Bi prog w A env (.Return (some e) pos :: rest) d ρ σ := fun fz₀ kp fz s a t hkp =>
  wpAny_execs_cons (wpAny_Return_some (wpAny_mono (h fz s a.ok t) (fun v s₁ ⟨fz₁, m₁, r₁⟩ => ⟨v, fz₁, rfl, (a.im t hkp m₁).mv, m₁.tb, m₁.os, m₁.bare, r₁⟩) fun _ _ x => x))
theorem Bi.ifret {c : PySem.Expr} {b : Bool} {body rest : List Stmt} {pos : Pos} (ht : Ts prog w A env ρ σ c b) (h₁ : b = true → Bi prog w A env body d ρ σ) (h₂ : b = false → Bi prog w A env rest d ρ σ) :
    Bi prog w A env (.If c body [] pos :: rest) d ρ σ := fun fz₀ kp fz s a t hkp => by
  refine wpAny_execs_cons (wpAny_If (wpAny_mono (ht fz s a.ok) (fun c s₁ ⟨fz₁, m₁, e₁, r₁⟩ => ?_) fun _ _ x => x))
  subst r₁
  have i₁ := Im.of t m₁ e₁
  cases c with
  | true =>
    refine wpAny_mono (h₁ rfl fz₀ kp fz₁ s₁ (a.step m₁) i₁.tb hkp) (fun f s₂ ⟨v, fz₂, q1, q2, q3, q4, q5, q6⟩ => ?_) fun _ _ x => x
    subst q1
    exact ⟨v, fz₂, rfl, q2, q3, q4.trans i₁.os, fun x => q5 (i₁.bare x), q6⟩
  | false =>
    refine wpAny_execs_nil ?_
    exact wpAny_mono (h₂ rfl fz₀ kp fz₁ s₁ (a.step m₁) i₁.tb hkp) (fun f s₂ ⟨v, fz₂, q1, q2, q3, q4, q5, q6⟩ => ⟨v, fz₂, q1, q2, q3, q4.trans i₁.os, fun x => q5 (i₁.bare x), q6⟩) fun _ _ x => x

/-- the call is entered -/
theorem Fn.enterI {f : Addr} {k : Nat} {ds : List PyData} {d : PyData} (F : Fn w f) (ps : List Str) (ρ σ : List (Str × PyData))
    (hbind : ∀ vs, vs.length = ds.length → bindArgs (fdOf w f) ⟨vs, []⟩ = pure (ps.zip vs))
    (hkind : ∀ vs : List Value, vs.length = ds.length → ∀ n, ∀ x ∈ ps.zip vs, (fdOf w f).scope.names.lookup x.1 = some .local ∨ ((fdOf w f).scope.names.lookup x.1 = some .cell ∧ ((cellsFrom n (fdOf w f).scope.names []).lookup x.1).isSome = true))
    (hρ : ∀ fz vs, Rds fz vs ds → ∀ L x d, ρ.lookup x = some d → ∃ v, bindL (envF w f L).kindOf (ps.zip vs) (fun _ => none) x = some v ∧ Rd fz v d)
    (hσ : ∀ fz vs, Rds fz vs ds → ∀ L x d, σ.lookup x = some d → ∃ c v, (envF w f L).cells.lookup x = some c ∧ bindC (envF w f L).kindOf (ps.zip vs) (fun _ => none) x = some v ∧ Rd fz v d)
    (h : ∀ A L, Room A k → Bi prog w A (envF w f L) (bodyOf w f) d ρ σ) : Ci prog w f (k + 1) ds d := fun A fz s vs room B i t r => by
  have B' := B.up i
  refine codeAny_call_cells (fd := fdOf w f) (body := bodyOf w f) (binds := ps.zip vs) room.lim (B'.k _ _ F.at_) F.data (Fn.nolimit B') (F.code _ B') F.body (hbind vs r.length) F.clo (hkind vs r.length _) (fun s₁ c => ?_) F.co F.gen F.kind
  have hs : ∃ h' tk, s₁ = { s with heap := h', toks := tk } := c.toInCall.same
  have ck : Inc (cut s.heap fun b => decide (b ≠ 38)) s.heap := fun b o e => by
    rw [cut_get] at e; split at e
    · exact e
    · cases e
  have ig : ∀ b o, b ≠ 38 → s.heap.get? b = some o → (cut s.heap fun b => decide (b ≠ 38)).get? b = some o := fun b o hb e => by rw [cut_get]; simp [hb, e]
  have ng : (cut s.heap fun b => decide (b ≠ 38)).get? 38 = none := by rw [cut_get]; simp
  have a : At w fz (cut s.heap fun b => decide (b ≠ 38)) (envF w f s.heap.objs.size) ρ σ none fz s₁.heap := by
    refine ⟨⟨B, i.trans c.toInCall.keep, F.kind, F.gl, F.bi, ⟨_, c.toInCall.ns, fun x d e => hρ fz vs r _ x d e⟩, fun x d e => ?_, ?_⟩, ⟨.refl _, ck.trans c.toInCall.keep, i.trans c.toInCall.keep, fun _ _ _ e => e⟩, ?_, fun _ _ e => nomatch e⟩
    · obtain ⟨cc, v, h1, h2, h3⟩ := hσ fz vs r _ x d e
      exact ⟨cc, v, h1, by have := c.cell x cc h1; exact (by rw [← h2]; exact this), h3⟩
    · cases e : fz.get? (envF w f s.heap.objs.size).locals with
      | none => rfl
      | some o => have := i _ _ e; rw [show (envF w f s.heap.objs.size).locals = s.heap.objs.size from rfl, get_new] at this; cases this
    · show (cut s.heap _).get? s.heap.objs.size = none
      rw [cut_get, get_new]; simp
  have t₁ : Tb fz s₁.heap := let ⟨ps, e, g⟩ := t.tab; ⟨⟨ps, c.toInCall.keep _ _ e, g⟩, t.hid⟩
  refine wpAny_mono (h (A.deeper (envF w f s.heap.objs.size)) _ (room.deeper _) fz _ fz s₁ a t₁ ng) (fun fl s₂ ⟨v, fz', q1, q2, q3, q4, q5, q6⟩ => ?_) fun _ _ x => x.elim
  subst q1
  obtain ⟨h', tk, rfl⟩ := hs
  refine ⟨v, fz', rfl, ⟨q2.ff, fun b o hb e => q2.hh b o (ig b o hb e), q2.fh, fun b o e g => ?_, q3, q4, q5⟩, q6⟩
  by_cases hb : b = 38
  · subst hb; exact q3.hid
  · exact q2.old b o (ig b o hb e) g

theorem Fn.enterI1 {f : Addr} {k : Nat} {d1 d : PyData} (F : Fn w f) (x : Str) (hb : ∀ v, bindArgs (fdOf w f) ⟨[v], []⟩ = pure [(x, v)]) (hk : (fdOf w f).scope.names.lookup x = some .local)
    (h : ∀ A L, Room A k → Bi prog w A (envF w f L) (bodyOf w f) d [(x, d1)] []) : Ci prog w f (k + 1) [d1] d := by
  refine F.enterI [x] [(x, d1)] [] (fun vs hl => ?_) (fun vs hl n y hy => ?_) (fun fz vs r L y e hy => ?_) (fun _ _ _ _ _ _ e => by cases e) h
  · match vs, hl with
    | [v], _ => exact hb v
  · match vs, hl with
    | [v], _ => simp at hy; subst hy; exact .inl hk
  · obtain ⟨v, vs', rfl, r1, r2⟩ := r.cons_inv
    rw [r2.nil_inv]
    rw [List.lookup_cons] at hy
    by_cases hx : y = x
    · subst hx
      simp at hy; subst hy
      refine ⟨v, ?_, r1⟩
      show bindL _ [(y, v)] _ y = _
      unfold bindL bindL
      rw [if_pos (show (envF w f L).kindOf y = some .local from hk)]; simp
    · have : (y == x) = false := beq_eq_false_iff_ne.mpr hx
      simp [this] at hy

theorem Fn.enterI2 {f : Addr} {k : Nat} {d1 d2 d : PyData} (F : Fn w f) (x y : Str) (hxy : x ≠ y) (hb : ∀ u v, bindArgs (fdOf w f) ⟨[u, v], []⟩ = pure [(x, u), (y, v)]) (hk : (fdOf w f).scope.names.lookup x = some .local)
    (hk' : (fdOf w f).scope.names.lookup y = some .local) (h : ∀ A L, Room A k → Bi prog w A (envF w f L) (bodyOf w f) d [(x, d1), (y, d2)] []) : Ci prog w f (k + 1) [d1, d2] d := by
  refine F.enterI [x, y] [(x, d1), (y, d2)] [] (fun vs hl => ?_) (fun vs hl n z hz => ?_) (fun fz vs r L z e hz => ?_) (fun _ _ _ _ _ _ e => by cases e) h
  · match vs, hl with
    | [u, v], _ => exact hb u v
  · match vs, hl with
    | [u, v], _ =>
      simp at hz
      rcases hz with rfl | rfl
      · exact .inl hk
      · exact .inl hk'
  · obtain ⟨u, vs', rfl, r1, r2⟩ := r.cons_inv
    obtain ⟨v, vs'', rfl, r3, r4⟩ := r2.cons_inv
    rw [r4.nil_inv]
    have hb2 : ∀ z, bindL (envF w f L).kindOf ([x, y].zip [u, v]) (fun _ => none) z = if z = y then some v else if z = x then some u else none := fun z => by
      show bindL _ [(x, u), (y, v)] _ z = _
      unfold bindL bindL bindL
      rw [if_pos (show (envF w f L).kindOf x = some .local from hk), if_pos (show (envF w f L).kindOf y = some .local from hk')]
    rw [hb2]
    rw [List.lookup_cons] at hz
    by_cases hx : z = x
    · subst hx
      simp at hz; subst hz
      exact ⟨u, by simp [hxy], r1⟩
    · have : (z == x) = false := beq_eq_false_iff_ne.mpr hx
      simp only [this] at hz
      rw [List.lookup_cons] at hz
      by_cases hy : z = y
      · subst hy
        simp at hz; subst hz
        exact ⟨v, by simp, r3⟩
      · have : (z == y) = false := beq_eq_false_iff_ne.mpr hy
        simp [this] at hz
end
end Mine
set_option maxRecDepth 100000
namespace Mine
theorem foldl_tail (a : List Nat) : ∀ r : List (List Nat), r.foldl (fun line u => line ++ [32] ++ quoteT u) a = a ++ (r.map fun u => 32 :: quoteT u).flatten
  | [] => by simp
  | u :: r => by
    show r.foldl _ (a ++ [32] ++ quoteT u) = _
    rw [foldl_tail (a ++ [32] ++ quoteT u) r]; simp
theorem strJoin_tail (z p : Str) : ∀ r : List Str, (Str.join z (p :: r)).cps.toList = p.cps.toList ++ (r.map fun u => z.cps.toList ++ u.cps.toList).flatten
  | [] => by simp [Str.join]
  | u :: r => by
    show (p ++ z ++ Str.join z (u :: r)).cps.toList = _
    simp only [Str.cps_append, Array.toList_append]
    rw [strJoin_tail z u r]; simp
theorem sp_lit : Str.ofString " " = ({ cps := #[32] } : Str) := by decide +kernel
def qS (t : List Nat) : Str := ⟨(quoteT t).toArray⟩
theorem join_text (ts : List (List Nat)) : PySem.Txt.join " " (ts.map qS) = ⟨(joinT ts).toArray⟩ := by
  unfold PySem.Txt.join
  rw [StrLaws.glued_eq_join]
  cases ts with
  | nil => rfl
  | cons t r =>
    refine str_ext ?_
    rw [List.map_cons, strJoin_tail]
    show _ = r.foldl (fun line u => line ++ [32] ++ quoteT u) (quoteT t)
    rw [foldl_tail, List.map_map, sp_lit]
    rfl
theorem qS_len {t : List Nat} (h : t.length ≤ 1000) : (qS t).length ≤ 5002 := by
  have := quoteT_len t
  show (quoteT t).toArray.size ≤ _
  rw [List.size_toArray]; omega

section
variable {prog : Program} {w : World} {A : Around} {E : Value → Shared → Prop} {s : Shared} {fz : Heap}
theorem isCode_join {h : Heap} {ps : Array Value} (B : Base w fz) (i : Inc fz h) (e : h.get? 38 = some { cls := .none, data := .fields ps }) (ht : TriplesOk ps.toList) : h.IsCode 42 38 ps ∧ h.TableAt 42 38 ps := by
  have g := i _ _ (B.k 42 (objOf w 42) (by kernel_rfl))
  exact ⟨⟨objOf w 42, fieldsAt w 42, "/claim/cut.py", 329, 3, 0, true, 276, 0, _, g, by kernel_rfl, by kernel_rfl, by kernel_rfl, by kernel_rfl, by kernel_rfl, by kernel_rfl, e, rfl, ht, by decide⟩,
    ⟨objOf w 42, fieldsAt w 42, g, by kernel_rfl, by kernel_rfl, by kernel_rfl⟩, e⟩

theorem genexprCode_tab {env : Env} {pos : Pos} {q : Str} {scope : Scope} {Q : Value → Shared → Prop} (hc : env.code = .ref 42) (B : Base w fz) (i : Inc fz s.heap) (t : Tb fz s.heap)
    (hQ : ∀ code h' tk, Heap.ExtBut 38 s.heap h' → s.heap.objs.size ≤ h'.objs.size → Tb fz h' → Q code { s with heap := h', toks := tk }) : wpAny (model prog w) A (genexprCode env pos q scope) Q E s := by
  obtain ⟨ps, e, ht⟩ := t.tab
  obtain ⟨ic, ta⟩ := isCode_join B i e ht
  cases hf : codeAmong pos ps.toList with
  | some c' => exact wpAny_genexprCode_hit hc ic hf (hQ _ _ _ (Heap.ExtBut.refl _ _) (Nat.le_refl _) t)
  | none =>
    refine wpAny_genexprCodeX hc ic ta hf fun c' h' tk hx hge hlt hcode _ htab _ => hQ _ _ _ hx (Nat.le_trans hge (Nat.le_of_lt hlt)) ⟨⟨_, htab.2, ?_⟩, t.hid⟩
    obtain ⟨_, _, _, _, _, _, _, _, _, _, _, _, _, _, _, _, _, _, _, htr, _⟩ := hcode
    exact htr
end
end Mine
set_option maxRecDepth 100000
namespace Mine
section
variable {prog : Program} {w : World}
theorem keeps_of {s s' : Shared} (e : Same s s') (k : Inc s.heap s'.heap) : Keeps s s' := by
  refine ⟨s'.heap, s'.toks, ?_, k⟩
  obtain ⟨h, g, dr, tk, os⟩ := s
  obtain ⟨h', g', dr', tk', os'⟩ := s'
  obtain ⟨e1, e2⟩ := e
  simp only [Prod.mk.injEq] at e1 e2
  obtain ⟨rfl, rfl⟩ := e2
  subst e1
  rfl
theorem passing_all (n : Nat) : passing (fun _ => true) n 0 = List.range n := by
  unfold passing
  rw [List.drop_zero]
  exact List.filter_eq_self.mpr fun _ _ => rfl
theorem not_two {b C I : Nat} (h : b < I) (hC : I ≤ C) : b ∉ [C, I] := by simp; omega
theorem not_one {b I : Nat} (h : b < I) : b ∉ [I] := by simp; omega

theorem quiet_quote {ts : List (List Nat)} {A : Around} {env : Env} {scope : Scope} {C I : Addr} {code : Value} {fz : Heap} {vs : List Value} {p1 p2 p3 : Pos} {fp : List Addr} {href : Heap} (room : Room A 2) (B : Base w fz) (rv : Rds fz vs (ts.map sD)) (ht : ∀ t ∈ ts, t.length ≤ 1000)
    (hgl : env.globals = mainGlobals) (hkind : scope.kind = .function) (harg : scope.names.lookup ("arg" : Str) = some .local) (hq : scope.names.lookup ("quote" : Str) = some .globalImplicit) (hC : fz.get? C = none)
    (hfp : ∀ b o, fz.get? b = some o → b ∈ fp ∧ b ∉ [I] ∧ href.get? b = some o) :
    QuietGenD prog w (genEnv scope [] C code builtinsNs env) "arg" [] (.Call (.Name "quote" p1) [.Name "arg" p2] [] p3) fp [I] (fun i v => vs.toArray[i]? = some v) (fun _ => true)
      (fun i y => ∃ t u, ts[i]? = some t ∧ y = .str (qS t) u) href (A.depth + 1) (A.units + 8) := by
  refine ⟨fun A' E' i v s₂ m₂ hA hD hU hP hn hm hk => wpAny_pure ⟨rfl, s₂.heap, s₂.toks, rfl, fun _ _ e => e⟩, fun A' E' i v s₂ m₂ hA hD hU hP _ hn hm hk => ?_⟩
  have hP' : vs[i]? = some v := by simpa using hP
  obtain ⟨d, hd, rd⟩ := rv.get hP'
  rw [List.getElem?_map] at hd
  obtain ⟨t, ht', rfl⟩ := Option.map_eq_some_iff.mp hd
  have htl := ht t (List.mem_of_getElem? ht')
  have ok : EOk w (genEnv scope [] C code builtinsNs env) [(Str.ofString "arg", sD t)] [] fz s₂.heap := by
    refine ⟨B, fun b o e => ?_, hkind, hgl, rfl, ⟨m₂, hn, fun x d e => ?_⟩, fun _ _ e => (nomatch e), hC⟩
    · obtain ⟨h1, h2, h3⟩ := hfp b o e
      exact hk b h1 h2 o h3
    · rw [List.lookup_cons] at e
      by_cases hx : x = Str.ofString "arg"
      · subst hx
        simp at e; subst e
        exact ⟨v, hm, rd⟩
      · have : (x == Str.ofString "arg") = false := beq_eq_false_iff_ne.mpr hx
        simp [this] at e
  have room' : Room A' 1 := ⟨hA, by have := room.depth; omega, by have := room.units; omega⟩
  refine wpAny_mono ((Ev.call (x := "quote") room' glo_quote fn_quote.isDef (ct_quote (t := t) (by omega)) (.cons (.loc (x := "arg") (by rfl) harg (by decide)) rfl .nil) hq (by decide) : Ev prog w A' (genEnv scope [] C code builtinsNs env) [(Str.ofString "arg", sD t)] [] _ (sD (quoteT t))) fz s₂ ok)
    (fun y s₃ ⟨fz₃, m₃, e₃, r₃⟩ => ?_) fun _ _ x => x.elim
  obtain ⟨u, rfl⟩ := r₃.str_inv
  exact ⟨⟨t, u, ht', rfl⟩, keeps_of e₃ m₃.hh⟩

theorem ct_join {ts : List (List Nat)} (hn : ts.length ≤ 100) (ht : ∀ t ∈ ts, t.length ≤ 1000) : Ci prog w 43 3 [.list (ts.map sD)] (sD (joinT ts)) := by
  refine fn_join.enterI1 "split_command" (fun v => by kernel_rfl) (by kernel_rfl) fun A L room => ?_
  refine Bi.ret fun fz s ok t => ?_
  refine wpAny_Call_method_lateS (by rfl) (by rfl) (by rfl) ?_
  refine Calls.Constant_str ?_
  refine ⟨"str", "str.join", PySem.F.plainAttrs_str, PySem.F.slot_str_join, PySem.F.type_str_join, typeIs_str _ _ _, fun a ha => (nomatch ha), ?_⟩
  refine Calls.callWith_builtin rfl (Calls.evalArgs_plain (Calls.spliced_cons ?_))
  refine wpAny_GeneratorExp_walksQD room.handled rfl (cl := []) rfl (by decide) rfl rfl rfl room.lim ?_ (fun _ => rfl)
  refine wpAny_mono ((Ev.loc (x := "split_command") (by rfl) (by kernel_rfl) (by decide) : Ev prog w A (envF w 43 L) [(Str.ofString "split_command", .list (ts.map sD))] [] (.Name "split_command" _) (.list (ts.map sD))) fz { s with toks := s.toks + 1 } ok) (fun xv s₁ ⟨fz₁, m₁, e₁, r₁⟩ => ?_) fun _ _ x => x
  obtain ⟨l, vs, rfl, hl, rv⟩ := r₁.list_inv
  have t₁ : Tb fz₁ s₁.heap := Tb.mv t m₁
  have B₁ : Base w fz₁ := ok.base.up m₁.ff
  have hl₁ := isList_up hl m₁.fh
  have hl38 := t₁.list hl₁
  have hlt : l < s₁.heap.objs.size := let ⟨_, e, _⟩ := hl₁; Heap.lt_size e
  have h38 : 38 < s₁.heap.objs.size := let ⟨_, e, _⟩ := t₁.tab; Heap.lt_size e
  have hlen : vs.length = ts.length := by rw [rv.length, List.length_map]
  refine wpAny_pyIter_list hl₁ ⟨(Fn.nolimit (B₁.up m₁.fh)).push _, ?_⟩
  have i₂ : Inc fz₁ (s₁.heap.push { cls := .type "list_iterator", data := .fields #[.ref l, .int 0 0] }) := m₁.fh.trans (inc_push _ _)
  have t₂ : Tb fz₁ (s₁.heap.push { cls := .type "list_iterator", data := .fields #[.ref l, .int 0 0] }) := t₁.mv (Mv.up m₁.fh (inc_push _ _))
  refine genexprCode_tab (s := { s₁ with heap := s₁.heap.push { cls := .type "list_iterator", data := .fields #[.ref l, .int 0 0] } }) (by kernel_rfl) B₁ i₂ t₂ fun code h₃ tk₃ hx hsz t₃ => ?_
  rw [Heap.size_push] at hsz
  have i₃ : Inc fz₁ h₃ := fun b o e => hx b o (fun hb => by rw [hb, t₁.hid] at e; cases e) (i₂ b o e)
  obtain ⟨mg, bm, ob, M⟩ := (B₁.up i₃).m
  refine wpAny_builtinsFor M.ns M.name M.ne M.obj M.cls M.dict M.data ?_
  refine ⟨s₁.heap.objs.size, [s₁.heap.objs.size, l], [s₁.heap.objs.size], vs.toArray.size, fun i v => vs.toArray[i]? = some v, fun i h => h.IsListIter s₁.heap.objs.size l i ∧ h.IsList l vs.toArray, fun _ => true, fun i y => ∃ t u, ts[i]? = some t ∧ y = .str (qS t) u, rfl,
    fun A' hA => Walks.list hA _ _ (Nat.ne_of_lt hlt) _, ⟨⟨_, hx _ _ (Ne.symm (Nat.ne_of_lt h38)) (Heap.get?_push_size _ rfl), rfl, rfl⟩, (hl₁.push _).extBut hx hl38⟩, ?_, Fn.nolimit (B₁.up i₃), ?_, fun href hhref => ?_, fun a h₅ tk gs hgb hag hsz₅ hk₅ W hat => ?_⟩
  · intro b hb
    simp only [List.mem_cons, List.not_mem_nil, or_false] at hb
    rcases hb with rfl | rfl
    · exact hsz
    · exact Nat.lt_trans hlt hsz
  · intro hm
    have hc : cStatics < s₁.heap.objs.size := let ⟨_, hn, _⟩ := Fn.nolimit (B₁.up m₁.fh); hn.lt
    exact not_one hc hm
  · refine quiet_quote room B₁ rv ht (by kernel_rfl) rfl rfl rfl ?_ fun b o e => ?_
    · cases e : fz₁.get? h₃.objs.size with
      | none => rfl
      | some o => have := i₃ _ _ e; rw [get_new] at this; cases this
    · refine ⟨List.mem_range.mpr (Heap.lt_size (i₃ _ _ e)), not_one (Heap.lt_size (m₁.fh _ _ e)), hhref _ _ (i₃ _ _ e)⟩
  · refine Calls.spliced_nil ?_
    rw [passing_all] at W
    refine SC.joinGen (A := A) (W.of_in1.of_in1) (fun i s' st => st.1.typeIs) hat ?_ List.mem_cons_self ?_ ?_ ?_
    · intro b hb
      show b < h₅.objs.size
      rw [hsz₅]
      rcases List.mem_cons.mp hb with rfl | hb
      · exact Nat.lt_succ_self _
      · rcases List.mem_cons.mp hb with rfl | hb
        · exact Nat.lt_succ_of_lt hag
        · exact Nat.lt_succ_of_lt (Nat.lt_trans (List.mem_range.mp hb) hag)
    · rintro i v ⟨j, _, t, u, _, rfl⟩
      exact ⟨_, _, rfl⟩
    · intro s' lv hmv hit
      have htexts : lv.map (·.1) = ts.map qS := by
        refine List.ext_getElem? fun j => ?_
        have hsz' : lv.length = ts.length := by
          have := hit.1
          simp [strValues] at this
          omega
        by_cases hj : j < lv.length
        · have hv : (strValues lv).toArray[j]? = some (Value.str lv[j].1 lv[j].2) := by
            simp [strValues, hj]
          obtain ⟨i, hi, t, u, hti, hy⟩ := hit.2 j _ hv
          rw [List.getElem?_range (by simpa [hlen] using (by omega : j < vs.length))] at hi
          cases hi
          injection hy with hy1 hy2
          rw [List.getElem?_map, List.getElem?_map, hti, List.getElem?_eq_getElem hj]
          simp [hy1]
        · rw [List.getElem?_eq_none (by simpa using hj), List.getElem?_eq_none (by simpa [← hsz'] using hj)]
      refine ⟨?_, fun t' k => ⟨fz₁, ⟨m₁.ff, fun b o hb e => ?_, fun b o e => ?_, m₁.old, ⟨?_, t₁.hid⟩, ?_, fun hb => ?_⟩, ?_⟩⟩
      · rw [htexts]
        refine joinOk_of_weight ?_ (by rw [sp_lit]; decide)
        have hsum : ∀ l : List (List Nat), (∀ t ∈ l, t.length ≤ 1000) → ((l.map qS).map (·.length)).sum ≤ 5002 * l.length := by
          intro l
          induction l with
          | nil => intro _; simp
          | cons t r ih =>
            intro h
            have h1 := qS_len (h t List.mem_cons_self)
            have h2 := ih fun u hu => h u (List.mem_cons_of_mem _ hu)
            simp only [List.map_cons, List.sum_cons, List.length_cons]
            omega
        have := hsum ts ht
        rw [List.length_map]; omega
      · have h1 : s₁.heap.get? b = some o := m₁.hh b o e
        have h2 := hx b o hb (Heap.get?_push_of_some _ h1)
        refine hmv.heap b o (not_two (Heap.lt_size h1) (Nat.le_of_lt hsz)) (hk₅ b o h2)
      · have h1 : s₁.heap.get? b = some o := m₁.fh b o e
        have h2 := i₃ b o e
        refine hmv.heap b o (not_two (Heap.lt_size h1) (Nat.le_of_lt hsz)) (hk₅ b o h2)
      · obtain ⟨ps, e, htr⟩ := t₃.tab
        refine ⟨ps, hmv.heap _ _ (not_two h38 (Nat.le_of_lt hsz)) (hk₅ _ _ e), htr⟩
      · exact hmv.os.trans e₁.os
      · refine AllBare.moved (AllBare.push ?_ hgb) hmv.gens
        show AllBare s₁.gens
        rw [show s₁.gens = s.gens from congrArg Prod.fst e₁.gens]; exact hb
      · rw [htexts, join_text]
        exact Rd.str
    · simp [hlen]
      have : sizeLine = 16777216 := by decide
      omega
end
end Mine
set_option maxRecDepth 100000
namespace Mine
def tS (t : List Nat) : Str := ⟨t.toArray⟩
theorem em_lit : Str.ofString "" = ({ cps := #[] } : Str) := by decide +kernel
theorem join_flat (ts : List (List Nat)) : PySem.Txt.join "" (ts.map tS) = tS ts.flatten := by
  unfold PySem.Txt.join
  rw [StrLaws.glued_eq_join]
  cases ts with
  | nil => rfl
  | cons t r =>
    refine str_ext ?_
    rw [List.map_cons, strJoin_tail, em_lit, List.map_map, List.flatten_cons]
    show t ++ (List.map (fun u => [] ++ u) r).flatten = t ++ r.flatten
    simp
theorem strs_of {fz : Heap} : ∀ (ts : List (List Nat)) (vs : List Value), Rds fz vs (ts.map sD) → ∃ l : List (Str × Tok), strValues l = vs ∧ l.map (·.1) = ts.map tS
  | [], vs, r => ⟨[], by rw [r.nil_inv]; rfl, rfl⟩
  | t :: ts, vs, r => by
    obtain ⟨v, vs', rfl, r1, r2⟩ := r.cons_inv
    obtain ⟨u, rfl⟩ := r1.str_inv
    obtain ⟨l, rfl, h2⟩ := strs_of ts vs' r2
    exact ⟨(tS t, u) :: l, rfl, by rw [List.map_cons, h2]; rfl⟩
section
variable {prog : Program} {w : World} {A : Around} {fz : Heap} {s : Shared}
theorem tr_joinEmpty {ts : List (List Nat)} {v : Value} {vs : List Value} (i : Inc fz s.heap) (r1 : Rd fz v (.str "")) (r : Rds fz vs [.list (ts.map sD)]) (hl : ts.length ≤ 100) (ht : ∀ t ∈ ts, t.length ≤ 1000) :
    Tr prog w A (PySem.call (.builtin "str.join") (v :: vs)) fz s (fun fz' v => Rd fz' v (sD ts.flatten)) := by
  obtain ⟨t, rfl⟩ := r1.str_inv
  obtain ⟨u, rfl, r'⟩ := r.one
  obtain ⟨D, ws, rfl, hD, rs⟩ := r'.list_inv
  obtain ⟨l, rfl, e⟩ := strs_of ts ws rs
  refine SC.join (isList_up hD i) e ?_ fun t' k => ⟨fz, .refl i, ⟨rfl, rfl⟩, ?_⟩
  · refine joinOk_of_weight ?_ (by rw [em_lit]; decide)
    have hsum : ∀ l : List (List Nat), (∀ t ∈ l, t.length ≤ 1000) → ((l.map tS).map (·.length)).sum ≤ 1000 * l.length := by
      intro l
      induction l with
      | nil => intro _; simp
      | cons t r ih =>
        intro h
        have h1 := h t List.mem_cons_self
        have h2 := ih fun u hu => h u (List.mem_cons_of_mem _ hu)
        have h3 : (tS t).length = t.length := List.size_toArray
        simp only [List.map_cons, List.sum_cons, List.length_cons]
        omega
    have := hsum ts ht
    rw [List.length_map]; omega
  · rw [join_flat]; exact Rd.str

theorem sD_app (a b : List Nat) : sD (a ++ b) = .str (tS a ++ tS b) := by
  unfold sD
  congr 1
  refine str_ext ?_
  rw [Str.cps_append]
  simp [tS]

set_option maxHeartbeats 1000000 in
theorem ct_done {ts : List (List Nat)} {x : Int} (hne : ts ≠ []) (hlen : ts.length ≤ 100) (ht : ∀ t ∈ ts, Txt 100 t) : Ci prog w 94 4 [.list (ts.map sD), .int x] (.list ((doneS ts x).map sD)) := by
  have big : ∀ n : Nat, n ≤ 2000000 → n ≤ sizeLine := fun n hn => Nat.le_trans hn (by decide)
  have hsz : (ts.map sD).length ≤ sizeLine := big _ (by rw [List.length_map]; omega)
  refine fn_done.enterI2 "texts" "x" (by decide) (fun u v => by kernel_rfl) (by kernel_rfl) (by kernel_rfl) fun A L room => ?_
  have eones : ∀ pos, Ev prog w A (envF w 94 L) [(Str.ofString "texts", .list (ts.map sD)), (Str.ofString "x", .int x)] [] (.Name "texts" pos) (.list (ts.map sD)) := fun pos => .loc (by rfl) (by kernel_rfl) (by decide)
  have ex : ∀ pos, Ev prog w A (envF w 94 L) [(Str.ofString "texts", .list (ts.map sD)), (Str.ofString "x", .int x)] [] (.Name "x" pos) (.int x) := fun pos => .loc (by rfl) (by kernel_rfl) (by decide)
  obtain ⟨pre, t, hts⟩ := snoc_of hne
  have hmt : Txt 100 t := ht t (by rw [hts]; simp)
  have hl1 : ts.length = pre.length + 1 := by rw [hts]; simp
  have hlast : ts.getLastD [] = t := by rw [hts]; simp
  have eitem : ∀ (e : PySem.Expr), Ev prog w A (envF w 94 L) [(Str.ofString "texts", .list (ts.map sD)), (Str.ofString "x", .int x)] [] e (.int (-1)) → (∀ a b, subscripted e false a b = operate [a, b] (getItem a b)) → ∀ p1 pos, Ev prog w A (envF w 94 L) [(Str.ofString "texts", .list (ts.map sD)), (Str.ofString "x", .int x)] [] (.Subscript (.Name "texts" p1) e pos) (sD t) := fun e he hs p1 pos => by
    refine .item_neg (eones _) he (by decide) (by rw [List.length_map, hl1]; omega) (by decide) ?_ hs
    rw [List.length_map, List.getElem?_map, hl1]
    have : ((-1 : Int) + ((pre.length + 1 : Nat) : Int)).toNat = pre.length := by omega
    rw [this, hts]; simp
  refine Bi.ifret (b := decide (x.fmod 10 < 5)) (.mod (ex _) fun _ _ _ _ i u v => tr_lt i u v) (fun hb => ?_) fun hb => ?_
  · have hb' := of_decide_eq_true hb
    have e : doneS ts x = ts.take (ts.length - 1) ++ [t ++ [sgn x]] := by unfold doneS; rw [if_pos hb', hlast]
    rw [e, List.map_append, List.map_take]
    have hlm : ts.length = (ts.map sD).length := by simp
    rw [hlm, List.map_cons, List.map_nil, sD_app]
    refine Bi.ret (.of (.add_list (.sliceTo (k := 1) (eones _) (by decide) hsz) (.list (.cons (.add_str (eitem _ (.neg .int) (by intro _ _; with_unfolding_all rfl) _ _) (.call (room.less (show 1 ≤ 3 by decide)) glo_sign fn_sign.isDef (ct_sign hb') (.cons (ex _) rfl .nil) (by kernel_rfl)) ?_) rfl .nil) (show 1 ≤ sizeLine by decide)) ?_))
    · have h1 : (tS t).length = t.length := List.size_toArray
      have h2 : (tS [sgn x]).length = 1 := rfl
      rw [h1, h2]
      exact big _ (by have := hmt.1; omega)
    · simp; exact big _ (by omega)
  have n5 := of_decide_eq_false hb
  refine Bi.ifret (b := decide (x.fmod 10 = 5)) (.mod (ex _) fun _ _ _ _ i u v => tr_eq_int i u v) (fun hb => ?_) fun hb => ?_
  · have hb' := of_decide_eq_true hb
    have e : doneS ts x = ts ++ [[]] := by unfold doneS; rw [if_neg n5, if_pos hb']
    rw [e, List.map_append]
    refine Bi.ret (.of (.add_list (eones _) (.list (.cons .str rfl .nil) (show 1 ≤ sizeLine by decide)) ?_))
    simp; exact big _ (by omega)
  have m5 := of_decide_eq_false hb
  have hdrop : ∀ v ∈ ts.drop (ts.length - 2), v ∈ ts := fun v hv => List.mem_of_mem_drop hv
  have hdl : (ts.drop (ts.length - 2)).length ≤ 100 := by simp; omega
  have hdt : ∀ v ∈ ts.drop (ts.length - 2), v.length ≤ 1000 := fun v hv => by have := (ht v (hdrop v hv)).1; omega
  have efrom : ∀ p p1 p2 pos p0 c, Ev prog w A (envF w 94 L) [(Str.ofString "texts", .list (ts.map sD)), (Str.ofString "x", .int x)] [] (.Subscript (.Name "texts" p0) (.Slice (some (.UnaryOp .USub (.Constant (.int ((2 : Nat) : Int)) c p1) p2)) Option.none Option.none p) pos) (.list ((ts.drop (ts.length - 2)).map sD)) := fun p p1 p2 pos p0 c => by
    refine Ev.eq (.sliceFrom (k := 2) (eones _) (by decide) hsz) ?_
    rw [List.length_map, ← List.map_drop]
  refine Bi.ifret (b := decide (x.fmod 10 = 6)) (.mod (ex _) fun _ _ _ _ i u v => tr_eq_int i u v) (fun hb => ?_) fun hb => ?_
  · have hb' := of_decide_eq_true hb
    have e : doneS ts x = ts.take (ts.length - 2) ++ [(ts.drop (ts.length - 2)).flatten] := by unfold doneS; rw [if_neg n5, if_neg m5, if_pos hb']
    rw [e, List.map_append, List.map_take]
    rw [show List.take (ts.length - 2) (ts.map sD) = List.take ((ts.map sD).length - 2) (ts.map sD) by simp]
    refine Bi.ret (.of (.add_list (.sliceTo (k := 2) (eones _) (by decide) hsz) (.list (.cons (.meth_str (y := "") .str PySem.F.slot_str_join PySem.F.type_str_join (fun fz s v vs _ i r1 r => tr_joinEmpty i r1 r hdl hdt) (.cons (efrom _ _ _ _ _ _) rfl .nil)) rfl .nil) (show 1 ≤ sizeLine by decide)) ?_))
    simp; exact big _ (by omega)
  have m6 := of_decide_eq_false hb
  refine Bi.ifret (b := decide (x.fmod 10 = 7)) (.mod (ex _) fun _ _ _ _ i u v => tr_eq_int i u v) (fun hb => ?_) fun hb => ?_
  · have hb' := of_decide_eq_true hb
    have e : doneS ts x = ts.take (ts.length - 1) ++ [quoteT t] := by unfold doneS; rw [if_neg n5, if_neg m5, if_neg m6, if_pos hb', hlast]
    rw [e, List.map_append, List.map_take]
    have hlm : ts.length = (ts.map sD).length := by simp
    rw [hlm]
    refine Bi.ret (.of (.add_list (.sliceTo (k := 1) (eones _) (by decide) hsz) (.list (.cons (.call (room.less (show 1 ≤ 3 by decide)) glo_quote fn_quote.isDef (ct_quote (by have := hmt.1; omega))
      (.cons (eitem _ (.neg .int) (by intro _ _; with_unfolding_all rfl) _ _) rfl .nil) (by kernel_rfl)) rfl .nil) (show 1 ≤ sizeLine by decide)) ?_))
    simp; exact big _ (by omega)
  have m7 := of_decide_eq_false hb
  refine Bi.ifret (b := decide (x.fmod 10 = 8)) (.mod (ex _) fun _ _ _ _ i u v => tr_eq_int i u v) (fun hb => ?_) fun hb => ?_
  · have hb' := of_decide_eq_true hb
    have e : doneS ts x = ts.take (ts.length - 2) ++ [joinT (ts.drop (ts.length - 2))] := by unfold doneS; rw [if_neg n5, if_neg m5, if_neg m6, if_neg m7, if_pos hb']
    rw [e, List.map_append, List.map_take]
    rw [show List.take (ts.length - 2) (ts.map sD) = List.take ((ts.map sD).length - 2) (ts.map sD) by simp]
    refine Bi.ret (.add_list (.of (.sliceTo (k := 2) (eones _) (by decide) hsz)) (.one (.call (room.less (Nat.le_refl 3)) glo_join fn_join.isDef (ct_join hdl hdt) (.cons (efrom _ _ _ _ _ _) rfl .nil) (by kernel_rfl)) rfl) ?_)
    simp; exact big _ (by omega)
  have m8 := of_decide_eq_false hb
  have e : doneS ts x = ts ++ ts.drop (ts.length - 1) := by unfold doneS; rw [if_neg n5, if_neg m5, if_neg m6, if_neg m7, if_neg m8]
  rw [e, List.map_append, List.map_drop]
  rw [show List.drop (ts.length - 1) (ts.map sD) = List.drop ((ts.map sD).length - 1) (ts.map sD) by simp]
  refine Bi.ret (.of (.add_list (eones _) (.sliceFrom (k := 1) (eones _) (by decide) hsz) ?_))
  simp; exact big _ (by omega)
end
end Mine
set_option maxRecDepth 100000
namespace Mine
section
variable {prog : Program} {w : World} {A : Around} {fz : Heap} {s : Shared}
theorem preSum_take (ns : List Int) : ∀ j, j ≤ ns.length → preSum (fun i => ns.getD i 0) j = (ns.take j).sum
  | 0, _ => by simp [preSum]
  | j + 1, h => by
    have ih := preSum_take ns j (by omega)
    have hj : j < ns.length := by omega
    show preSum (fun i => ns.getD i 0) j + ns.getD j 0 = _
    rw [ih, List.take_add_one, List.sum_append]
    simp [hj]
theorem tr_sum {ns : List Int} {vs : List Value} (hh : A.handled = none) (i : Inc fz s.heap) (r : Rds fz vs [.list (ns.map .int)]) : Tr prog w A (PySem.call (.builtin "sum") vs) fz s (fun fz' v => Rd fz' v (.int ns.sum)) := by
  obtain ⟨v, rfl, r'⟩ := r.one
  obtain ⟨l, ws, rfl, hl, rs⟩ := r'.list_inv
  have hl₁ := isList_up hl i
  have hlt : l < s.heap.objs.size := let ⟨_, e, _⟩ := hl₁; Heap.lt_size e
  have hlen : ws.length = ns.length := by rw [rs.length, List.length_map]
  refine call_sum_walkAnyS (wpAny_pyIter_list hl₁ ?_)
  refine ⟨s.heap.objs.size, [s.heap.objs.size, l], [s.heap.objs.size], fun a b => b = a, ws.toArray.size, fun i v => ws.toArray[i]? = some v, _, fun i => ns.getD i 0, rfl, (Walks.list (A := A.in1) hh _ l (Nat.ne_of_lt hlt) ws.toArray).toS, ⟨⟨_, Heap.get?_push_size _ rfl, rfl, rfl⟩, hl₁.push _⟩, ?_, ?_, fun s' t' hm => ⟨fz, Mv.up i fun b o e => ?_, ⟨hm.os, ?_⟩, ?_⟩⟩
  · intro b hb
    show b < (s.heap.push _).objs.size
    rw [Heap.size_push]
    rcases List.mem_cons.mp hb with rfl | hb
    · exact Nat.lt_succ_self _
    · rcases List.mem_cons.mp hb with rfl | hb
      · exact Nat.lt_succ_of_lt hlt
      · cases hb
  · intro i v hv
    obtain ⟨d, hd, rd⟩ := rs.get (show ws[i]? = some v by simpa using hv)
    rw [List.getElem?_map] at hd
    obtain ⟨k, hk, rfl⟩ := Option.map_eq_some_iff.mp hd
    obtain ⟨t, rfl⟩ := rd.int_inv
    exact ⟨t, by simp [List.getD_eq_getElem?_getD, hk]⟩
  · exact hm.heap b o (not_one (Heap.lt_size e)) (Heap.get?_push_of_some _ e)
  · have h1 : s'.gens = s.gens := hm.gens
    have h2 : s'.drawn = s.drawn := hm.drawn
    rw [h1, h2]
  · have e : preSum (fun i => ns.getD i 0) ws.toArray.size = ns.sum := by
      rw [List.size_toArray, hlen, preSum_take ns _ (Nat.le_refl _), List.take_length]
    rw [e]; exact .int
theorem tr_list {ds : List PyData} {vs : List Value} (i : Inc fz s.heap) (r : Rds fz vs [.list ds]) (hsz : ds.length ≤ sizeLine) : Tr prog w A (PySem.call (.type "list") vs) fz s (fun fz' v => Rd fz' v (.list ds)) := by
  obtain ⟨v, rfl, r'⟩ := r.one
  obtain ⟨l, ws, rfl, hl, rs⟩ := r'.list_inv
  obtain ⟨o, ho, hc, n, hd⟩ := isList_up hl i
  refine call_list_seq l (.inl rfl) ho hc hd (fun h' c' k hg => ?_) (by rw [List.size_toArray, rs.length]; exact hsz)
  obtain ⟨fz', f1, f2, f3, f4⟩ := freeze (r := s.heap.objs.size) (show Inc fz h' from i.trans k)
  refine ⟨fz', ⟨f1, k, f2, fun b o e f => f4 b (Nat.ne_of_lt (Heap.lt_size e)) f⟩, ⟨rfl, rfl⟩, Rd.list ⟨_, f3.trans hg, rfl, _, rfl⟩ (rs.up f1)⟩
end

section
variable {w : World} {fz₀ kp fz h : Heap} {env : Env} {ρ σ : List (Str × PyData)}
theorem At.pure38 (a : At w fz₀ kp env ρ σ none fz h) (t : Tb fz h) : ∃ kp₁, At w fz kp₁ env ρ σ none fz h ∧ ∀ ρ' fz' h', At w fz kp₁ env ρ' σ none fz' h' → At w fz₀ kp env ρ' σ none fz' h' ∧ Tb fz' h' := by
  obtain ⟨kp₁, a₁, hk, back⟩ := a.here
  obtain ⟨m, hn, _⟩ := a.ok.loc
  obtain ⟨ps, e, g⟩ := t.tab
  have k38 := hk 38 _ e (Ne.symm (t.ns hn)) (fun _ _ _ _ e => nomatch e)
  exact ⟨kp₁, a₁, fun ρ' fz' h' a' => ⟨back _ _ _ _ _ a', ⟨ps, a'.mv.hh _ _ k38, g⟩, a'.mv.old _ _ k38 t.hid⟩⟩
theorem At.but38 (a : At w fz₀ kp env ρ σ none fz h) (hkp : kp.get? 38 = none) : ∃ kp₂, At w fz kp₂ env ρ σ none fz h ∧ kp₂.get? 38 = none ∧ (∀ b o, h.get? b = some o → b ≠ env.locals → b ≠ 38 → kp₂.get? b = some o) ∧
    ∀ ρ' fz' h', At w fz kp₂ env ρ' σ none fz' h' → At w fz₀ kp env ρ' σ none fz' h' := by
  have put : ∀ b o, h.get? b = some o → b ≠ env.locals → b ≠ 38 → (cut h fun b => decide (b ≠ env.locals) && decide (b ≠ 38)).get? b = some o := fun b o e h1 h2 => by
    rw [cut_get]; simp only [h1, h2, ne_eq, not_false_eq_true, decide_true, Bool.and_self, if_true]; exact e
  have kin : Inc kp (cut h fun b => decide (b ≠ env.locals) && decide (b ≠ 38)) := fun b o e =>
    put b o (a.mv.hh b o e) (fun hb => by rw [hb, a.new] at e; cases e) (fun hb => by rw [hb, hkp] at e; cases e)
  refine ⟨_, ⟨a.ok, ⟨.refl _, fun b o e => ?_, a.ok.inc, fun _ _ _ e => e⟩, ?_, fun _ _ e => nomatch e⟩, ?_, put, fun ρ' fz' h' a' => ⟨a'.ok, ⟨a.mv.ff.trans a'.mv.ff, kin.trans a'.mv.hh, a'.mv.fh, fun b o e f => a'.mv.old b o (kin b o e) (a.mv.old b o e f)⟩, a.new, fun _ _ e => nomatch e⟩⟩
  · rw [cut_get] at e; split at e
    · exact e
    · cases e
  · rw [cut_get]; simp
  · rw [cut_get]; simp
end

structure Go (s s' : Shared) : Prop where
  os : s'.os = s.os
  bare : AllBare s.gens → AllBare s'.gens
theorem Go.of {s s' : Shared} (e : Same s s') : Go s s' := ⟨e.os, fun x => by rw [show s'.gens = s.gens from congrArg Prod.fst e.gens]; exact x⟩
theorem Go.trans {a b c : Shared} (x : Go a b) (y : Go b c) : Go a c := ⟨y.os.trans x.os, fun h => y.bare (x.bare h)⟩

def Sxi (prog : Program) (w : World) (A : Around) (env : Env) (body : List Stmt) (ρ σ ρ' : List (Str × PyData)) : Prop :=
  ∀ fz₀ kp fz s, At w fz₀ kp env ρ σ none fz s.heap → Tb fz s.heap → kp.get? 38 = none →
    wpAny (model prog w) A (execs body env) (fun f s' => f = .next ∧ ∃ fz', At w fz₀ kp env ρ' σ none fz' s'.heap ∧ Tb fz' s'.heap ∧ Go s s' ∧ Inc fz fz') Nope s
def S1i (prog : Program) (w : World) (A : Around) (env : Env) (st : Stmt) (ρ σ ρ' : List (Str × PyData)) : Prop :=
  ∀ fz₀ kp fz s, At w fz₀ kp env ρ σ none fz s.heap → Tb fz s.heap → kp.get? 38 = none →
    wpAny (model prog w) A (exec st env) (fun f s' => f = .next ∧ ∃ fz', At w fz₀ kp env ρ' σ none fz' s'.heap ∧ Tb fz' s'.heap ∧ Go s s' ∧ Inc fz fz') Nope s

section
variable {prog : Program} {w : World} {A : Around} {env : Env} {ρ σ ρ' ρ'' : List (Str × PyData)} {d : PyData}
theorem S1i.of {st : Stmt} (h : S1 prog w A env st ρ σ none ρ' σ none) : S1i prog w A env st ρ σ ρ' := fun fz₀ kp fz s a t hkp => by
  obtain ⟨kp₁, a₁, back⟩ := a.pure38 t
  exact wpAny_mono (h fz kp₁ fz s a₁) (fun f s' ⟨hf, fz', a', e', i'⟩ => ⟨hf, fz', (back _ _ _ a').1, (back _ _ _ a').2, .of e', i'⟩) fun _ _ x => x
theorem Bi.cons {st : Stmt} {rest : List Stmt} (h : S1i prog w A env st ρ σ ρ') (k : Bi prog w A env rest d ρ' σ) : Bi prog w A env (st :: rest) d ρ σ := fun fz₀ kp fz s a t hkp =>
  wpAny_execs_cons (wpAny_mono (h fz₀ kp fz s a t hkp) (fun f s₁ ⟨hf, fz₁, a₁, t₁, g₁, _⟩ => by
    subst hf
    exact wpAny_mono (k fz₀ kp fz₁ s₁ a₁ t₁ hkp) (fun f s₂ ⟨v, fz₂, q1, q2, q3, q4, q5, q6⟩ => ⟨v, fz₂, q1, q2, q3, q4.trans g₁.os, fun x => q5 (g₁.bare x), q6⟩) fun _ _ x => x) fun _ _ x => x)
theorem Sxi.nil : Sxi prog w A env [] ρ σ ρ := fun _ _ fz s a t _ => wpAny_execs_nil ⟨rfl, fz, a, t, ⟨rfl, fun x => x⟩, .refl _⟩
theorem Sxi.cons {st : Stmt} {rest : List Stmt} (h : S1i prog w A env st ρ σ ρ') (k : Sxi prog w A env rest ρ' σ ρ'') : Sxi prog w A env (st :: rest) ρ σ ρ'' := fun fz₀ kp fz s a t hkp =>
  wpAny_execs_cons (wpAny_mono (h fz₀ kp fz s a t hkp) (fun f s₁ ⟨hf, fz₁, a₁, t₁, g₁, i₁⟩ => by
    subst hf
    exact wpAny_mono (k fz₀ kp fz₁ s₁ a₁ t₁ hkp) (fun f s₂ ⟨q1, fz₂, q2, q3, q4, i₂⟩ => ⟨q1, fz₂, q2, q3, g₁.trans q4, i₁.trans i₂⟩) fun _ _ x => x) fun _ _ x => x)
theorem Sxi.weaken {body : List Stmt} (h : Sxi prog w A env body ρ σ ρ') (hρ : ∀ y d, ρ''.lookup y = some d → ρ'.lookup y = some d) : Sxi prog w A env body ρ σ ρ'' := fun fz₀ kp fz s a t hkp =>
  wpAny_mono (h fz₀ kp fz s a t hkp) (fun _ _ ⟨q1, fz₂, q2, q3, q4, q5⟩ => ⟨q1, fz₂, q2.weaken hρ (fun _ _ e => e), q3, q4, q5⟩) fun _ _ x => x
theorem S1i.assign {x : Str} {p pos : Pos} {e : PySem.Expr} (h : Ei prog w A env ρ σ e d) (hk : env.kindOf x = some .local)
    (hs : swapsWith e (some (.Name x p)) pos.line env = pure false) : S1i prog w A env (.Assign [.Name x p] e pos) ρ σ ((x, d) :: ρ) := fun fz₀ kp fz s a t hkp => by
  refine wpAny_Assign_Name (wpAny_mono (h fz s a.ok t) (fun v s₁ ⟨fz₁, m₁, r₁⟩ => ?_) fun _ _ x => x) hs
  obtain ⟨kp₁, a₁, back⟩ := (a.im t hkp m₁).pure38 m₁.tb
  exact wpAny_mono (wp_store a₁ hk r₁ (fun _ e => nomatch e)) (fun _ s₂ ⟨q1, q2⟩ => ⟨rfl, fz₁, (back _ _ _ q1).1, (back _ _ _ q1).2, (Go.mk m₁.os m₁.bare).trans (.of q2), m₁.ff⟩) fun _ _ x => x
theorem S1i.ifnext {c : PySem.Expr} {b : Bool} {body : List Stmt} {pos : Pos} (ht : Ts prog w A env ρ σ c b) (h₁ : b = true → Sxi prog w A env body ρ σ ρ') (h₂ : b = false → ∀ y d, ρ'.lookup y = some d → ρ.lookup y = some d) :
    S1i prog w A env (.If c body [] pos) ρ σ ρ' := fun fz₀ kp fz s a t hkp => by
  refine wpAny_If (wpAny_mono (ht fz s a.ok) (fun c s₁ ⟨fz₁, m₁, e₁, r₁⟩ => ?_) fun _ _ x => x)
  subst r₁
  have i₁ := Im.of t m₁ e₁
  cases c with
  | true => exact wpAny_mono (h₁ rfl fz₀ kp fz₁ s₁ (a.step m₁) i₁.tb hkp) (fun f s₂ ⟨q1, fz₂, q2, q3, q4, i₂⟩ => ⟨q1, fz₂, q2, q3, (Go.of e₁).trans q4, m₁.ff.trans i₂⟩) fun _ _ x => x
  | false => exact wpAny_execs_nil ⟨rfl, fz₁, (a.step m₁).weaken (h₂ rfl) (fun _ _ e => e), i₁.tb, .of e₁, m₁.ff⟩

theorem for_walkI {fz₀ kp fz : Heap} {s : Shared} {target : PySem.Expr} {body : List Stmt} {I : Addr} {fp : List Addr} {n : Nat} {P : Nat → Value → Prop} {St : Nat → Heap → Prop} (R : Nat → List (Str × PyData)) (D : Nat → PyData)
    (W : Walks prog w A I fp [I] n P St) (hI : ∀ i h, St i h → ∃ o vs, h.get? I = some o ∧ o.data = .fields vs) (hI38 : I ≠ 38)
    (hgo : ∀ i (s : Shared) (v : Value) (Q : Unit → Shared → Prop) (E : Value → Shared → Prop), St i s.heap → Q () s → wpAny (model prog w) A (letOwnedTupleGo target (.ref I) v) Q E s)
    (a : At w fz₀ kp env (R 0) σ none fz s.heap) (t : Tb fz s.heap) (hkp : kp.get? 38 = none) (st : St 0 s.heap) (fI : fz.get? I = none) (kI : kp.get? I = none) (hD : ∀ i v, i < n → P i v → Rd fz v (D i)) (hfp : ∀ b ∈ fp, b ≠ I → ∃ o, fz.get? b = some o)
    (has : ∀ i, i < n → ∃ ρi, As prog w A env target (D i) [] (R i) σ none ρi σ ∧ Sxi prog w A env body ρi σ (R (i + 1))) :
    codeAny (model prog w) A (.forLoop target (.ref I) body [] env) (fun r s' => r = .ok .next ∧ ∃ fz', At w fz₀ kp env (R n) σ none fz' s'.heap ∧ Tb fz' s'.heap ∧ Go s s' ∧ Inc fz fz') s := by
  refine codeAny_forLoop_any (fun k s' => ∃ fz' i, At w fz₀ kp env (R i) σ none fz' s'.heap ∧ Tb fz' s'.heap ∧ Go s s' ∧ Inc fz fz' ∧ St i s'.heap ∧ fz'.get? I = none ∧ i ≤ n ∧ k = n + 1 - i) ?_ (n + 1) ⟨fz, 0, a, t, ⟨rfl, fun x => x⟩, .refl _, st, fI, Nat.zero_le _, rfl⟩
  rintro k s' ⟨fz', i, a', t', same, inc, st', fI', hi, rfl⟩
  have nL : env.locals ∉ [I] := fun hm => by
    obtain ⟨m, hn, _⟩ := a'.ok.loc
    exact (fields_not (hI _ _ st')).2.2 m (List.mem_singleton.mp hm ▸ hn)
  have but : ∀ h₁, (∀ b o, b ∉ [I] → s'.heap.get? b = some o → h₁.get? b = some o) → At w fz₀ kp env (R i) σ none fz' h₁ := fun h₁ hk =>
    a'.but hk nL (by simpa using fI') (by simpa using kI) (fun b hb v => by rw [List.mem_singleton.mp hb]; exact (fields_not (hI _ _ st')).1 v) (fun b hb v => by rw [List.mem_singleton.mp hb]; exact (fields_not (hI _ _ st')).2.1 v)
  have tbut : ∀ h₁, (∀ b o, b ∉ [I] → s'.heap.get? b = some o → h₁.get? b = some o) → Tb fz' h₁ := fun h₁ hk =>
    let ⟨ps, e, g⟩ := t'.tab; ⟨⟨ps, hk _ _ (fun hm => hI38 (List.mem_singleton.mp hm).symm) e, g⟩, t'.hid⟩
  by_cases hlt : i < n
  · refine W.item i s' _ _ hlt st' fun v h₁ tk hPv st₁ hk₁ => ?_
    have a₁ := but h₁ hk₁
    have t₁ := tbut h₁ hk₁
    refine hgo (i + 1) _ v _ _ st₁ ?_
    obtain ⟨ρi, h1, h2⟩ := has i hlt
    refine wpAny_mono (h1 fz₀ kp fz' { s' with heap := h₁, toks := tk } v a₁ ((hD i v hlt hPv).up inc) (fun c hc => nomatch hc)) (fun _ s₂ ⟨a₂, e₂, k₂, _⟩ => ?_) fun _ _ x => x.elim
    have t₂ : Tb fz' s₂.heap := by
      obtain ⟨m, hn, _⟩ := a₁.ok.loc
      obtain ⟨ps, e, g⟩ := t₁.tab
      exact ⟨⟨ps, k₂ 38 _ (Ne.symm (t₁.ns hn)) (by simp) e, g⟩, t₁.hid⟩
    obtain ⟨kp₁, a₂', h38, hkp', back⟩ := a₂.but38 hkp
    obtain ⟨o, vs, ho, hod⟩ := hI _ _ st₁
    have hIL : I ≠ env.locals := fun e => nL (List.mem_singleton.mpr e.symm)
    have hI₂ : s₂.heap.get? I = some o := k₂ I o hIL (by simp) ho
    have hIk : kp₁.get? I = some o := hkp' I o hI₂ hIL hI38
    refine wpAny_mono (h2 fz' kp₁ fz' s₂ a₂' t₂ h38) (fun f s₃ ⟨hf, fz₃, a₃, t₃, e₃, i₃⟩ => ?_) fun _ _ x => x.elim
    subst hf
    refine ⟨n + 1 - (i + 1), by omega, fz₃, i + 1, back _ _ _ a₃, t₃, ?_, inc.trans i₃, ?_, a₃.mv.old I o hIk fI', hlt, rfl⟩
    · have g₂ := Go.of e₂
      exact ⟨(e₃.os.trans g₂.os).trans same.os, fun x => e₃.bare (g₂.bare (same.bare x))⟩
    · refine W.frame _ h₁ _ st₁ fun b hb o' e => ?_
      by_cases hbI : b = I
      · subst hbI
        rw [ho] at e; cases e
        exact a₃.mv.hh _ _ hIk
      · obtain ⟨o'', e''⟩ := hfp b hb hbI
        have h1 := a₁.ok.inc _ _ (inc _ _ e'')
        rw [e] at h1; cases h1
        exact a₃.ok.inc _ _ (i₃ _ _ (inc _ _ e''))
  · have hin : i = n := by omega
    subst hin
    refine W.done s' _ _ st' fun h₁ tk hk₁ => wpAny_execs_nil ⟨rfl, fz', but h₁ hk₁, tbut h₁ hk₁, ⟨same.os, same.bare⟩, inc⟩

theorem S1i.forList {target : PySem.Expr} {pos : Pos} {iter : PySem.Expr} {body : List Stmt} {ds : List PyData} (R : Nat → List (Str × PyData)) (hh : A.handled = none) (hi : Ev prog w A env (R 0) σ iter (.list ds))
    (ht : (∃ x p, target = .Name x p) ∨ (∃ es k p, target = .Tuple es k p)) (step : ∀ i d, ds[i]? = some d → ∃ ρi, As prog w A env target d [] (R i) σ none ρi σ ∧ Sxi prog w A env body ρi σ (R (i + 1)))
    (hs : ∀ v, foldedSetIterable iter env v = pure v := by intro _; rfl) :
    S1i prog w A env (.For target iter body [] pos) (R 0) σ (R ds.length) := fun fz₀ kp fz s a t hkp => by
  refine wpAny_For (wpAny_mono (hi fz s a.ok) (fun v s₁ ⟨fz₁, m₁, q₁, r₁⟩ => ?_) fun _ _ x => x) hs
  obtain ⟨l, vs, rfl, hl, rs⟩ := r₁.list_inv
  have a₁ := a.step m₁
  have t₁ := t.mv m₁
  have h38 : 38 < s₁.heap.objs.size := let ⟨_, e, _⟩ := t₁.tab; Heap.lt_size e
  have fI : fz₁.get? s₁.heap.objs.size = none := by
    cases e : fz₁.get? s₁.heap.objs.size with
    | none => rfl
    | some o => have := m₁.fh _ _ e; rw [get_new] at this; cases this
  have kI : kp.get? s₁.heap.objs.size = none := by
    cases e : kp.get? s₁.heap.objs.size with
    | none => rfl
    | some o => have := a₁.mv.hh _ _ e; rw [get_new] at this; cases this
  have hl₁ := isList_up hl m₁.fh
  have hne : l ≠ s₁.heap.objs.size := fun e => by obtain ⟨o, ho, _⟩ := hl₁; rw [e, get_new] at ho; cases ho
  refine wpAny_pyIter_list hl₁ ?_
  refine codeAny_mono (for_walkI R (fun i => ds.getD i .none) (n := vs.toArray.size) (Walks.list hh _ l hne vs.toArray) (fun i h ⟨⟨o, ho, _, hd⟩, _⟩ => ⟨o, _, ho, hd⟩) (Ne.symm (Nat.ne_of_lt h38)) (fun i s v Q E st h => letGo_any ht st.1 h) (s := { s₁ with heap := _ }) (a₁.step (Mv.up a₁.ok.inc (inc_push _ _)))
    (t₁.mv (Mv.up a₁.ok.inc (inc_push _ _))) hkp ⟨⟨_, Heap.get?_push_size _ rfl, rfl, rfl⟩, hl₁.push _⟩ fI kI (fun i v hi hv => ?_) (fun b hb hne => ?_) fun i hi => ?_) fun r s' ⟨hr, fz', a', t', e', i'⟩ => ?_
  · obtain ⟨d, hd, r⟩ := rs.get (show vs[i]? = some v by simpa using hv)
    simp only [List.getD_eq_getElem?_getD, hd, Option.getD_some]; exact r
  · simp at hb
    rcases hb with rfl | rfl
    · exact absurd rfl hne
    · obtain ⟨o, ho, _⟩ := hl; exact ⟨o, ho⟩
  · have hi' : i < ds.length := by have := rs.length; simp at hi; omega
    have e : ds[i]? = some (ds.getD i .none) := by simp [List.getD_eq_getElem?_getD, hi']
    exact step i _ e
  · subst hr
    have : vs.toArray.size = ds.length := by simpa using rs.length
    rw [this] at a'
    have g₁ := Go.of q₁
    exact ⟨rfl, fz', a', t', ⟨e'.os.trans g₁.os, fun x => e'.bare (g₁.bare x)⟩, m₁.ff.trans i'⟩
end
end Mine
set_option maxRecDepth 100000
namespace Mine
def total (ts : List (List Nat)) : Int := (ts.map fun t => (t.length : Int)).sum
def stepS (ts : List (List Nat)) (x : Int) : List (List Nat) := if total (doneS ts x) ≤ 72 then doneS ts x else ts
def runS (xs : List Int) : List (List Nat) := xs.foldl stepS [[], [34]]
structure Inv (n : Nat) (ts : List (List Nat)) : Prop where
  ne : ts ≠ []
  few : ts.length ≤ n
  short : total ts ≤ 72
  codes : ∀ t ∈ ts, ∀ c ∈ t, c < 1114112
theorem total_nonneg : ∀ ts : List (List Nat), 0 ≤ total ts
  | [] => by decide
  | v :: r => by
    have := total_nonneg r
    show 0 ≤ (v.length : Int) + total r
    omega
theorem total_mem : ∀ {ts : List (List Nat)} {t : List Nat}, t ∈ ts → (t.length : Int) ≤ total ts
  | u :: r, t, h => by
    have h0 := total_nonneg r
    show _ ≤ (u.length : Int) + total r
    rcases List.mem_cons.mp h with rfl | h
    · omega
    · have := total_mem h; omega
theorem Inv.txt {n : Nat} {ts : List (List Nat)} (v : Inv n ts) : ∀ t ∈ ts, Txt 100 t := fun t h => ⟨by have := total_mem h; have := v.short; omega, v.codes t h⟩
theorem sgn_lt (x : Int) : sgn x < 1114112 := by
  have c0 : 0 ≤ (x.fdiv 10).fmod 1114112 := Int.fmod_nonneg_of_pos _ (by decide)
  have c1 : (x.fdiv 10).fmod 1114112 < 1114112 := Int.fmod_lt_of_pos _ (by decide)
  unfold sgn
  have : ∀ k : Nat, ([39, 34, 32, 97, ((x.fdiv 10).fmod 1114112).toNat] : List Nat).getD k 0 < 1114112 := fun k => by
    match k with
    | 0 => show (39 : Nat) < 1114112; decide
    | 1 => show (34 : Nat) < 1114112; decide
    | 2 => show (32 : Nat) < 1114112; decide
    | 3 => show (97 : Nat) < 1114112; decide
    | 4 => show ((x.fdiv 10).fmod 1114112).toNat < 1114112; omega
    | _ + 5 => show (0 : Nat) < 1114112; decide
  exact this _
theorem joinT_ok {ts : List (List Nat)} (h : ∀ t ∈ ts, ∀ c ∈ t, c < 1114112) : ∀ c ∈ joinT ts, c < 1114112 := by
  cases ts with
  | nil => intro c hc; cases hc
  | cons t r =>
    intro c hc
    have hc : c ∈ r.foldl (fun line u => line ++ [32] ++ quoteT u) (quoteT t) := hc
    rw [foldl_tail] at hc
    rcases List.mem_append.mp hc with hc | hc
    · exact quoteT_ok (h t List.mem_cons_self) c hc
    · obtain ⟨l, hl, hcl⟩ := List.mem_flatten.mp hc
      obtain ⟨u, hu, rfl⟩ := List.mem_map.mp hl
      rcases List.mem_cons.mp hcl with rfl | hcl
      · decide
      · exact quoteT_ok (h u (List.mem_cons_of_mem _ hu)) c hcl
theorem joinT_len {ts : List (List Nat)} (h : ∀ t ∈ ts, t.length ≤ 100) (hl : ts.length ≤ 2) : (joinT ts).length ≤ 2000 := by
  match ts, hl, h with
  | [], _, _ => show ([] : List Nat).length ≤ 2000; decide
  | [t], _, h =>
    show (quoteT t).length ≤ _
    have := quoteT_len t
    have := h t (by simp)
    omega
  | [t, u], _, h =>
    show (quoteT t ++ [32] ++ quoteT u).length ≤ _
    have := quoteT_len t
    have := quoteT_len u
    have := h t (by simp)
    have := h u (by simp)
    simp; omega
theorem doneS_of (P : List Nat → Prop) {ts : List (List Nat)} {x : Int} (h : ∀ t ∈ ts, P t) (hne : ts ≠ []) (h1 : ∀ t ∈ ts, P (t ++ [sgn x])) (h2 : P []) (h3 : P (ts.drop (ts.length - 2)).flatten) (h4 : ∀ t ∈ ts, P (quoteT t)) (h5 : P (joinT (ts.drop (ts.length - 2)))) :
    ∀ t ∈ doneS ts x, P t := by
  obtain ⟨pre, u, hts⟩ := snoc_of hne
  have hlast : ts.getLastD [] = u := by rw [hts]; simp
  have hu : u ∈ ts := by rw [hts]; simp
  have one : ∀ {a : List (List Nat)} {b : List Nat}, (∀ t ∈ a, P t) → P b → ∀ t ∈ a ++ [b], P t := fun ha hb t ht => by
    rcases List.mem_append.mp ht with ht | ht
    · exact ha t ht
    · rw [List.mem_singleton.mp ht]; exact hb
  unfold doneS
  rw [hlast]
  split
  · exact one (fun t ht => h t (List.mem_of_mem_take ht)) (h1 u hu)
  split
  · exact one h h2
  split
  · exact one (fun t ht => h t (List.mem_of_mem_take ht)) h3
  split
  · exact one (fun t ht => h t (List.mem_of_mem_take ht)) (h4 u hu)
  split
  · exact one (fun t ht => h t (List.mem_of_mem_take ht)) h5
  · intro t ht
    rcases List.mem_append.mp ht with ht | ht
    · exact h t ht
    · exact h t (List.mem_of_mem_drop ht)
theorem doneS_len {ts : List (List Nat)} {x : Int} (hne : ts ≠ []) : doneS ts x ≠ [] ∧ (doneS ts x).length ≤ ts.length + 1 := by
  have hl : 0 < ts.length := List.length_pos_iff.mpr hne
  refine ⟨fun e => ?_, ?_⟩
  · have : (doneS ts x).length = 0 := by rw [e]; rfl
    revert this
    unfold doneS
    repeat' split
    all_goals simp
    all_goals omega
  · unfold doneS
    repeat' split
    all_goals simp
    all_goals omega
theorem doneS_short {n : Nat} {ts : List (List Nat)} {x : Int} (v : Inv n ts) : ∀ t ∈ doneS ts x, t.length ≤ 2000 := by
  have ht : ∀ t ∈ ts, t.length ≤ 100 := fun t h => (v.txt t h).1
  have hd : ∀ t ∈ ts.drop (ts.length - 2), t.length ≤ 100 := fun t h => ht t (List.mem_of_mem_drop h)
  have hdl : (ts.drop (ts.length - 2)).length ≤ 2 := by simp; omega
  refine doneS_of _ (fun t h => by have := ht t h; omega) v.ne (fun t h => by have := ht t h; simp; omega) (by decide) ?_ (fun t h => by have := ht t h; have := quoteT_len t; omega) (joinT_len hd hdl)
  have : ∀ l : List (List Nat), (∀ t ∈ l, t.length ≤ 100) → l.flatten.length ≤ 100 * l.length := by
    intro l
    induction l with
    | nil => intro _; simp
    | cons t r ih =>
      intro h
      have h1 := h t List.mem_cons_self
      have h2 := ih fun u hu => h u (List.mem_cons_of_mem _ hu)
      rw [List.flatten_cons, List.length_append, List.length_cons]
      omega
  have := this _ hd
  omega
theorem doneS_codes {n : Nat} {ts : List (List Nat)} {x : Int} (v : Inv n ts) : ∀ t ∈ doneS ts x, ∀ c ∈ t, c < 1114112 := by
  have hd : ∀ t ∈ ts.drop (ts.length - 2), ∀ c ∈ t, c < 1114112 := fun t h => v.codes t (List.mem_of_mem_drop h)
  refine doneS_of _ v.codes v.ne (fun t h c hc => ?_) (fun c hc => nomatch hc) (fun c hc => ?_) (fun t h => quoteT_ok (v.codes t h)) (joinT_ok hd)
  · rcases List.mem_append.mp hc with hc | hc
    · exact v.codes t h c hc
    · rw [List.mem_singleton.mp hc]; exact sgn_lt x
  · obtain ⟨l, hl, hcl⟩ := List.mem_flatten.mp hc
    exact hd l hl c hcl
theorem Inv.step {n : Nat} {ts : List (List Nat)} (v : Inv n ts) (x : Int) : Inv (n + 1) (stepS ts x) := by
  unfold stepS
  split
  · next h => exact ⟨(doneS_len v.ne).1, by have := (doneS_len (x := x) v.ne).2; have := v.few; omega, h, doneS_codes v⟩
  · exact ⟨v.ne, by have := v.few; omega, v.short, v.codes⟩
theorem inv_run : ∀ (xs : List Int) (n : Nat) (ts : List (List Nat)), Inv n ts → Inv (n + xs.length) (xs.foldl stepS ts)
  | [], _, _, v => v
  | x :: r, n, ts, v => by
    have := inv_run r (n + 1) (stepS ts x) (v.step x)
    rw [List.length_cons, show n + (r.length + 1) = n + 1 + r.length by omega]
    exact this
theorem runS_inv (xs : List Int) : Inv (2 + xs.length) (runS xs) := inv_run xs 2 _ ⟨by decide, by decide, by decide, by decide⟩
theorem runS_snoc (xs : List Int) (x : Int) : runS (xs ++ [x]) = stepS (runS xs) x := by unfold runS; rw [List.foldl_append]; rfl
end Mine
set_option maxRecDepth 100000
namespace Mine
section
variable {prog : Program} {w : World}
theorem fn_law {w : World} : Fn w 106 := fn_of (c := 105) (by kernel_rfl) (by kernel_rfl) (by kernel_rfl) ⟨by kernel_rfl, by kernel_rfl, by kernel_rfl, by kernel_rfl, by kernel_rfl, by kernel_rfl⟩ (by kernel_rfl) (by kernel_rfl) (by kernel_rfl) (by kernel_rfl)

def readD : PyData → PyData
  | .str x => rD x.cps.toList
  | _ => .none
theorem readD_map (ts : List (List Nat)) : List.map readD (List.filter (fun _ => true) (ts.map sD)) = ts.map rD := by
  induction ts with
  | nil => rfl
  | cons p r ih => simp only [List.map_cons, List.filter_cons, if_true] at ih ⊢; rw [ih]; rfl
def lenD : PyData → PyData
  | .str x => .int x.length
  | _ => .none
def lens (ts : List (List Nat)) : List Int := ts.map fun t => (t.length : Int)
theorem lenD_map (ts : List (List Nat)) : List.map lenD (List.filter (fun _ => true) (ts.map sD)) = (lens ts).map PyData.int := by
  unfold lens
  induction ts with
  | nil => rfl
  | cons p r ih =>
    simp only [List.map_cons, List.filter_cons, if_true] at ih ⊢; rw [ih]
    show PyData.int _ :: _ = PyData.int _ :: _
    congr 2

theorem qm_lit : Str.ofString "\"" = ({ cps := #[34] } : Str) := by decide +kernel

theorem sub_swap {ρ ρ' : List (Str × PyData)} {x y : Str} {a b : PyData} (hxy : x ≠ y) (h : ∀ z d, ρ.lookup z = some d → ρ'.lookup z = some d) : ∀ z d, ((x, a) :: (y, b) :: ρ).lookup z = some d → ((y, b) :: (x, a) :: ρ').lookup z = some d := fun z d q => by
  rw [List.lookup_cons, List.lookup_cons] at q ⊢
  cases hz : z == x with
  | true =>
    have e : z = x := beq_iff_eq.mp hz
    subst e
    have : (z == y) = false := beq_eq_false_iff_ne.mpr hxy
    rw [hz] at q
    simp only [this]
    exact q
  | false =>
    rw [hz] at q
    cases hy : z == y with
    | true => rw [hy] at q; exact q
    | false => rw [hy] at q; exact h z d q
theorem S1i.conv {A : Around} {env : Env} {st : Stmt} {ρ₀ ρ σ ρ₁ ρ' : List (Str × PyData)} (h : S1i prog w A env st ρ₀ σ ρ₁) (hρ : ∀ y d, ρ₀.lookup y = some d → ρ.lookup y = some d) (e : ρ₁ = ρ') : S1i prog w A env st ρ σ ρ' := by
  subst e
  exact fun fz₀ kp fz s a t hkp => h fz₀ kp fz s (a.weaken hρ fun _ _ e => e) t hkp
def deeds (xs : List Int) : List Int := [8, 7] ++ xs.take 14
def lawR (xs : List Int) (ts : List (List Nat)) : List (Str × PyData) := [(Str.ofString "texts", .list (ts.map sD)), (Str.ofString "told", .list (ts.map rD)), (Str.ofString "script", .list (xs.map .int))]

set_option maxHeartbeats 1000000 in
theorem ct_law {xs : List Int} (hx : xs.length ≤ 63) : Ci prog w 106 5 [.list (xs.map .int)] (.bool true) := by
  have big : ∀ n : Nat, n ≤ 2000000 → n ≤ sizeLine := fun n hn => Nat.le_trans hn (by decide)
  have hdl : (deeds xs).length ≤ 16 := by unfold deeds; simp; omega
  refine fn_law.enterI1 "script" (fun v => by kernel_rfl) (by kernel_rfl) fun A L room => ?_
  refine Bi.cons (ρ' := [(Str.ofString "texts", .list (([[], [34]] : List (List Nat)).map sD)), (Str.ofString "script", .list (xs.map .int))]) ?h1 ?h2
  case h1 =>
    refine S1i.of (S1.assign ?_ ?_ ?_ ?_)
    · refine Ev.eq (.list (.cons .str rfl (.cons .str rfl .nil)) (show 2 ≤ sizeLine by decide)) ?_
      rw [qm_lit]; rfl
    · exact fun _ => by simp
    · kernel_rfl
    · rfl
  refine Bi.cons (ρ' := [(Str.ofString "told", .list (([[], [34]] : List (List Nat)).map rD)), (Str.ofString "texts", .list (([[], [34]] : List (List Nat)).map sD)), (Str.ofString "script", .list (xs.map .int))]) ?h3 ?h4
  case h3 =>
    rw [← readD_map]
    refine S1i.of (S1.assignComp (σ' := []) (cl := []) room.handled (by rfl) (by kernel_rfl) (fun _ => by simp) (.inl ⟨_, _, rfl⟩) (by rfl) (by rfl) (by decide +kernel) (.loc (by rfl) (by kernel_rfl) (by decide)) (show 2 ≤ sizeLine by decide) (fun _ _ _ e => by cases e) fun C d hd => ?_)
    obtain ⟨t, htm, rfl⟩ := List.mem_map.mp hd
    refine ⟨_, [], .name (fun _ => by simp) (by kernel_rfl), fun _ _ e => e, .nil, fun _ => ?_⟩
    refine .call (room.less (show 2 ≤ 4 by decide)) glo_read fn_read.isDef (ct_readD (t := t) ?_) (.cons (.loc (by rfl) (by kernel_rfl) (by decide)) rfl .nil) (by kernel_rfl)
    have := (runS_inv []).txt t htm
    have := this.1; omega
  refine Bi.cons (ρ' := lawR xs (runS (deeds xs))) ?h5 ?h6
  case h5 =>
    refine S1i.conv (ρ₀ := lawR xs (runS ((deeds xs).take 0))) (ρ₁ := lawR xs (runS ((deeds xs).take ((deeds xs).map PyData.int).length))) ?k1 ?k2 ?k3
    case k2 => exact sub_swap (by decide) sub_refl
    case k3 => rw [List.length_map, List.take_length]
    case k1 =>
      refine S1i.forList (ds := (deeds xs).map PyData.int) (fun i => lawR xs (runS ((deeds xs).take i))) room.handled ?_ (.inl ⟨_, _, rfl⟩) fun i d hd => ?_
      · refine Ev.eq (.add_list (.list (.cons .int rfl (.cons .int rfl .nil)) (show 2 ≤ sizeLine by decide)) (.callt blt_list (fun fz s vs _ i r => tr_list i r ?_) (.cons (.slice (a := 0) (b := min 14 (xs.map PyData.int).length) (.loc (by rfl) (by kernel_rfl) (by decide)) .none (.some .int) (sb_upto 14 _) (big _ (by rw [List.length_map]; omega))) rfl .nil) (hk := by kernel_rfl)) ?_) ?_
        · exact big _ (by simp; omega)
        · exact big _ (by simp; omega)
        · unfold deeds
          rw [List.map_append, List.map_take, List.drop_zero, Nat.sub_zero]
          congr 2
          rw [List.length_map]
          by_cases h : 14 ≤ xs.length
          · rw [Nat.min_eq_left h]
          · rw [Nat.min_eq_right (by omega), List.take_of_length_le (by rw [List.length_map]; omega), List.take_of_length_le (by rw [List.length_map]; omega)]
      · rw [List.getElem?_map] at hd
        obtain ⟨x, hxi, rfl⟩ := Option.map_eq_some_iff.mp hd
        have hnext : runS ((deeds xs).take (i + 1)) = stepS (runS ((deeds xs).take i)) x := by
          rw [List.take_add_one, hxi]; exact runS_snoc _ _
        have inv := runS_inv ((deeds xs).take i)
        have hfew : (runS ((deeds xs).take i)).length ≤ 18 := by
          have h1 := inv.few
          rw [List.length_take] at h1
          omega
        simp only [hnext]
        generalize runS ((deeds xs).take i) = ts at inv hfew
        refine ⟨(Str.ofString "x", .int x) :: lawR xs ts, .name (fun _ => by simp) (by kernel_rfl), ?_⟩
        refine Sxi.cons (ρ' := (Str.ofString "done", .list ((doneS ts x).map sD)) :: (Str.ofString "x", .int x) :: lawR xs ts) ?_ (Sxi.cons ?_ Sxi.nil)
        · refine S1i.assign ?_ (by kernel_rfl) rfl
          exact .call (room.less (Nat.le_refl 4)) glo_done fn_done.isDef (ct_done inv.ne (by omega) inv.txt) (.cons (.loc (by rfl) (by kernel_rfl) (by decide)) rfl (.cons (.loc (by rfl) (by kernel_rfl) (by decide)) rfl .nil)) (by kernel_rfl)
        · refine S1i.ifnext (b := decide (total (doneS ts x) ≤ 72)) ?_ (fun hb => ?_) fun hb => ?_
          · refine .cmp (dl := .int (total (doneS ts x))) (.callb blt_sum (ds := [.list ((lens (doneS ts x)).map PyData.int)]) (d := .int (total (doneS ts x))) (fun fz s vs _ i r => tr_sum (ns := lens (doneS ts x)) room.handled i r) (.cons (Ev.eq (.comp (keep := fun _ => true) (f := lenD) (ds := (doneS ts x).map sD) (σ' := []) (cl := []) room.handled (.inl ⟨_, _, rfl⟩) (by rfl) (by rfl) (by decide +kernel) (.loc (by rfl) (by kernel_rfl) (by decide)) ?_ (fun _ _ _ e => by cases e) fun C d hd => ?_) ?_) rfl .nil) (hk := by kernel_rfl)) .int fun _ _ _ _ i a b => tr_le i a b
            · rw [List.length_map]
              have := (doneS_len (x := x) inv.ne).2
              exact big _ (by omega)
            · obtain ⟨t, htm, rfl⟩ := List.mem_map.mp hd
              refine ⟨_, [], .name (fun _ => by simp) (by kernel_rfl), fun _ _ e => e, .nil, fun _ => ?_⟩
              refine .callb blt_len (fun fz s vs _ i r => tr_len_str i r ?_) (.cons (.loc (by rfl) (by kernel_rfl) (by decide)) rfl .nil) (hk := by kernel_rfl)
              have h1 := doneS_short (x := x) inv t htm
              have h2 : ({ cps := t.toArray } : Str).length = t.length := List.size_toArray
              rw [h2]; omega
            · rw [lenD_map]
          · have hle := of_decide_eq_true hb
            have e : stepS ts x = doneS ts x := by unfold stepS; rw [if_pos hle]
            rw [e]
            refine Sxi.weaken (Sxi.cons (S1i.of (S1.two (d₁ := .list ((doneS ts x).map sD)) (d₂ := .list ((doneS ts x).map rD)) room.handled (.loc (by rfl) (by kernel_rfl) (by decide)) (.call (room.less (Nat.le_refl 4)) glo_told fn_told.isDef (ct_told inv.ne (by omega) inv.txt) (.cons (.loc (by rfl) (by kernel_rfl) (by decide)) rfl (.cons (.loc (by rfl) (by kernel_rfl) (by decide)) rfl .nil)) (by kernel_rfl)) rfl rfl (by kernel_rfl) (by kernel_rfl) (by rfl) (by rfl))) Sxi.nil) ?_
            exact sub_cons (sub_cons (sub_skip (by rfl) (sub_skip (by rfl) (sub_skip (by rfl) (sub_skip (by rfl) sub_refl)))))
          · have hgt := of_decide_eq_false hb
            have e : stepS ts x = ts := by unfold stepS; rw [if_neg hgt]
            rw [e]
            exact sub_skip (by rfl) (sub_skip (by rfl) sub_refl)
  case h6 =>
    have inv := runS_inv (deeds xs)
    have hfew : (runS (deeds xs)).length ≤ 18 := by have := inv.few; omega
    generalize runS (deeds xs) = ts at inv hfew
    have hcan : (PyData.list (ts.map rD)).canLay0 = true := canLay_list fun t ht => canLay_one (readS_cok (inv.codes t ht))
    have hdep : (PyData.list (ts.map rD)).depth ≤ 5 := depth_list fun t _ => depth_one _
    refine Bi.ret (.of (Ev.eq (.cmp (dl := .list (ts.map rD)) (dr := .list (ts.map rD)) (Ev.eq (.comp (keep := fun _ => true) (f := readD) (ds := ts.map sD) (σ' := []) (cl := []) room.handled (.inl ⟨_, _, rfl⟩) (by rfl) (by rfl) (by decide +kernel) (.loc (by rfl) (by kernel_rfl) (by decide)) ?_ (fun _ _ _ e => by cases e) fun C d hd => ?_) ?_) (.loc (by rfl) (by kernel_rfl) (by decide)) (fun _ _ _ _ i a b => tr_eq i a b hcan hcan ?_)) ?_))
    · exact big _ (by rw [List.length_map]; omega)
    · obtain ⟨t, htm, rfl⟩ := List.mem_map.mp hd
      refine ⟨_, [], .name (fun _ => by simp) (by kernel_rfl), fun _ _ e => e, .nil, fun _ => ?_⟩
      exact .call (room.less (show 2 ≤ 4 by decide)) glo_read fn_read.isDef (ct_readD (t := t) (by have := (inv.txt t htm).1; omega)) (.cons (.loc (by rfl) (by kernel_rfl) (by decide)) rfl .nil) (by kernel_rfl)
    · rw [readD_map]
    · have := room.units; omega
    · rw [SeqAt.eqv_refl _ hcan]
end
end Mine
set_option maxRecDepth 100000
namespace Mine
theorem glo_law {w : World} : Glo w "law" (.ref 106) := glo_of (by kernel_rfl)

theorem ints_rds {fz : Heap} : ∀ {vs : List Value} {xs : List Int}, IntsAre vs xs → Rds fz vs (xs.map .int) := by
  intro vs xs h
  induction h with
  | nil => exact Rds.nil
  | cons _ _ _ ih => exact Rds.cons .int ih

/-- the law, from what stands at the call -/
theorem law_end {w : World} {s₁ : Shared} {c : ClaimW} {cl : Str → Option Addr} {mean mean' : ExcName → Option Value} {args : List WData} {p : Program} {loose : List Str} {mg mb : Str → Option Value} {l fa : Addr} {vs : List Value} {xs : List Int} {prog : Program} {d : DefRec}
    (KX : (hd.heap_39 w.params).In s₁.heap) (T : Top p loose mean mg mb s₁.heap) (hj : (recsOf p).find? (fun e => e.name == Str.ofString "join") = some d) (hmg : mg (Str.ofString "law") = some (.ref fa)) (hl : s₁.heap.IsList l vs.toArray) (hi : IntsAre vs xs) (hx : xs.length ≤ 63) (hg : s₁.gens = #[])
    (hr : ∀ cls, c.raises args cls = false) (hp : c.post args (.bool true) args = true) :
    codeAny (model prog w) callerA (.call (.ref fa) ⟨[.ref l], []⟩) (GoodWG c cl mean' args s₁) s₁ := by
  have B₁ : Base w s₁.heap := ⟨KX, ⟨mb, T.b, T.builtins⟩, let ⟨bm, ob, a1, a2, a3, a4, a5, a6⟩ := T.bmain; ⟨mg, bm, ob, ⟨T.g, a1, a2, a3, a4, a5, a6⟩⟩⟩
  have hfa : fa = 106 := by
    obtain ⟨mg', hn, hm⟩ := glo_law _ B₁
    rw [ns_unique hn T.g, hmg] at hm
    cases hm; rfl
  subst hfa
  have hjm : mg (Str.ofString "join") = some (.ref 43) := by
    obtain ⟨mg', hn, hm⟩ := glo_join _ B₁
    rw [ns_unique hn T.g] at hm
    exact hm
  obtain ⟨c', P, hcode, BB⟩ := based_of_top T hj hjm (KX _ _ fn_join.at_) fn_join.data
  have hc42 : c' = 42 := by
    have h1 : (fdOf w 43).code = .ref 42 := by kernel_rfl
    rw [h1] at hcode
    cases hcode; rfl
  subst hc42
  have hP : P = 38 := by
    obtain ⟨⟨o, vs', ho, _, hd', h11⟩, _⟩ := BB.tab
    have g := KX 42 (objOf w 42) (by kernel_rfl)
    rw [g] at ho
    cases ho
    have h2 : (objOf w 42).data = .fields (fieldsAt w 42) := by kernel_rfl
    rw [h2] at hd'
    cases hd'
    have h3 : (fieldsAt w 42)[11]? = some (.ref 38) := by kernel_rfl
    rw [h3] at h11
    cases h11; rfl
  subst hP
  have htr : TriplesOk (#[] : Array Value).toList := by
    obtain ⟨_, _, _, _, _, _, _, _, _, _, _, _, _, _, _, _, _, _, _, htr, _⟩ := BB.code
    exact htr
  have put : ∀ b o, b ≠ 38 → s₁.heap.get? b = some o → (cut s₁.heap fun b => decide (b ≠ 38)).get? b = some o := fun b o hb e => by rw [cut_get]; simp [hb, e]
  have inc : Inc (cut s₁.heap fun b => decide (b ≠ 38)) s₁.heap := fun b o e => by
    rw [cut_get] at e; split at e
    · exact e
    · cases e
  have tb : Tb (cut s₁.heap fun b => decide (b ≠ 38)) s₁.heap := ⟨⟨#[], BB.tab.2, htr⟩, by rw [cut_get]; simp⟩
  have B : Base w (cut s₁.heap fun b => decide (b ≠ 38)) := by
    refine ⟨fun a o e => put a o (fun ha => ?_) (KX a o e), ⟨mb, T.b.at' fun o e => put _ o (tb.ns T.b) e, T.builtins⟩, ?_⟩
    · subst ha
      have : (hd.heap_39 w.params).lookup 38 = none := by kernel_rfl
      rw [this] at e; cases e
    · obtain ⟨bm, ob, a1, a2, a3, a4, a5, a6⟩ := T.bmain
      refine ⟨mg, bm, ob, ⟨T.g.at' fun o e => put _ o (tb.ns T.g) e, a1, a2, put _ _ (fun hb => ?_) a3, a4, a5, a6⟩⟩
      rw [hb, BB.tab.2] at a3; cases a3; exact absurd a4 (by simp)
  have rd : Rds (cut s₁.heap fun b => decide (b ≠ 38)) [.ref l] [.list (xs.map .int)] := by
    refine Rds.cons (Rd.list ?_ (ints_rds hi)) Rds.nil
    have h38 := tb.list hl
    obtain ⟨o, ho, r⟩ := hl
    exact ⟨o, put _ _ h38 ho, r⟩
  have room : Room callerA 5 := ⟨rfl, by decide, by decide⟩
  refine codeAny_mono (ct_law hx callerA _ s₁ [.ref l] room B inc tb rd) fun r s' ⟨v, fz', hr', im, rv⟩ => ?_
  have hv := rv.bool_inv
  subst hv
  subst hr'
  refine ⟨.inl ⟨_, _, [], rfl, hr, ReadsW.bool true, hp, fun _ => ⟨List.nodup_nil, fun _ hm => (nomatch hm)⟩⟩, ?_, im.os, im.bare (AllBare.of_eq hg)⟩
  obtain ⟨ps, e, hps⟩ := im.tb.tab
  have ht' := (isCode_join (B.up im.ff) im.fh e hps).2
  exact (OldK.refl s₁.heap).step_table (more := ps) BB.tab BB.tab (by rw [Array.empty_append]; exact ht') im.hh BB.notStatics
end Mine

theorem PySem.Challenge.cw_op0001_01_holds : PySem.Challenge.rw_op0001_01.Holds := by
  refine Mine.hd ?_
  k_fill
  intro w s₀ s₁ mg mb G Y fa o pm cd doc dV kV ho hd hcd hD hmg hg args vals as hpre hlay hrd hwl hlo
  have KX := kIn_of Y
  clear ho hd hcd hD Y
  refine Ground.open G ?_
  intro T B D TE TW
  clear B D TE TW
  wrow_args hpre hlay hrd hwl hlo
  refine enter_call ?_
  rename_i xs hs hlay0 hL1 hr1 hl2 as1 as2 l vs as3 hL ra w1 r0 hI hr hcond hcond'
  refine Mine.law_end KX T (by rfl) hmg hL hI (by omega) hg (fun _ => rfl) ?_
  clear hmg G KX T
  wrow_post
