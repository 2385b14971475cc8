import PyProof.Rows.All
import Wide.All
import OpenK.AllK
import Wide.FinOn
import PySem.Challenge.RW_mq0136_01
set_option Elab.async false
set_option maxRecDepth 100000
set_option maxHeartbeats 8000000
set_option linter.unusedVariables false

namespace Mine
open PySem PyProof.Rows

/-! ## heaps and views -/
def Le (h h' : Heap) : Prop := ∀ b o, h.get? b = some o → h'.get? b = some o
theorem Le.refl (h : Heap) : Le h h := fun _ _ e => e
theorem Le.trans {h h' h'' : Heap} (a : Le h h') (b : Le h' h'') : Le h h'' := fun _ _ e => b _ _ (a _ _ e)

/-- of h' what is in h or was not in g -/
def vis (h g h' : Heap) : Heap :=
  ⟨h'.objs.mapIdx fun i o => if (g.get? i).isSome && (h.get? i).isNone then { o with data := .freed } else o, h'.life⟩

theorem vis_get (h g h' : Heap) (b : Addr) : (vis h g h').get? b = if (g.get? b).isSome && (h.get? b).isNone then none else h'.get? b := by
  have e : (vis h g h').objs[b]? = h'.objs[b]?.map fun o => if (g.get? b).isSome && (h.get? b).isNone then { o with data := .freed } else o := by
    simp [vis]
  unfold Heap.get?
  rw [e]
  cases hb : h'.objs[b]? with
  | none => simp
  | some o =>
    simp only [Option.map_some]
    by_cases hc : ((g.get? b).isSome && (h.get? b).isNone) = true
    · have hc' := hc
      unfold Heap.get? at hc'
      simp [hc, hc']
    · have hc' := hc
      unfold Heap.get? at hc'
      simp [hc, hc']

theorem vis_some {h g h' : Heap} {b : Addr} {o : Obj} (e : h'.get? b = some o) (hb : g.get? b = none ∨ ∃ o', h.get? b = some o') : (vis h g h').get? b = some o := by
  rw [vis_get]
  rcases hb with hb | ⟨o', hb⟩
  · simp [hb, e]
  · simp [hb, e]
theorem vis_sub {h g h' : Heap} : Le (vis h g h') h' := fun b o e => by
  rw [vis_get] at e
  split at e
  · cases e
  · exact e
theorem vis_hid {h g h' : Heap} {b : Addr} {o : Obj} (hb : g.get? b = some o) (hn : h.get? b = none) : (vis h g h').get? b = none := by
  rw [vis_get]; simp [hb, hn]
theorem le_vis {h g h' : Heap} (a : Le h h') : Le h (vis h g h') := fun b o e => vis_some (a _ _ e) (.inr ⟨o, e⟩)

/-- s holds h, and its tokens are no noughts -/
def Ok (h : Heap) (s : Shared) : Prop := Le h s.heap ∧ 1 ≤ s.toks

structure Grow (s : Shared) (h : Heap) (s' : Shared) (h' : Heap) : Prop where
  keeps : Keeps s s'
  pos : 1 ≤ s'.toks
  le : Le h h'
  sub : Le h' s'.heap
  hid : ∀ b o, s.heap.get? b = some o → h.get? b = none → h'.get? b = none

theorem Keeps.le {s s' : Shared} (k : Keeps s s') : Le s.heap s'.heap := by obtain ⟨h', tk, rfl, hk⟩ := k; exact hk
theorem Keeps.refl (s : Shared) : Keeps s s := ⟨s.heap, s.toks, rfl, fun _ _ e => e⟩
theorem Keeps.trans {s s' s'' : Shared} (a : Keeps s s') (b : Keeps s' s'') : Keeps s s'' := by
  obtain ⟨h1, t1, rfl, k1⟩ := a
  obtain ⟨h2, t2, rfl, k2⟩ := b
  exact ⟨h2, t2, rfl, fun b o e => k2 _ _ (k1 _ _ e)⟩
theorem Keeps.of {s : Shared} {h' : Heap} {tk : Nat} (hk : Le s.heap h') : Keeps s { s with heap := h', toks := tk } := ⟨h', tk, rfl, hk⟩

theorem Grow.ok {s s' : Shared} {h h' : Heap} (g : Grow s h s' h') : Ok h' s' := ⟨g.sub, g.pos⟩
theorem Grow.refl {s : Shared} {h : Heap} (l : Ok h s) : Grow s h s h := ⟨Keeps.refl s, l.2, Le.refl h, l.1, fun _ _ _ e => e⟩
theorem Grow.trans {s s' s'' : Shared} {h h' h'' : Heap} (a : Grow s h s' h') (b : Grow s' h' s'' h'') : Grow s h s'' h'' :=
  ⟨Keeps.trans a.keeps b.keeps, b.pos, a.le.trans b.le, b.sub, fun x o e n => b.hid x o (Keeps.le a.keeps _ _ e) (a.hid x o e n)⟩
theorem Grow.vis {s s' : Shared} {h : Heap} (k : Keeps s s') (l : Ok h s) (hp : 1 ≤ s'.toks) : Grow s h s' (vis h s.heap s'.heap) :=
  ⟨k, hp, le_vis (l.1.trans (Keeps.le k)), vis_sub, fun _ _ e n => vis_hid e n⟩
theorem Grow.toks {s : Shared} {h : Heap} {tk : Nat} (l : Ok h s) (hp : 1 ≤ tk := by first | exact Nat.succ_pos _ | assumption) : Grow s h { s with toks := tk } h := ⟨⟨s.heap, tk, rfl, fun _ _ e => e⟩, hp, Le.refl h, l.1, fun _ _ _ e => e⟩

/-- room for n calls within calls -/
structure Room (n : Nat) (A : Around) : Prop where
  depth : A.depth + n < recursionLimit
  units : A.units + 8 * n + 100 < cLine
  handled : A.handled = none
theorem Room.mono {m n : Nat} {A : Around} (r : Room n A) (h : m ≤ n) : Room m A := ⟨by have := r.depth; omega, by have := r.units; omega, r.handled⟩
theorem Room.deeper {n : Nat} {A : Around} (r : Room (n + 1) A) (env : Env) : Room n (A.deeper env) :=
  ⟨by have := r.depth; show A.depth + 1 + n < _; omega, by have := r.units; show A.units + 3 + 8 * n + 100 < _; omega, r.handled⟩

abbrev PP : Program := PySem.Challenge.rw_mq0136_01.row.prog

/-! ## data in a heap -/
mutual
inductive Is (w : World) (h : Heap) : Value → PyData → Prop
  | none : Is w h .none .none
  | bool (b) : Is w h (.bool b) (.bool b)
  | int (i t) : Is w h (.int i t) (.int i)
  | str (x t) : Is w h (.str x t) (.str x)
  | list {a o vs n xs} : h.get? a = some o → o.cls = .type "list" → o.data = .seq vs n → IsAll w h vs.toList xs → Is w h (.ref a) (.list xs)
  | tuple {a o vs n xs} : h.get? a = some o → o.cls = .type "tuple" → o.data = .seq vs n → IsAll w h vs.toList xs → Is w h (.ref a) (.tuple xs)
  | dict {a ep} {kvs : List (Str × Str × Tok)} : (a == sysModules) = false → h.DictAt (strKind PP w) a (kvs.map fun p => (p.1, Value.str p.2.1 p.2.2)) ep →
      Is w h (.ref a) (.dict (kvs.map fun p => (.str p.1, .str p.2.1)))
inductive IsAll (w : World) (h : Heap) : List Value → List PyData → Prop
  | nil : IsAll w h [] []
  | cons {v vs d ds} : Is w h v d → IsAll w h vs ds → IsAll w h (v :: vs) (d :: ds)
end

mutual
theorem Is.le {w : World} {h h' : Heap} (l : Le h h') : ∀ {v : Value} {d : PyData}, Is w h v d → Is w h' v d
  | _, _, .none => .none
  | _, _, .bool b => .bool b
  | _, _, .int i t => .int i t
  | _, _, .str x t => .str x t
  | _, _, .list h1 h2 h3 h4 => .list (l _ _ h1) h2 h3 (IsAll.le l h4)
  | _, _, .tuple h1 h2 h3 h4 => .tuple (l _ _ h1) h2 h3 (IsAll.le l h4)
  | _, _, .dict h1 h2 => .dict h1 (h2.keep l)
theorem IsAll.le {w : World} {h h' : Heap} (l : Le h h') : ∀ {vs : List Value} {ds : List PyData}, IsAll w h vs ds → IsAll w h' vs ds
  | _, _, .nil => .nil
  | _, _, .cons h1 h2 => .cons (Is.le l h1) (IsAll.le l h2)
end

mutual
/-- no table within -/
def flat : PyData → Bool
  | .none | .bool _ | .int _ | .str _ => true
  | .list xs | .tuple xs => flats xs
  | .dict _ => false
def flats : List PyData → Bool
  | [] => true
  | x :: xs => flat x && flats xs
end

mutual
/-- what is not a sequence may be hidden from flat data -/
theorem Is.hide {w : World} {h : Heap} {L : Addr} (hL : ∀ o, h.get? L = some o → ∀ vs n, o.data ≠ .seq vs n) : ∀ {v : Value} {d : PyData}, flat d = true → Is w h v d → Is w (h.hide L) v d
  | _, _, _, .none => .none
  | _, _, _, .bool b => .bool b
  | _, _, _, .int i t => .int i t
  | _, _, _, .str x t => .str x t
  | _, _, f, .list (a := a) h1 h2 h3 h4 => .list (by rw [Heap.hide_ne _ (by rintro rfl; exact hL _ h1 _ _ h3)]; exact h1) h2 h3 (IsAll.hide hL (by simpa [flat] using f) h4)
  | _, _, f, .tuple (a := a) h1 h2 h3 h4 => .tuple (by rw [Heap.hide_ne _ (by rintro rfl; exact hL _ h1 _ _ h3)]; exact h1) h2 h3 (IsAll.hide hL (by simpa [flat] using f) h4)
  | _, _, f, .dict h1 h2 => by simp [flat] at f
theorem IsAll.hide {w : World} {h : Heap} {L : Addr} (hL : ∀ o, h.get? L = some o → ∀ vs n, o.data ≠ .seq vs n) : ∀ {vs : List Value} {ds : List PyData}, flats ds = true → IsAll w h vs ds → IsAll w (h.hide L) vs ds
  | _, _, _, .nil => .nil
  | _, _, f, .cons h1 h2 => by
    simp only [flats, Bool.and_eq_true] at f
    exact .cons (Is.hide hL f.1 h1) (IsAll.hide hL f.2 h2)
end

mutual
/-- a frame or a cell may be hidden from any data -/
theorem Is.hideF {w : World} {h : Heap} {L : Addr} (hL : ∀ o, h.get? L = some o → (∀ vs n, o.data ≠ .seq vs n) ∧ ∀ es n, o.data ≠ .dict es n) : ∀ {v : Value} {d : PyData}, Is w h v d → Is w (h.hide L) v d
  | _, _, .none => .none
  | _, _, .bool b => .bool b
  | _, _, .int i t => .int i t
  | _, _, .str x t => .str x t
  | _, _, .list (a := a) h1 h2 h3 h4 => .list (by rw [Heap.hide_ne _ (by rintro rfl; exact (hL _ h1).1 _ _ h3)]; exact h1) h2 h3 (IsAll.hideF hL h4)
  | _, _, .tuple (a := a) h1 h2 h3 h4 => .tuple (by rw [Heap.hide_ne _ (by rintro rfl; exact (hL _ h1).1 _ _ h3)]; exact h1) h2 h3 (IsAll.hideF hL h4)
  | _, _, .dict h1 h2 => .dict h1 (by
      obtain ⟨o, es, ho, hx, hd, r⟩ := h2
      exact ⟨o, es, by rw [Heap.hide_ne _ (by rintro rfl; exact (hL _ ho).2 _ _ hd)]; exact ho, hx, hd, r⟩)
theorem IsAll.hideF {w : World} {h : Heap} {L : Addr} (hL : ∀ o, h.get? L = some o → (∀ vs n, o.data ≠ .seq vs n) ∧ ∀ es n, o.data ≠ .dict es n) : ∀ {vs : List Value} {ds : List PyData}, IsAll w h vs ds → IsAll w (h.hide L) vs ds
  | _, _, .nil => .nil
  | _, _, .cons h1 h2 => .cons (Is.hideF hL h1) (IsAll.hideF hL h2)
end

mutual
theorem Is.reads {w : World} {h : Heap} : ∀ {v : Value} {d : PyData}, flat d = true → Is w h v d → ∃ as, Reads h v d as
  | _, _, _, .none => ⟨_, .none⟩
  | _, _, _, .bool b => ⟨_, .bool b⟩
  | _, _, _, .int i t => ⟨_, .int i t⟩
  | _, _, _, .str x t => ⟨_, .str x t⟩
  | _, _, f, .list h1 h2 h3 h4 => by obtain ⟨as, r⟩ := IsAll.reads (by simpa [flat] using f) h4; exact ⟨_, .list h1 h2 h3 r⟩
  | _, _, f, .tuple h1 h2 h3 h4 => by obtain ⟨as, r⟩ := IsAll.reads (by simpa [flat] using f) h4; exact ⟨_, .tuple h1 h2 h3 r⟩
  | _, _, f, .dict h1 h2 => by simp [flat] at f
theorem IsAll.reads {w : World} {h : Heap} : ∀ {vs : List Value} {ds : List PyData}, flats ds = true → IsAll w h vs ds → ∃ as, ReadsAll h vs ds as
  | _, _, _, .nil => ⟨_, .nil⟩
  | _, _, f, .cons h1 h2 => by
    simp only [flats, Bool.and_eq_true] at f
    obtain ⟨as, r⟩ := Is.reads f.1 h1
    obtain ⟨bs, r'⟩ := IsAll.reads f.2 h2
    exact ⟨_, .cons r r'⟩
end

theorem IsAll.length {w : World} {h : Heap} : ∀ {vs : List Value} {ds : List PyData}, IsAll w h vs ds → vs.length = ds.length
  | _, _, .nil => rfl
  | _, _, .cons _ r => by simp [IsAll.length r]
theorem IsAll.get {w : World} {h : Heap} : ∀ {vs : List Value} {ds : List PyData}, IsAll w h vs ds → ∀ {i : Nat} {v : Value} {d : PyData}, vs[i]? = some v → ds[i]? = some d → Is w h v d
  | _, _, .nil, _, _, _, e, _ => by simp at e
  | _, _, .cons a r, 0, _, _, e, e' => by simp at e e'; subst e; subst e'; exact a
  | _, _, .cons a r, i + 1, _, _, e, e' => IsAll.get r (i := i) (by simpa using e) (by simpa using e')
theorem IsAll.snoc {w : World} {h : Heap} : ∀ {vs : List Value} {ds : List PyData} {v : Value} {d : PyData}, IsAll w h vs ds → Is w h v d → IsAll w h (vs ++ [v]) (ds ++ [d])
  | _, _, _, _, .nil, a => .cons a .nil
  | _, _, _, _, .cons b r, a => .cons b (IsAll.snoc r a)
theorem IsAll.append {w : World} {h : Heap} : ∀ {vs us : List Value} {ds es : List PyData}, IsAll w h vs ds → IsAll w h us es → IsAll w h (vs ++ us) (ds ++ es)
  | _, _, _, _, .nil, a => a
  | _, _, _, _, .cons b r, a => .cons b (IsAll.append r a)
theorem IsAll.take {w : World} {h : Heap} : ∀ {vs : List Value} {ds : List PyData} (n : Nat), IsAll w h vs ds → IsAll w h (vs.take n) (ds.take n)
  | _, _, 0, _ => by simp; exact .nil
  | _, _, _ + 1, .nil => by simp; exact .nil
  | _, _, n + 1, .cons b r => by simp; exact .cons b (IsAll.take n r)

theorem Is.isList {w : World} {h : Heap} {v : Value} {xs : List PyData} (x : Is w h v (.list xs)) : ∃ a vs, v = .ref a ∧ h.IsList a vs ∧ IsAll w h vs.toList xs := by
  cases x with
  | list h1 h2 h3 h4 => exact ⟨_, _, rfl, ⟨_, h1, h2, _, h3⟩, h4⟩
theorem Is.isTuple {w : World} {h : Heap} {v : Value} {xs : List PyData} (x : Is w h v (.tuple xs)) : ∃ a vs, v = .ref a ∧ h.IsTuple a vs ∧ IsAll w h vs.toList xs := by
  cases x with
  | tuple h1 h2 h3 h4 => exact ⟨_, _, rfl, ⟨_, h1, h2, _, h3⟩, h4⟩
theorem Is.isInt {w : World} {h : Heap} {v : Value} {i : Int} (x : Is w h v (.int i)) : ∃ t, v = .int i t := by cases x; exact ⟨_, rfl⟩
theorem Is.isStr {w : World} {h : Heap} {v : Value} {y : Str} (x : Is w h v (.str y)) : ∃ t, v = .str y t := by cases x; exact ⟨_, rfl⟩
theorem Is.isBool {w : World} {h : Heap} {v : Value} {b : Bool} (x : Is w h v (.bool b)) : v = .bool b := by cases x; rfl
theorem Is.ofList {w : World} {h : Heap} {a : Addr} {vs : Array Value} {xs : List PyData} (l : h.IsList a vs) (r : IsAll w h vs.toList xs) : Is w h (.ref a) (.list xs) := by
  obtain ⟨o, ho, hc, n, hd⟩ := l; exact .list ho hc hd r
theorem Is.ofTuple {w : World} {h : Heap} {a : Addr} {vs : Array Value} {xs : List PyData} (l : h.IsTuple a vs) (r : IsAll w h vs.toList xs) : Is w h (.ref a) (.tuple xs) := by
  obtain ⟨o, ho, hc, n, hd⟩ := l; exact .tuple ho hc hd r
end Mine

namespace Mine
open PySem PySem.W PyProof.Rows
open_top hd for PySem.Challenge.rw_mq0136_01
end Mine

namespace Mine
open PySem PySem.W PyProof.Rows

/-! ## the world that stands: the text's objects, the names -/
noncomputable abbrev KK (w : World) : Frag := hd.heap_39 w.params

structure Wd (w : World) (h : Heap) : Prop where
  K : (KK w).In h
  lim : h.NoLimit
  ns : ∃ mg mb, h.Ns mainGlobals mg ∧ h.Ns builtinsNs mb ∧ ∀ x : Str, x ≠ "__name__" → mb x = bootBuiltins x
theorem Wd.le {w : World} {h h' : Heap} (W : Wd w h) (l : Le h h') : Wd w h' where
  K := W.K.keeps l
  lim := W.lim.keeps l
  ns := let ⟨mg, mb, a, b, c⟩ := W.ns; ⟨mg, mb, a.keeps l, b.keeps l, c⟩

/-- from any state that holds h, t ends with P, and nothing that stood is changed -/
def Run {α : Type} (w : World) (n : Nat) (h : Heap) (t : Sem α) (P : Heap → α → Prop) : Prop :=
  ∀ (A : Around) (s : Shared) (Q : α → Shared → Prop) (E : Value → Shared → Prop), Room n A → Ok h s →
    (∀ a s' h', Grow s h s' h' → P h' a → Q a s') → wpAny (model PP w) A t Q E s

section
variable {w : World} {n : Nat} {h : Heap}

theorem Run.mono {α : Type} {m : Nat} {t : Sem α} {P : Heap → α → Prop} (r : Run w m h t P) (hm : m ≤ n) : Run w n h t P :=
  fun A s Q E R L hQ => r A s Q E (R.mono hm) L hQ
theorem Run.imp {α : Type} {t : Sem α} {P P' : Heap → α → Prop} (r : Run w n h t P) (hi : ∀ h' a, P h' a → P' h' a) : Run w n h t P' :=
  fun A s Q E R L hQ => r A s Q E R L fun a s' h' g p => hQ a s' h' g (hi _ _ p)
theorem Run.pure {α : Type} {a : α} {P : Heap → α → Prop} (hp : P h a) : Run w n h (Pure.pure a) P :=
  fun _ _ _ _ _ L hQ => wpAny_pure (hQ _ _ _ (Grow.refl L) hp)
theorem Run.bind {α β : Type} {t : Sem α} {f : α → Sem β} {P : Heap → α → Prop} {P' : Heap → β → Prop} (r : Run w n h t P)
    (k : ∀ a h', Le h h' → P h' a → Run w n h' (f a) P') : Run w n h (t >>= f) P' :=
  fun A s Q E R L hQ => wpAny_bind (r A s _ E R L fun a s1 h1 g1 p1 => k a h1 g1.le p1 A s1 _ E R g1.ok fun b s2 h2 g2 p2 => hQ b s2 h2 (g1.trans g2) p2)
theorem Run.eq {α : Type} {t t' : Sem α} {P : Heap → α → Prop} (e : t = t') (r : Run w n h t' P) : Run w n h t P := e ▸ r
end

/-! ## names -/
def Nm (w : World) (env : Env) (h : Heap) (x : Str) (d : PyData) : Prop :=
  (env.kindOf x = some .local ∧ ∃ m v, h.Ns env.locals m ∧ m x = some v ∧ Is w h v d) ∨
  ((env.kindOf x = some .cell ∨ env.kindOf x = some .free) ∧ (x == ("__classdict__" : Str)) = false ∧ ∃ c v, env.cells.lookup x = some c ∧ h.IsCell c (some v) ∧ Is w h v d)
theorem Nm.le {w : World} {env : Env} {h h' : Heap} {x : Str} {d : PyData} (N : Nm w env h x d) (l : Le h h') : Nm w env h' x d := by
  rcases N with ⟨k, m, v, a, b, c⟩ | ⟨k, q, c, v, a, b, i⟩
  · exact .inl ⟨k, m, v, a.keeps l, b, c.le l⟩
  · exact .inr ⟨k, q, c, v, a, b.keeps l, i.le l⟩

abbrev Ctx := List (Str × PyData)

structure Fm (w : World) (env : Env) (ρ : Mine.Ctx) (h : Heap) : Prop where
  wd : Wd w h
  kind : env.scope.kind = .function
  glob : env.globals = mainGlobals
  blt : env.builtins = builtinsNs
  nm : ∀ x d, ρ.lookup x = some d → Nm w env h x d
theorem Fm.le {w : World} {env : Env} {ρ : Mine.Ctx} {h h' : Heap} (F : Fm w env ρ h) (l : Le h h') : Fm w env ρ h' :=
  ⟨F.wd.le l, F.kind, F.glob, F.blt, fun x d e => (F.nm x d e).le l⟩

/-- e comes to d -/
def Ev (w : World) (n : Nat) (env : Env) (ρ : Mine.Ctx) (e : Expr) (d : PyData) : Prop :=
  ∀ h, Fm w env ρ h → Run w n h (eval e env) (fun h v => Is w h v d)
/-- e's truth is b -/
def Ts (w : World) (n : Nat) (env : Env) (ρ : Mine.Ctx) (e : Expr) (b : Bool) : Prop :=
  ∀ h, Fm w env ρ h → Run w n h (isTrue e env (eval e env)) (fun _ b' => b' = b)
/-- the args come to ds -/
def Evs (w : World) (n : Nat) (env : Env) (ρ : Mine.Ctx) (pos : Pos) (es : List Expr) (ds : List PyData) : Prop :=
  ∀ h, Fm w env ρ h → Run w n h (spliced (backTo pos (starEach es env))) (fun h vs => IsAll w h vs ds)
/-- a name of the text, or built in -/
def Gl (w : World) (n : Nat) (env : Env) (ρ : Mine.Ctx) (e : Expr) (v : Value) : Prop :=
  ∀ h, Fm w env ρ h → Run w n h (eval e env) (fun _ v' => v' = v)

def Op2 (w : World) (n : Nat) (t : Value → Value → Sem Value) (d1 d2 d : PyData) : Prop :=
  ∀ h a b, Wd w h → Is w h a d1 → Is w h b d2 → Run w n h (t a b) (fun h v => Is w h v d)
def Op1 (w : World) (n : Nat) (t : Value → Sem Value) (d1 d : PyData) : Prop :=
  ∀ h a, Wd w h → Is w h a d1 → Run w n h (t a) (fun h v => Is w h v d)
def Tr1 (w : World) (n : Nat) (d : PyData) (b : Bool) : Prop :=
  ∀ h a, Wd w h → Is w h a d → Run w n h (truthy a) (fun _ b' => b' = b)
/-- a def: handed ds it gives d back -/
def Fn (w : World) (n : Nat) (a : Addr) (ds : List PyData) (d : PyData) : Prop :=
  ∀ (A : Around) (s : Shared) (h : Heap) (R : Result → Shared → Prop) (vs : List Value), Room n A → Wd w h → Ok h s → IsAll w h vs ds →
    (∀ v s' h', Grow s h s' h' → Is w h' v d → R (.ok (.ret v)) s') → codeAny (model PP w) A (.call (.ref a) ⟨vs, []⟩) R s

section
variable {w : World} {n : Nat} {env : Env} {ρ : Mine.Ctx}

theorem Ev.mono {m : Nat} {e : Expr} {d : PyData} (x : Ev w m env ρ e d) (hm : m ≤ n) : Ev w n env ρ e d := fun h F => (x h F).mono hm
theorem Ts.mono {m : Nat} {e : Expr} {b : Bool} (x : Ts w m env ρ e b) (hm : m ≤ n) : Ts w n env ρ e b := fun h F => (x h F).mono hm
theorem Fn.mono {m : Nat} {a : Addr} {ds : List PyData} {d : PyData} (x : Fn w m a ds d) (hm : m ≤ n) : Fn w n a ds d :=
  fun A s h R vs r W L i hR => x A s h R vs (r.mono hm) W L i hR

theorem Ev.int {i : Int} {k : Nat} {pos : Pos} : Ev w n env ρ (.Constant (.int i) k pos) (.int i) :=
  fun _ _ _ _ _ _ _ L hQ => wpAny_Constant_int (hQ _ _ _ (Grow.toks L) (.int _ _))
theorem Ev.str {x : Str} {k : Nat} {pos : Pos} : Ev w n env ρ (.Constant (.str x) k pos) (.str x) :=
  fun _ _ _ _ _ _ _ L hQ => Calls.Constant_str (hQ _ _ _ (Grow.toks L) (.str _ _))
theorem Ev.bool {b : Bool} {k : Nat} {pos : Pos} : Ev w n env ρ (.Constant (.bool b) k pos) (.bool b) :=
  fun _ _ _ _ _ _ _ L hQ => wpAny_Constant_bool (hQ _ _ _ (Grow.refl L) (.bool _))

theorem ev_loadName {x : Str} {d : PyData} {h : Heap} (F : Fm w env ρ h) (e : ρ.lookup x = some d) : Run w n h (loadName env x) (fun h v => Is w h v d) := by
  intro A s Q E R L hQ
  rcases (F.nm x d e).le L.1 with ⟨k, m, v, a, b, c⟩ | ⟨k, q, c, v, a, b, i⟩
  · rcases F.nm x d e with ⟨_, m', v', a', b', c'⟩ | ⟨k', _⟩
    · exact wpAny_loadName_local F.kind k (a'.keeps L.1) b' (hQ _ _ _ (Grow.refl L) c')
    · rw [k] at k'; rcases k' with k' | k' <;> cases k'
  · rcases F.nm x d e with ⟨k', _⟩ | ⟨_, _, c', v', a', b', i'⟩
    · rw [k'] at k; rcases k with k | k <;> cases k
    · rcases k with k | k
      · exact wpAny_loadName_cell F.kind k a' (b'.keeps L.1) (hQ _ _ _ (Grow.refl L) i')
      · exact wpAny_loadName_free F.kind k a' (b'.keeps L.1) (hQ _ _ _ (Grow.refl L) i') q
theorem Ev.name {x : Str} {pos : Pos} {d : PyData} (e : ρ.lookup x = some d) (hd : (x == ("__debug__" : Str)) = false := by decide) : Ev w n env ρ (.Name x pos) d :=
  fun _ F A s Q E R L hQ => wpAny_Name (ev_loadName F e A s Q E R L hQ) hd

theorem Gl.text {x : Str} {pos : Pos} {v : Value} (hk : env.kindOf x = some .globalImplicit) (e : nsIn (KK w) mainGlobals x = some (some v))
    (hd : (x == ("__debug__" : Str)) = false := by decide) : Gl w n env ρ (.Name x pos) v := by
  intro h F A s Q E R L hQ
  obtain ⟨mg, mb, g, b, c⟩ := F.wd.ns
  refine Calls.Name_function_global F.kind hk (Calls.loadGlobal_global (mg := mg) (v := v) ?_ (mg_of F.wd.K g e) (hQ _ _ _ (Grow.refl L) rfl)) hd
  rw [F.glob]; exact g.keeps L.1

theorem mg_none {K : Frag} {h : Heap} {mg : Str → Option Value} {n : Str} (X : K.In h) (G : h.Ns mainGlobals mg) (e : nsIn K mainGlobals n = some none) : mg n = none := by
  obtain ⟨o, es, ep, ho, hd, _, hf⟩ := G
  unfold nsIn at e
  split at e
  · rename_i c d es' n' sl q
    have := X _ _ q
    rw [ho] at this
    cases this
    cases hd
    rw [← hf]
    split at e
    · cases e
    · rename_i hn
      unfold nsFind findBy
      rw [← Array.find?_toList, hn]; rfl
  · cases e

theorem Gl.builtin {x : Str} {pos : Pos} {v : Value} (hk : env.kindOf x = some .globalImplicit) (e : nsIn (KK w) mainGlobals x = some none) (hb : bootBuiltins x = some v)
    (hx : x ≠ "__name__") (hd : (x == ("__debug__" : Str)) = false := by decide) : Gl w n env ρ (.Name x pos) v := by
  intro h F A s Q E R L hQ
  obtain ⟨mg, mb, g, b, c⟩ := F.wd.ns
  refine Calls.Name_function_global F.kind hk (Calls.loadGlobal_builtin (mg := mg) (mb := mb) (v := v) ?_ (mg_none F.wd.K g e) ?_ ((c x hx).trans hb) (hQ _ _ _ (Grow.refl L) rfl)) hd
  · rw [F.glob]; exact g.keeps L.1
  · rw [F.blt]; exact b.keeps L.1

theorem Ev.bin {l r : Expr} {op : Operator} {pos : Pos} {d1 d2 d : PyData} (hl : Ev w n env ρ l d1) (hr : Ev w n env ρ r d2) (ho : Op2 w n (binaryOp op) d1 d2 d) : Ev w n env ρ (.BinOp l op r pos) d :=
  fun h F A s _ E R L hQ => wpAny_BinOp (hl h F A s _ E R L fun a s1 h1 g1 i1 => hr h1 (F.le g1.le) A s1 _ E R g1.ok fun b s2 h2 g2 i2 =>
    ho h2 a b (F.wd.le (g1.le.trans g2.le)) (i1.le g2.le) i2 A s2 _ E R g2.ok fun v s3 h3 g3 i3 => hQ v s3 h3 ((g1.trans g2).trans g3) i3)
theorem Ev.un {x : Expr} {op : UnaryOp} {pos : Pos} {d1 d : PyData} (hl : Ev w n env ρ x d1) (ho : Op1 w n (unaryOp op) d1 d) : Ev w n env ρ (.UnaryOp op x pos) d :=
  fun h F A s _ E R L hQ => wpAny_UnaryOp (hl h F A s _ E R L fun a s1 h1 g1 i1 => ho h1 a (F.wd.le g1.le) i1 A s1 _ E R g1.ok fun v s3 h3 g3 i3 => hQ v s3 h3 (g1.trans g3) i3)
theorem Ev.cmp {l r : Expr} {op : CmpOp} {pos : Pos} {d1 d2 d : PyData} (hl : Ev w n env ρ l d1) (hr : Ev w n env ρ r d2) (ho : Op2 w n (compareOp op) d1 d2 d)
    (hm : behindInMarks op r = false := by with_unfolding_all rfl) : Ev w n env ρ (.Compare l [op] [r] pos) d :=
  fun h F A s _ E R L hQ => wpAny_Compare1 (hl h F A s _ E R L fun a s1 h1 g1 i1 => hr h1 (F.le g1.le) A s1 _ E R g1.ok fun b s2 h2 g2 i2 =>
    ho h2 a b (F.wd.le (g1.le.trans g2.le)) (i1.le g2.le) i2 A s2 _ E R g2.ok fun v s3 h3 g3 i3 => hQ v s3 h3 ((g1.trans g2).trans g3) i3) hm
theorem Ts.cmp {l r : Expr} {op : CmpOp} {pos : Pos} {d1 d2 : PyData} {b : Bool} (hl : Ev w n env ρ l d1) (hr : Ev w n env ρ r d2) (ho : Op2 w n (compareOp op) d1 d2 (.bool b))
    (hm : behindInMarks op r = false := by with_unfolding_all rfl) : Ts w n env ρ (.Compare l [op] [r] pos) b :=
  fun h F A s _ E R L hQ => wpAny_isTrue_Compare1 (hl h F A s _ E R L fun a s1 h1 g1 i1 => hr h1 (F.le g1.le) A s1 _ E R g1.ok fun b s2 h2 g2 i2 =>
    ho h2 a b (F.wd.le (g1.le.trans g2.le)) (i1.le g2.le) i2 A s2 _ E R g2.ok fun v s3 h3 g3 i3 => by
      rw [i3.isBool]; exact wpAny_truthy_bool (hQ _ s3 h3 ((g1.trans g2).trans g3) rfl)) hm
theorem Ts.not {x : Expr} {pos : Pos} {b : Bool} (hx : Ts w n env ρ x b) : Ts w n env ρ (.UnaryOp .Not x pos) (!b) :=
  fun h F A s _ E R L hQ => wpAny_isTrue_Not (hx h F A s _ E R L fun a s1 h1 g1 i1 => hQ _ s1 h1 g1 (by rw [i1]))
theorem Ts.value {e : Expr} {d : PyData} {b : Bool} (hx : Ev w n env ρ e d) (ht : Tr1 w n d b)
    (he : ∀ whole, isTrue e env whole = (do let v ← whole; standAt e.pos; holding [v] (truthy v)) := by intro _; rfl) : Ts w n env ρ e b :=
  fun h F A s _ E R L hQ => wpAny_isTrue_value (hx h F A s _ E R L fun a s1 h1 g1 i1 => ht h1 a (F.wd.le g1.le) i1 A s1 _ E R g1.ok fun v s3 h3 g3 i3 => hQ v s3 h3 (g1.trans g3) i3) (he _)
theorem Ts.and {x y : Expr} {pos : Pos} {b c : Bool} (hx : Ts w n env ρ x b) (hy : b = true → Ts w n env ρ y c) : Ts w n env ρ (.BoolOp .And [x, y] pos) (b && c) := by
  intro h F A s Q E R L hQ
  refine wpAny_isTrue_BoolOp (wpAny_allTrue_And_cons (hx h F A s _ E R L fun b' s1 h1 g1 i1 => ?_))
  subst i1
  cases b' with
  | false => simpa using hQ _ s1 h1 g1 rfl
  | true =>
    simp only [if_true]
    refine wpAny_allTrue_And_cons (hy rfl h1 (F.le g1.le) A s1 _ E R g1.ok fun c' s2 h2 g2 i2 => ?_)
    subst i2
    cases c' with
    | false => simpa using hQ _ s2 h2 (g1.trans g2) rfl
    | true => simpa using wpAny_allTrue_And_nil (hQ _ s2 h2 (g1.trans g2) rfl)
theorem Ts.or {x y : Expr} {pos : Pos} {b c : Bool} (hx : Ts w n env ρ x b) (hy : b = false → Ts w n env ρ y c) : Ts w n env ρ (.BoolOp .Or [x, y] pos) (b || c) := by
  intro h F A s Q E R L hQ
  refine wpAny_isTrue_BoolOp (wpAny_allTrue_Or_cons (hx h F A s _ E R L fun b' s1 h1 g1 i1 => ?_))
  subst i1
  cases b' with
  | true => simpa using hQ _ s1 h1 g1 rfl
  | false =>
    simp only [Bool.false_eq_true, if_false]
    refine wpAny_allTrue_Or_cons (hy rfl h1 (F.le g1.le) A s1 _ E R g1.ok fun c' s2 h2 g2 i2 => ?_)
    subst i2
    cases c' with
    | true => simpa using hQ _ s2 h2 (g1.trans g2) rfl
    | false => simpa using wpAny_allTrue_Or_nil (hQ _ s2 h2 (g1.trans g2) rfl)
theorem Ev.ite {t a b : Expr} {pos : Pos} {c : Bool} {d : PyData} (ht : Ts w n env ρ t c) (ha : c = true → Ev w n env ρ a d) (hb : c = false → Ev w n env ρ b d) : Ev w n env ρ (.IfExp t a b pos) d := by
  intro h F A s Q E R L hQ
  refine wpAny_IfExp (ht h F A s _ E R L fun c' s1 h1 g1 i1 => ?_)
  subst i1
  cases c' with
  | true => simp only [if_true]; exact ha rfl h1 (F.le g1.le) A s1 _ E R g1.ok fun v s2 h2 g2 i2 => hQ v s2 h2 (g1.trans g2) i2
  | false => simp only [Bool.false_eq_true, if_false]; exact hb rfl h1 (F.le g1.le) A s1 _ E R g1.ok fun v s2 h2 g2 i2 => hQ v s2 h2 (g1.trans g2) i2

theorem Evs.nil {pos : Pos} : Evs w n env ρ pos [] [] := fun _ _ _ _ _ _ _ L hQ => args_nil (hQ _ _ _ (Grow.refl L) .nil)
theorem Evs.cons {pos : Pos} {e : Expr} {es : List Expr} {d : PyData} {ds : List PyData} (he : Ev w n env ρ e d) (hs : Evs w n env ρ pos es ds)
    (hst : starEach (e :: es) env = (false, eval e env) :: starEach es env := by rfl) : Evs w n env ρ pos (e :: es) (d :: ds) :=
  fun h F A s _ E R L hQ => args_cons (he h F A s _ E R L fun a s1 h1 g1 i1 => hs h1 (F.le g1.le) A s1 _ E R g1.ok fun b s2 h2 g2 i2 => hQ _ s2 h2 (g1.trans g2) (.cons (i1.le g2.le) i2)) hst

theorem fresh_none {s : Shared} : s.heap.get? s.heap.objs.size = none := Heap.get?_none_of_le (Nat.le_refl _)

theorem run_newList {h : Heap} {vs : List Value} {ds : List PyData} (i : IsAll w h vs ds) (hsz : vs.length ≤ sizeLine) : Run w n h (newList vs) (fun h v => Is w h v (.list ds)) := by
  intro A s Q E R L hQ
  refine wpAny_newObj_type (hQ _ _ _ (Grow.vis (Keeps.of (tk := s.toks) fun b o e => Heap.get?_push_of_some _ e) L L.2) ?_) (by show vs.toArray.size ≤ sizeLine; rw [List.size_toArray]; exact hsz)
  refine .list (vis_some (Heap.get?_push_size _ rfl) (.inl fresh_none)) rfl rfl ?_
  exact (i.le (le_vis (L.1.trans fun b o e => Heap.get?_push_of_some _ e)))
theorem run_newTuple {h : Heap} {vs : List Value} {ds : List PyData} (i : IsAll w h vs ds) (hsz : vs.length ≤ sizeLine) : Run w n h (newTuple vs) (fun h v => Is w h v (.tuple ds)) := by
  intro A s Q E R L hQ
  refine wpAny_newObj_type (hQ _ _ _ (Grow.vis (Keeps.of (tk := s.toks) fun b o e => Heap.get?_push_of_some _ e) L L.2) ?_) (by show vs.toArray.size ≤ sizeLine; rw [List.size_toArray]; exact hsz)
  refine .tuple (vis_some (Heap.get?_push_size _ rfl) (.inl fresh_none)) rfl rfl ?_
  exact (i.le (le_vis (L.1.trans fun b o e => Heap.get?_push_of_some _ e)))
theorem sizeLine_big {n : Nat} (h : n ≤ 1000000) : n ≤ sizeLine := Nat.le_trans h (by decide)
theorem Ev.list {es : List Expr} {pos : Pos} {ds : List PyData} (hs : Evs w n env ρ pos es ds) (hsz : ds.length ≤ 1000000 := by decide) : Ev w n env ρ (.List es pos) (.list ds) :=
  fun h F A s _ E R L hQ => List_ (hs h F A s _ E R L fun vs s1 h1 g1 i1 => run_newList i1 (by rw [i1.length]; exact sizeLine_big hsz) A s1 _ E R g1.ok fun v s2 h2 g2 i2 => hQ v s2 h2 (g1.trans g2) i2)
theorem Ev.tuple {es : List Expr} {k : Nat} {pos : Pos} {ds : List PyData} (hs : Evs w n env ρ pos es ds) (hsz : ds.length ≤ 1000000 := by decide) : Ev w n env ρ (.Tuple es k pos) (.tuple ds) :=
  fun h F A s _ E R L hQ => Tuple_ (hs h F A s _ E R L fun vs s1 h1 g1 i1 => run_newTuple i1 (by rw [i1.length]; exact sizeLine_big hsz) A s1 _ E R g1.ok fun v s2 h2 g2 i2 => hQ v s2 h2 (g1.trans g2) i2)

def isFnK (K : Frag) (a : Addr) : Bool := match K.lookup a with | some ⟨_, _, .func _, _⟩ => true | _ => false
theorem Ev.call {f : Expr} {e : Expr} {es : List Expr} {pos : Pos} {a : Addr} {ds : List PyData} {d : PyData} (hf : Gl w n env ρ f (.ref a)) (hs : Evs w n env ρ pos (e :: es) ds) (hK : isFnK (KK w) a = true) (fn : Fn w n a ds d)
    (he : eval (.Call f (e :: es) [] pos) env = (do callWith pos (← eval f env) [] (backTo pos (starEach (e :: es) env)) (backToKw pos (keywordEach [] env))) := by rfl)
    (hst : starEach (e :: es) env = (false, eval e env) :: starEach es env := by rfl) : Ev w n env ρ (.Call f (e :: es) [] pos) d := by
  intro h F A s Q E R L hQ
  refine Call_ (hf h F A s _ E R L fun v s1 h1 g1 i1 => ?_) he
  subst i1
  unfold isFnK at hK
  split at hK
  · rename_i c dd fd sl hl
    refine callWith_def (o := ⟨c, dd, .func fd, sl⟩) (fd := fd) rfl (hs h1 (F.le g1.le) A s1 _ E R g1.ok fun vs s2 h2 g2 i2 => ⟨?_, wpAny_call ?_⟩) hst
    · exact g2.sub _ _ ((F.wd.le (g1.le.trans g2.le)).K _ _ hl)
    · exact fn A s2 h2 _ vs R (F.wd.le (g1.le.trans g2.le)) g2.ok i2 fun v s3 h3 g3 i3 => hQ v s3 h3 ((g1.trans g2).trans g3) i3
  · cases hK
end
end Mine

namespace Mine
open PySem PySem.W PyProof.Rows

theorem ns_unique {h : Heap} {a : Addr} {m m' : Str → Option Value} (x : h.Ns a m) (y : h.Ns a m') : m = m' := by
  obtain ⟨o, es, ep, ho, hd, _, hf⟩ := x
  obtain ⟨o', es', ep', ho', hd', _, hf'⟩ := y
  rw [ho] at ho'; cases ho'
  rw [hd] at hd'; cases hd'
  funext z; rw [← hf, ← hf']

/-- the frame's own objects: nothing that stood before the call -/
structure Own (s : Shared) (env : Env) (h : Heap) : Prop where
  fresh : s.heap.get? env.locals = none
  ns : ∃ m, h.Ns env.locals m
  cell : ∀ x c, env.cells.lookup x = some c → s.heap.get? c = none ∧ ∃ v, h.IsCell c v
  apart : ∀ x y c, env.cells.lookup x = some c → env.cells.lookup y = some c → x = y
theorem Own.le {s : Shared} {env : Env} {h h' : Heap} (O : Own s env h) (l : Le h h') : Own s env h' :=
  ⟨O.fresh, let ⟨m, a⟩ := O.ns; ⟨m, a.keeps l⟩, fun x c e => let ⟨a, v, b⟩ := O.cell x c e; ⟨a, v, b.keeps l⟩, O.apart⟩

/-- behind a store at L -/
theorem vis_store {s1 : Shared} {h1 h' : Heap} {L : Addr} (l : Le h1 s1.heap) (hs : Heap.SameBut L s1.heap h') : Le (h1.hide L) (vis h1 s1.heap h') := by
  intro b o e
  have e1 := Heap.of_hide e
  have hb : b ≠ L := by rintro rfl; rw [Heap.hide_self] at e; cases e
  exact vis_some ((hs.2 b hb).trans (l _ _ e1)) (.inr ⟨o, e1⟩)
theorem vis_store_at {s1 : Shared} {h1 h' : Heap} {L : Addr} {o o' : Obj} (e : h1.get? L = some o) (e' : h'.get? L = some o') : (vis h1 s1.heap h').get? L = some o' := vis_some e' (.inr ⟨o, e⟩)
theorem grow_store {s s1 : Shared} {h h1 h' : Heap} {L : Addr} {tk : Nat} (g : Grow s h s1 h1) (l : Le h s.heap) (hL : s.heap.get? L = none) (hs : Heap.SameBut L s1.heap h')
    (hp : 1 ≤ tk) : Grow s h { s1 with heap := h', toks := tk } (vis h1 s1.heap h') := by
  refine ⟨?_, hp, fun b o e => ?_, vis_sub, fun b o e n => ?_⟩
  · obtain ⟨H, t, rfl, hk⟩ := g.keeps
    exact ⟨h', tk, rfl, fun b o e => (hs.2 b (by rintro rfl; rw [hL] at e; cases e)).trans (hk _ _ e)⟩
  · have hb : b ≠ L := by rintro rfl; have := l _ _ e; rw [hL] at this; cases this
    exact vis_store g.sub hs b o (by rw [Heap.hide_ne _ hb]; exact g.le _ _ e)
  · exact vis_hid (Keeps.le g.keeps _ _ e) (g.hid b o e n)

theorem ns_data {h : Heap} {a : Addr} {m : Str → Option Value} (x : h.Ns a m) : ∀ o, h.get? a = some o → ∀ vs n, o.data ≠ .seq vs n := by
  obtain ⟨o, es, ep, ho, hd, _⟩ := x
  intro o' ho' vs n
  rw [ho] at ho'; cases ho'
  rw [hd]; intro q; cases q
theorem cell_data {h : Heap} {a : Addr} {v : Option Value} (x : h.IsCell a v) : ∀ o, h.get? a = some o → (∀ vs n, o.data ≠ .seq vs n) ∧ ∀ es n, o.data ≠ .dict es n := by
  obtain ⟨o, ho, hd⟩ := x
  intro o' ho'
  rw [ho] at ho'; cases ho'
  rw [hd]; exact ⟨fun _ _ q => (by cases q), fun _ _ q => (by cases q)⟩
theorem cell_ne_ns {h : Heap} {a b : Addr} {v : Option Value} {m : Str → Option Value} (x : h.IsCell a v) (y : h.Ns b m) : a ≠ b := by
  rintro rfl
  obtain ⟨o, ho, hd⟩ := x
  obtain ⟨o', es, ep, ho', hd', _⟩ := y
  rw [ho] at ho'; cases ho'
  rw [hd] at hd'; cases hd'

def flatCtx (ρ : Mine.Ctx) : Bool := ρ.all fun p => flat p.2
theorem flat_of {ρ : Mine.Ctx} (hf : flatCtx ρ = true) {x : Str} {d : PyData} (e : ρ.lookup x = some d) : flat d = true := by
  induction ρ with
  | nil => simp at e
  | cons p r ih =>
    simp only [flatCtx, List.all_cons, Bool.and_eq_true] at hf
    obtain ⟨y, d'⟩ := p
    rw [List.lookup_cons] at e
    split at e
    · cases e; exact hf.1
    · exact ih hf.2 e

section
variable {w : World} {n : Nat} {env : Env} {ρ : Mine.Ctx}

theorem store_local {s s1 : Shared} {h h1 : Heap} {x : Str} {v : Value} {d : PyData} {A : Around} {Q : Unit → Shared → Prop} {E : Value → Shared → Prop}
    (L : Le h s.heap) (W : Wd w h) (g : Grow s h s1 h1) (O : Own s env h1) (F : Fm w env ρ h1) (i : Is w h1 v d) (hfl : flatCtx ρ = true) (hfd : flat d = true) (hk : env.kindOf x = some .local)
    (hQ : ∀ s2 h2, Grow s h s2 h2 → Own s env h2 → Fm w env ((x, d) :: ρ) h2 → (∀ b o, b ≠ env.locals → s1.heap.get? b = some o → s2.heap.get? b = some o) →
      (∀ m, h1.Ns env.locals m → h2.Ns env.locals (fun y => if y = x then some v else m y)) → (∀ b o, b ≠ env.locals → h1.get? b = some o → h2.get? b = some o) → Q () s2) : wpAny (model PP w) A (storeName env x v) Q E s1 := by
  obtain ⟨m, hn⟩ := O.ns
  refine wpAny_storeName_local hk (hn.keeps g.sub) (fun h' hn' hs => ?_) (by rw [F.kind]; rfl)
  obtain ⟨o, es, ep, ho, hd, r⟩ := id hn
  obtain ⟨o', es', ep', ho', hd', r'⟩ := id hn'
  have hv := vis_store g.sub hs
  have hL' : (vis h1 s1.heap h').Ns env.locals (fun y => if y = x then some v else m y) := ⟨o', es', ep', vis_store_at (s1 := s1) ho ho', hd', r'⟩
  have g2 := grow_store (tk := s1.toks + 1) g L O.fresh hs (Nat.succ_pos _)
  have hcell : ∀ c u, h1.IsCell c u → (vis h1 s1.heap h').IsCell c u := fun c u y => by
    obtain ⟨oc, hoc, hdc⟩ := id y
    exact ⟨oc, hv _ _ (by rw [Heap.hide_ne _ (cell_ne_ns y hn)]; exact hoc), hdc⟩
  refine hQ _ (vis h1 s1.heap h') g2 ⟨O.fresh, ⟨_, hL'⟩, fun y c e => let ⟨a, u, b⟩ := O.cell y c e; ⟨a, u, hcell c u b⟩, O.apart⟩ ⟨W.le g2.le, F.kind, F.glob, F.blt, fun y d' e => ?_⟩ (fun b o nb e => (hs.2 b nb).trans e) (fun m' hm' => by rw [ns_unique hm' hn]; exact hL') (fun b o nb e => hv b o (by rw [Heap.hide_ne _ nb]; exact e))
  rw [List.lookup_cons] at e
  split at e
  · rename_i hy
    have hy := beq_iff_eq.mp hy
    cases e
    subst hy
    exact .inl ⟨hk, _, v, hL', by simp, (i.hide (ns_data hn) hfd).le hv⟩
  · rename_i hy
    have hy : y ≠ x := by simpa using hy
    rcases F.nm y d' e with ⟨k, m', v', a, b, c⟩ | ⟨k, q, c, v', a, b, c'⟩
    · have := ns_unique a hn; subst this
      exact .inl ⟨k, _, v', hL', by simp [hy, b], (c.hide (ns_data hn) (flat_of hfl e)).le hv⟩
    · exact .inr ⟨k, q, c, v', a, hcell c _ b, (c'.hide (ns_data hn) (flat_of hfl e)).le hv⟩

theorem store_cell {s s1 : Shared} {h h1 : Heap} {x : Str} {v : Value} {d : PyData} {A : Around} {c : Addr} {Q : Unit → Shared → Prop} {E : Value → Shared → Prop}
    (L : Le h s.heap) (W : Wd w h) (g : Grow s h s1 h1) (O : Own s env h1) (F : Fm w env ρ h1) (i : Is w h1 v d) (hk : env.kindOf x = some .cell) (hc : env.cells.lookup x = some c)
    (hq : (x == ("__classdict__" : Str)) = false)
    (hQ : ∀ s2 h2, Grow s h s2 h2 → Own s env h2 → Fm w env ((x, d) :: ρ) h2 → Q () s2) : wpAny (model PP w) A (storeName env x v) Q E s1 := by
  obtain ⟨m, hn⟩ := O.ns
  obtain ⟨hcf, v0, hc0⟩ := O.cell x c hc
  refine wpAny_storeName_cell F.kind hk hc (hc0.keeps g.sub) fun h' hn' hs => ?_
  obtain ⟨o, ho, hd⟩ := id hc0
  obtain ⟨o', ho', hd'⟩ := id hn'
  have hv := vis_store g.sub hs
  have hc' : (vis h1 s1.heap h').IsCell c (some v) := ⟨o', vis_store_at (s1 := s1) ho ho', hd'⟩
  have hL' : (vis h1 s1.heap h').Ns env.locals m := by
    obtain ⟨o2, es, ep, ho2, r⟩ := id hn
    exact ⟨o2, es, ep, hv _ _ (by rw [Heap.hide_ne _ (Ne.symm (cell_ne_ns hc0 hn))]; exact ho2), r⟩
  have hcell : ∀ c' u, c' ≠ c → h1.IsCell c' u → (vis h1 s1.heap h').IsCell c' u := fun c' u hne y => by
    obtain ⟨oc, hoc, hdc⟩ := id y
    exact ⟨oc, hv _ _ (by rw [Heap.hide_ne _ hne]; exact hoc), hdc⟩
  have g2 := grow_store (tk := s1.toks) g L hcf hs g.pos
  refine hQ _ (vis h1 s1.heap h') g2 ⟨O.fresh, ⟨_, hL'⟩, fun y c' e => ?_, O.apart⟩ ⟨W.le g2.le, F.kind, F.glob, F.blt, fun y d' e => ?_⟩
  · obtain ⟨a, u, b⟩ := O.cell y c' e
    by_cases hcc : c' = c
    · subst hcc; exact ⟨a, _, hc'⟩
    · exact ⟨a, u, hcell c' u hcc b⟩
  · rw [List.lookup_cons] at e
    split at e
    · rename_i hy
      have hy := beq_iff_eq.mp hy
      cases e
      subst hy
      exact .inr ⟨.inl hk, hq, c, v, hc, hc', (i.hideF (cell_data hc0)).le hv⟩
    · rename_i hy
      have hy : y ≠ x := by simpa using hy
      rcases F.nm y d' e with ⟨k, m', v', a, b, c2⟩ | ⟨k, q, c2, v', a, b, i2⟩
      · have := ns_unique a hn; subst this
        exact .inl ⟨k, _, v', hL', b, (c2.hideF (cell_data hc0)).le hv⟩
      · exact .inr ⟨k, q, c2, v', a, hcell c2 _ (fun q => hy (O.apart _ _ c (q ▸ a) hc)) b, (i2.hideF (cell_data hc0)).le hv⟩
end

/-- a body, from names ρ, gives d back -/
def Bx (w : World) (n : Nat) (s : Shared) (h : Heap) (env : Env) (ρ : Mine.Ctx) (t : Sem Flow) (d : PyData) : Prop :=
  ∀ (A : Around) (s1 : Shared) (h1 : Heap) (Q : Flow → Shared → Prop) (E : Value → Shared → Prop), Room n A → Le h s.heap → Wd w h → Grow s h s1 h1 → Own s env h1 → Fm w env ρ h1 →
    (∀ v s' h', Grow s h s' h' → Is w h' v d → Q (.ret v) s') → wpAny (model PP w) A t Q E s1

section
variable {w : World} {n : Nat} {env : Env} {ρ : Mine.Ctx} {s : Shared} {h : Heap}

theorem Bx.mono {m : Nat} {t : Sem Flow} {d : PyData} (x : Bx w m s h env ρ t d) (hm : m ≤ n) : Bx w n s h env ρ t d :=
  fun A s1 h1 Q E R => x A s1 h1 Q E (R.mono hm)
theorem Bx.ret {e : Expr} {pos : Pos} {rest : List Stmt} {d : PyData} (he : Ev w n env ρ e d) : Bx w n s h env ρ (execs (.Return (some e) pos :: rest) env) d :=
  fun A s1 h1 _ E R _ _ g _ F hQ => wpAny_execs_cons (wpAny_Return_some (he h1 F A s1 _ E R g.ok fun v s2 h2 g2 i2 => hQ v s2 h2 (g.trans g2) i2))
theorem Bx.assign {x : Str} {p pos : Pos} {e : Expr} {rest : List Stmt} {d1 d : PyData} (he : Ev w n env ρ e d1) (hk : env.kindOf x = some .local) (hfl : flatCtx ρ = true) (hfd : flat d1 = true)
    (hs : swapsWith e (some (.Name x p)) pos.line env = pure false) (hr : Bx w n s h env ((x, d1) :: ρ) (execs rest env) d) : Bx w n s h env ρ (execs (.Assign [.Name x p] e pos :: rest) env) d :=
  fun A s1 h1 _ E R L W g O F hQ => wpAny_execs_cons (wpAny_Assign_Name (he h1 F A s1 _ E R g.ok fun _ _ _ g2 i2 =>
    store_local L W (g.trans g2) (O.le g2.le) (F.le g2.le) i2 hfl hfd hk fun s3 h3 g3 O3 F3 _ _ _ => hr A s3 h3 _ E R L W g3 O3 F3 hQ) hs)
theorem Bx.assignC {x : Str} {c : Addr} {p pos : Pos} {e : Expr} {rest : List Stmt} {d1 d : PyData} (he : Ev w n env ρ e d1) (hk : env.kindOf x = some .cell) (hc : env.cells.lookup x = some c)
    (hs : swapsWith e (some (.Name x p)) pos.line env = pure false) (hr : Bx w n s h env ((x, d1) :: ρ) (execs rest env) d) (hq : (x == ("__classdict__" : Str)) = false := by decide) :
    Bx w n s h env ρ (execs (.Assign [.Name x p] e pos :: rest) env) d :=
  fun A s1 h1 _ E R L W g O F hQ => wpAny_execs_cons (wpAny_Assign_Name (he h1 F A s1 _ E R g.ok fun _ _ _ g2 i2 =>
    store_cell L W (g.trans g2) (O.le g2.le) (F.le g2.le) i2 hk hc hq fun s3 h3 g3 O3 F3 => hr A s3 h3 _ E R L W g3 O3 F3 hQ) hs)
theorem Bx.weak {ρ' : Mine.Ctx} {t : Sem Flow} {d : PyData} (hw : ∀ x e, ρ'.lookup x = some e → ρ.lookup x = some e) (hr : Bx w n s h env ρ' t d) : Bx w n s h env ρ t d :=
  fun A s1 h1 Q E R L W g O F hQ => hr A s1 h1 Q E R L W g O ⟨F.wd, F.kind, F.glob, F.blt, fun x e q => F.nm x e (hw x e q)⟩ hQ

theorem wp_execs_append {M : Model} {Γ : PySem.Ctx} {rest : List Stmt} {Q : Flow → Pos → Shared → Prop} {E : Value → Pos → Shared → Prop} : ∀ (b : List Stmt) (p : Pos) (s : Shared),
    Sem.wp M Γ (execs (b ++ rest) env) Q E p s → Sem.wp M Γ (execs b env) (fun f p' s' => match f with | .next => Sem.wp M Γ (execs rest env) Q E p' s' | f => Q f p' s') E p s
  | [], _, _, hx => hx
  | st :: b, p, s, hx => by
    rw [List.cons_append, execs_cons, Sem.wp_bind'] at hx
    rw [execs_cons, Sem.wp_bind']
    refine Sem.wp_mono M Γ _ (fun f p' s' h' => ?_) (fun _ _ _ h' => h') _ _ hx
    cases f with
    | next => exact wp_execs_append b p' s' h'
    | _ => exact h'

theorem Bx.ite {t : Expr} {b o rest : List Stmt} {pos : Pos} {c : Bool} {d : PyData} (ht : Ts w n env ρ t c) (hb : c = true → Bx w n s h env ρ (execs (b ++ rest) env) d) (ho : c = false → Bx w n s h env ρ (execs (o ++ rest) env) d) :
    Bx w n s h env ρ (execs (.If t b o pos :: rest) env) d := by
  intro A s1 h1 Q E R L W g O F hQ Γ p hΓ
  have key : wpAny (model PP w) A (isTrue t env (eval t env)) (fun c' s' => ∀ Γ p, Γ.In A → Sem.wp (model PP w) Γ (if c' then execs b env else execs o env)
      (fun f p' s' => Sem.wp (model PP w) Γ (match f with | .next => execs rest env | f => pure f) (fun f _ s' => Q f s') (fun e _ s' => E e s') p' s') (fun e _ s' => E e s') p s') E s1 := by
    refine ht h1 F A s1 _ E R g.ok fun c' s2 h2 g2 i2 => ?_
    subst i2
    intro Γ p hΓ
    have fin : ∀ b : List Stmt, wpAny (model PP w) A (execs (b ++ rest) env) Q E s2 → Sem.wp (model PP w) Γ (execs b env) (fun f p' s' => Sem.wp (model PP w) Γ (match f with | .next => execs rest env | f => pure f) (fun f _ s' => Q f s') (fun e _ s' => E e s') p' s') (fun e _ s' => E e s') p s2 := fun b hx =>
      Sem.wp_mono _ Γ _ (fun f p' s' h' => by cases f <;> exact h') (fun _ _ _ h' => h') _ _ (wp_execs_append b p s2 (hx Γ p hΓ))
    cases c' with
    | true => simp only [if_true]; exact fin b (hb rfl A s2 h2 Q E R L W (g.trans g2) (O.le g2.le) (F.le g2.le) hQ)
    | false => simp only [Bool.false_eq_true, if_false]; exact fin o (ho rfl A s2 h2 Q E R L W (g.trans g2) (O.le g2.le) (F.le g2.le) hQ)
  rw [execs_cons, Sem.wp_bind', exec_If, Sem.wp_bind', Sem.wp_cmd_standAt, Sem.wp_bind']
  exact Sem.wp_mono _ Γ _ (fun c' p' s' h' => h' Γ p' hΓ) (fun _ _ _ h' => h') _ _ (key Γ _ hΓ)
end
end Mine

namespace Mine
open PySem PySem.W PyProof.Rows

theorem bindL_notin (k : Str → Option NameKind) : ∀ (binds : List (Str × Value)) (m : Str → Option Value) (x : Str), x ∉ binds.map (·.1) → bindL k binds m x = m x
  | [], _, _, _ => rfl
  | (n, v) :: r, m, x, h => by
    simp only [List.map_cons, List.mem_cons, not_or] at h
    rw [bindL, bindL_notin k r _ x h.2]
    split <;> simp [h.1]
theorem bindC_notin (k : Str → Option NameKind) : ∀ (binds : List (Str × Value)) (m : Str → Option Value) (x : Str), x ∉ binds.map (·.1) → bindC k binds m x = m x
  | [], _, _, _ => rfl
  | (n, v) :: r, m, x, h => by
    simp only [List.map_cons, List.mem_cons, not_or] at h
    rw [bindC, bindC_notin k r _ x h.2]
    split <;> simp [h.1]
theorem bindL_at (k : Str → Option NameKind) : ∀ (binds : List (Str × Value)) (m : Str → Option Value) (x : Str) (v : Value), (binds.map (·.1)).Nodup → binds.lookup x = some v → k x = some .local → bindL k binds m x = some v
  | [], _, _, _, _, h, _ => by simp at h
  | (n, u) :: r, m, x, v, hn, h, hk => by
    simp only [List.map_cons, List.nodup_cons] at hn
    rw [List.lookup_cons] at h
    split at h
    · rename_i hx
      have hx := beq_iff_eq.mp hx
      cases h; subst hx
      rw [bindL, bindL_notin k r _ x hn.1]; simp [hk]
    · rw [bindL]; exact bindL_at k r _ x v hn.2 h hk
theorem bindC_at (k : Str → Option NameKind) : ∀ (binds : List (Str × Value)) (m : Str → Option Value) (x : Str) (v : Value), (binds.map (·.1)).Nodup → binds.lookup x = some v → k x ≠ some .local → bindC k binds m x = some v
  | [], _, _, _, _, h, _ => by simp at h
  | (n, u) :: r, m, x, v, hn, h, hk => by
    simp only [List.map_cons, List.nodup_cons] at hn
    rw [List.lookup_cons] at h
    split at h
    · rename_i hx
      have hx := beq_iff_eq.mp hx
      cases h; subst hx
      rw [bindC, bindC_notin k r _ x hn.1]; simp [hk]
    · rw [bindC]; exact bindC_at k r _ x v hn.2 h hk

theorem zip_map_fst {α β : Type} : ∀ (a : List α) (b : List β), a.length = b.length → (a.zip b).map (·.1) = a
  | [], _, _ => by simp
  | _ :: _, [], h => by simp at h
  | x :: a, y :: b, h => by simp [zip_map_fst a b (by simpa using h)]

theorem isAll_zip {w : World} {h : Heap} : ∀ {names : List Str} {vs : List Value} {ds : List PyData}, IsAll w h vs ds → names.length = ds.length → ∀ x d, (names.zip ds).lookup x = some d → ∃ v, (names.zip vs).lookup x = some v ∧ Is w h v d
  | [], _, _, _, _, x, d, e => by simp at e
  | n :: r, _, _, .nil, hl, x, d, e => by simp at hl
  | n :: r, _, _, .cons a i, hl, x, d, e => by
    simp only [List.zip_cons_cons, List.lookup_cons] at e ⊢
    split at e
    · cases e; exact ⟨_, rfl, a⟩
    · exact isAll_zip i (by simpa using hl) x d e

/-- the def at a -/
structure DefAt (w : World) (a : Addr) (fd : FuncData) (body : List Stmt) : Prop where
  at_ : ∃ oc od osl, (KK w).lookup a = some ⟨oc, od, .func fd, osl⟩
  body : fd.body = .stmts body
  code : codeIn (KK w) fd.code fd.qualname = true
  clo : fd.closure = []
  glob : fd.globals = mainGlobals
  blt : fd.builtins = builtinsNs
  co : fd.scope.isCoroutine = false
  gen : fd.scope.isGenerator = false
  kind : fd.scope.kind = .function

theorem pairwise_apart {cs : List (Str × Addr)} (hp : cs.Pairwise fun x y => x.2 ≠ y.2) (x y : Str) (c : Addr) (e : cs.lookup x = some c) (e' : cs.lookup y = some c) : x = y :=
  name_of_addr hp (mem_of_lookup e) (mem_of_lookup e')

theorem Fn.of {w : World} {n : Nat} {a : Addr} {fd : FuncData} {body : List Stmt} {names : List Str} {ds : List PyData} {d : PyData} (D : DefAt w a fd body)
    (hbind : ∀ vs : List Value, vs.length = ds.length → bindArgs fd ⟨vs, []⟩ = pure (names.zip vs)) (hlen : names.length = ds.length) (hnd : names.Nodup)
    (hkind : ∀ (L : Nat), ∀ x ∈ names, fd.scope.names.lookup x = some .local ∨ (fd.scope.names.lookup x = some .cell ∧ (x == ("__classdict__" : Str)) = false ∧ ((cellsFrom L fd.scope.names []).lookup x).isSome = true))
    (hB : ∀ (s : Shared) (h : Heap) (L : Nat), Bx w n s h (callEnvC fd L a) (names.zip ds) (execs body (callEnvC fd L a)) d) : Fn w (n + 1) a ds d := by
  intro A s h R vs r W l i hR
  obtain ⟨oc, od, osl, hK⟩ := D.at_
  have hvl : vs.length = ds.length := i.length
  have hfst : (names.zip vs).map (·.1) = names := zip_map_fst _ _ (by rw [hlen, hvl])
  refine codeAny_call_function (o := ⟨oc, od, .func fd, osl⟩) (fd := fd) (by have := r.depth; omega) (l.1 _ _ (W.K _ _ hK)) rfl D.co D.gen D.body (codeRec_of (W.K.keeps l.1) D.code) ?_
  rw [hbind vs hvl, D.clo]
  refine wpAny_pure (wpAny_with_toks (n := 1) l.2 (wpAny_newFunctionEnv_cells D.kind (fun x hx => ?_) fun env he s1 x ht => ?_))
  · have hx' : x.1 ∈ names := by have := List.mem_map_of_mem (f := (·.1)) hx; rwa [hfst] at this
    rcases hkind (s.heap.objs.size + 1) x.1 hx' with q | ⟨q, _, q'⟩
    · exact .inl q
    · exact .inr ⟨q, q'⟩
  subst he
  refine ⟨(W.lim.keeps l.1).keeps x.toInCall.keep, codeAny_func ?_⟩
  replace x : InCallC s (callEnvC fd s.heap.objs.size a).locals (bindL (callEnvC fd s.heap.objs.size a).kindOf (names.zip vs) fun _ => none) (callEnvC fd s.heap.objs.size a).cells (bindC (callEnvC fd s.heap.objs.size a).kindOf (names.zip vs) fun _ => none) s1 := x
  show wpAny _ (A.deeper (callEnvC fd s.heap.objs.size a)) (execs body (callEnvC fd s.heap.objs.size a)) _ _ s1
  have hLs : s.heap.get? s.heap.objs.size = none := Heap.get?_none_of_le (Nat.le_refl _)
  have kp : Keeps s s1 := by
    obtain ⟨H, tk, rfl⟩ := x.toInCall.same
    exact ⟨H, tk, rfl, x.toInCall.keep⟩
  have g : Grow s h s1 (vis h s.heap s1.heap) := Grow.vis kp l ht
  have hns : (vis h s.heap s1.heap).Ns (callEnvC fd s.heap.objs.size a).locals (bindL (callEnvC fd s.heap.objs.size a).kindOf (names.zip vs) fun _ => none) := by
    obtain ⟨o, es, ep, ho, q⟩ := x.toInCall.ns
    exact ⟨o, es, ep, vis_some ho (.inl hLs), q⟩
  have hcl : ∀ y c, (callEnvC fd s.heap.objs.size a).cells.lookup y = some c → s.heap.get? c = none ∧ (vis h s.heap s1.heap).IsCell c (bindC (callEnvC fd s.heap.objs.size a).kindOf (names.zip vs) (fun _ => none) y) := fun y c e => by
    have hlt : s.heap.objs.size < c := x.above y c (mem_of_lookup e)
    have hc : s.heap.get? c = none := Heap.get?_none_of_le (Nat.le_of_lt hlt)
    obtain ⟨o, ho, hd⟩ := x.cell y c e
    exact ⟨hc, o, vis_some ho (.inl hc), hd⟩
  refine wpAny_mono (hB s h s.heap.objs.size _ s1 (vis h s.heap s1.heap) (fun f s' => R (.ok (.ret (match f with | .ret v => v | _ => .none))) s') (fun _ _ => False) (r.deeper _) l.1 W g
    ⟨hLs, ⟨_, hns⟩, fun y c e => ⟨(hcl y c e).1, _, (hcl y c e).2⟩, fun y z c e e' => pairwise_apart x.apart y z c e e'⟩
    ⟨W.le g.le, D.kind, D.glob, D.blt, fun y e he => ?_⟩ (fun v s' h' g' i' => hR v s' h' g' i')) (fun _ _ q => q) (fun _ _ q => q.elim)
  obtain ⟨v, hv, iv⟩ := isAll_zip i hlen y e he
  have hy : y ∈ names := by have := List.mem_map_of_mem (f := (·.1)) (mem_of_lookup hv); rwa [hfst] at this
  rcases hkind (s.heap.objs.size + 1) y hy with q | ⟨q, q2, q'⟩
  · exact .inl ⟨q, _, v, hns, bindL_at _ _ _ y v (by rw [hfst]; exact hnd) hv q, iv.le g.le⟩
  · obtain ⟨c, hc⟩ := Option.isSome_iff_exists.mp q'
    refine .inr ⟨.inl q, q2, c, v, hc, ?_, iv.le g.le⟩
    have := (hcl y c hc).2
    rwa [bindC_at _ _ _ y v (by rw [hfst]; exact hnd) hv (by show ¬ fd.scope.names.lookup y = some .local; rw [q]; decide)] at this
end Mine

namespace Mine
open PySem PySem.W PyProof.Rows

section
variable {w : World} {n : Nat}

/-! ## ints -/
theorem op_add {a b : Int} : Op2 w n (binaryOp .Add) (.int a) (.int b) (.int (a + b)) := by
  intro h u v W i j A s Q E R L hQ
  obtain ⟨t, rfl⟩ := i.isInt; obtain ⟨t', rfl⟩ := j.isInt
  exact P.add_int (hQ _ _ _ (Grow.toks L) (.int _ _))
theorem op_sub {a b : Int} : Op2 w n (binaryOp .Sub) (.int a) (.int b) (.int (a - b)) := by
  intro h u v W i j A s Q E R L hQ
  obtain ⟨t, rfl⟩ := i.isInt; obtain ⟨t', rfl⟩ := j.isInt
  exact P.sub_int (hQ _ _ _ (Grow.toks L) (.int _ _))
theorem op_mul {a b : Int} (ha : Builtin.Int.intBits a ≤ 64) : Op2 w n (binaryOp .Mult) (.int a) (.int b) (.int (a * b)) := by
  intro h u v W i j A s Q E R L hQ
  obtain ⟨t, rfl⟩ := i.isInt; obtain ⟨t', rfl⟩ := j.isInt
  exact P.mul_int (hQ _ _ _ (Grow.toks L) (.int _ _)) (IntMulOk.of_left ha)
theorem op_mod {a b : Int} (hb : b ≠ 0) : Op2 w n (binaryOp .Mod) (.int a) (.int b) (.int (a.fmod b)) := by
  intro h u v W i j A s Q E R L hQ
  obtain ⟨t, rfl⟩ := i.isInt; obtain ⟨t', rfl⟩ := j.isInt
  exact mod_int' hb (hQ _ _ _ (Grow.toks L) (.int _ _))
theorem op_div {a b : Int} (hb : b ≠ 0) (hs : b.natAbs < 1073741824) : Op2 w n (binaryOp .FloorDiv) (.int a) (.int b) (.int (a.fdiv b)) := by
  intro h u v W i j A s Q E R L hQ
  obtain ⟨t, rfl⟩ := i.isInt; obtain ⟨t', rfl⟩ := j.isInt
  exact floordiv_int hb (hQ _ _ _ (Grow.toks L) (.int _ _)) (.inl (PyProof.noPylong_small hs))
theorem op_pow {a b : Int} (hb : 0 ≤ b) (hb2 : b ≤ 1000000) (ha : a.natAbs < 2 ^ 64) : Op2 w n (binaryOp .Pow) (.int a) (.int b) (.int (a ^ b.toNat)) := by
  intro h u v W i j A s Q E R L hQ
  obtain ⟨t, rfl⟩ := i.isInt; obtain ⟨t', rfl⟩ := j.isInt
  exact pow_int_small hb hb2 ha (hQ _ _ _ (Grow.toks L) (.int _ _))
theorem op_and {a b : Int} : Op2 w n (binaryOp .BitAnd) (.int a) (.int b) (.int (Builtin.bitAnd a b)) := by
  intro h u v W i j A s Q E R L hQ
  obtain ⟨t, rfl⟩ := i.isInt; obtain ⟨t', rfl⟩ := j.isInt
  exact and_int (hQ _ _ _ (Grow.toks L) (.int _ _))
theorem op_or {a b : Int} : Op2 w n (binaryOp .BitOr) (.int a) (.int b) (.int (Builtin.bitOr a b)) := by
  intro h u v W i j A s Q E R L hQ
  obtain ⟨t, rfl⟩ := i.isInt; obtain ⟨t', rfl⟩ := j.isInt
  exact or_int (hQ _ _ _ (Grow.toks L) (.int _ _))
theorem op_neg {a : Int} : Op1 w n (unaryOp .USub) (.int a) (.int (-a)) := by
  intro h u W i A s Q E R L hQ
  obtain ⟨t, rfl⟩ := i.isInt
  exact P.neg_int (hQ _ _ _ (Grow.toks L) (.int _ _))
theorem op_eq_int {a b : Int} : Op2 w n (compareOp .Eq) (.int a) (.int b) (.bool (a == b)) := by
  intro h u v W i j A s Q E R L hQ
  obtain ⟨t, rfl⟩ := i.isInt; obtain ⟨t', rfl⟩ := j.isInt
  exact P.eq_int (hQ _ _ _ (Grow.refl L) (.bool _))
theorem op_ne_int {a b : Int} : Op2 w n (compareOp .NotEq) (.int a) (.int b) (.bool (a != b)) := by
  intro h u v W i j A s Q E R L hQ
  obtain ⟨t, rfl⟩ := i.isInt; obtain ⟨t', rfl⟩ := j.isInt
  exact P.ne_int (hQ _ _ _ (Grow.refl L) (.bool _))
theorem op_le_int {a b : Int} : Op2 w n (compareOp .LtE) (.int a) (.int b) (.bool (decide (a ≤ b))) := by
  intro h u v W i j A s Q E R L hQ
  obtain ⟨t, rfl⟩ := i.isInt; obtain ⟨t', rfl⟩ := j.isInt
  exact P.le_int (hQ _ _ _ (Grow.refl L) (.bool _))

/-! ## strs -/
theorem str_ext {x y : Str} (h : x.cps.toList = y.cps.toList) : x = y := by
  cases x; cases y; simp only [Str.mk.injEq]; exact Array.toList_inj.mp h
theorem str_beq {x y : Str} : (x.cps.toList == y.cps.toList) = decide (x = y) := by
  by_cases hne : x = y
  · subst hne; simp
  · rw [decide_eq_false hne]
    exact beq_eq_false_iff_ne.mpr fun hl => hne (str_ext hl)
theorem str_empty {x : Str} (h : x.length = 0) : x = ⟨#[]⟩ := by cases x; simp only [Str.length] at h; simp only [Str.mk.injEq]; exact Array.eq_empty_of_size_eq_zero h
theorem str_cat (x y : Str) : x ++ y = ⟨x.cps ++ y.cps⟩ := rfl

theorem op_cat {x y : Str} (hl : (x ++ y).length ≤ 1000000) : Op2 w n (binaryOp .Add) (.str x) (.str y) (.str (x ++ y)) := by
  intro h u v W i j A s Q E R L hQ
  obtain ⟨t, rfl⟩ := i.isStr; obtain ⟨t', rfl⟩ := j.isStr
  refine P.add_str ?_
  by_cases h1 : (x.length == 0) = true
  · rw [if_pos h1]
    have e : x ++ y = y := by rw [str_empty (beq_iff_eq.mp h1), str_cat]; simp
    exact hQ _ _ _ (Grow.refl L) (by rw [e]; exact .str _ _)
  · rw [if_neg h1]
    by_cases h2 : (y.length == 0) = true
    · rw [if_pos h2]
      have e : x ++ y = x := by rw [str_empty (beq_iff_eq.mp h2), str_cat]; simp
      exact hQ _ _ _ (Grow.refl L) (by rw [e]; exact .str _ _)
    · rw [if_neg h2]
      exact ⟨sizeLine_big hl, hQ _ _ _ (Grow.toks L) (.str _ _)⟩
theorem op_icat {x y : Str} (hl : (x ++ y).length ≤ 1000000) : Op2 w n (inplaceOp .Add) (.str x) (.str y) (.str (x ++ y)) := by
  intro h u v W i j A s Q E R L hQ
  obtain ⟨t, rfl⟩ := i.isStr; obtain ⟨t', rfl⟩ := j.isStr
  refine P.iadd_str ?_
  by_cases h1 : (x.length == 0) = true
  · rw [if_pos h1]
    have e : x ++ y = y := by rw [str_empty (beq_iff_eq.mp h1), str_cat]; simp
    exact hQ _ _ _ (Grow.refl L) (by rw [e]; exact .str _ _)
  · rw [if_neg h1]
    by_cases h2 : (y.length == 0) = true
    · rw [if_pos h2]
      have e : x ++ y = x := by rw [str_empty (beq_iff_eq.mp h2), str_cat]; simp
      exact hQ _ _ _ (Grow.refl L) (by rw [e]; exact .str _ _)
    · rw [if_neg h2]
      exact ⟨sizeLine_big hl, hQ _ _ _ (Grow.toks L) (.str _ _)⟩
theorem op_eq_str {x y : Str} : Op2 w n (compareOp .Eq) (.str x) (.str y) (.bool (decide (x = y))) := by
  intro h u v W i j A s Q E R L hQ
  obtain ⟨t, rfl⟩ := i.isStr; obtain ⟨t', rfl⟩ := j.isStr
  exact P.eq_str (hQ _ _ _ (Grow.refl L) (by rw [str_beq]; exact .bool _))
theorem op_ne_str {x y : Str} : Op2 w n (compareOp .NotEq) (.str x) (.str y) (.bool (!decide (x = y))) := by
  intro h u v W i j A s Q E R L hQ
  obtain ⟨t, rfl⟩ := i.isStr; obtain ⟨t', rfl⟩ := j.isStr
  refine P.ne_str (hQ _ _ _ (Grow.refl L) ?_)
  show Is w h (.bool (!(x.cps.toList == y.cps.toList))) _
  rw [str_beq]; exact .bool _

/-! ## truth -/
theorem tr_bool {b : Bool} : Tr1 w n (.bool b) b := by
  intro h u W i A s Q E R L hQ
  rw [i.isBool]; exact wpAny_truthy_bool (hQ _ _ _ (Grow.refl L) rfl)
theorem tr_int {a : Int} : Tr1 w n (.int a) (a != 0) := by
  intro h u W i A s Q E R L hQ
  obtain ⟨t, rfl⟩ := i.isInt
  exact P.truthy_int (hQ _ _ _ (Grow.refl L) rfl)
theorem tr_str {x : Str} (hl : x.length ≤ 1000000) : Tr1 w n (.str x) (x.length != 0) := by
  intro h u W i A s Q E R L hQ
  obtain ⟨t, rfl⟩ := i.isStr
  refine P.truthy_str (by omega) (hQ _ _ _ (Grow.toks L) ?_)
  by_cases h0 : x.length = 0
  · simp [h0]
  · have h0' : ¬ ((x.length : Int) = 0) := by omega
    rw [show (x.length != 0) = true from by simpa using h0, show ((x.length : Int) != 0) = true from by simpa using h0']
theorem tr_list {xs : List PyData} (hl : xs.length ≤ 1000000) : Tr1 w n (.list xs) (!xs.isEmpty) := by
  intro h u W i A s Q E R L hQ
  obtain ⟨a, vs, rfl, hL, hi⟩ := i.isList
  have hlen : vs.size = xs.length := by have := hi.length; simpa using this
  obtain ⟨o, ho, hc, hn⟩ := hL
  refine wpAny_truthy_list (items := vs) ⟨o, L.1 _ _ ho, hc, hn⟩ (by rw [hlen]; omega) ?_
  have e : (!xs.isEmpty) = (!vs.isEmpty) := by
    rw [Array.isEmpty, hlen]
    cases xs <;> simp
  rw [← e]
  exact hQ _ _ _ (Grow.toks L) rfl
end
end Mine

namespace Mine
open PySem PySem.W PyProof.Rows

section
variable {w : World} {n : Nat} {env : Env} {ρ : Mine.Ctx}

/-! ## calls of what is built in -/
theorem Ev.builtin {f e : Expr} {es : List Expr} {pos : Pos} {id : String} {ds : List PyData} {d : PyData} (hf : Gl w n env ρ f (.builtin id)) (hs : Evs w n env ρ pos (e :: es) ds)
    (hc : ∀ h vs, Wd w h → IsAll w h vs ds → Run w n h (PySem.call (.builtin id) vs) (fun h v => Is w h v d))
    (he : eval (.Call f (e :: es) [] pos) env = (do callWith pos (← eval f env) [] (backTo pos (starEach (e :: es) env)) (backToKw pos (keywordEach [] env))) := by rfl)
    (hst : starEach (e :: es) env = (false, eval e env) :: starEach es env := by rfl) (hplain : (backTo pos (starEach es env)).any (·.1) = false := by rfl) : Ev w n env ρ (.Call f (e :: es) [] pos) d := by
  intro h F A s Q E R L hQ
  refine Call_ (hf h F A s _ E R L fun v s1 h1 g1 i1 => ?_) he
  subst i1
  exact callWith_builtin1 (hs h1 (F.le g1.le) A s1 _ E R g1.ok fun vs s2 h2 g2 i2 => hc h2 vs (F.wd.le (g1.le.trans g2.le)) i2 A s2 _ E R g2.ok fun v s3 h3 g3 i3 => hQ v s3 h3 ((g1.trans g2).trans g3) i3) hst hplain
theorem Ev.typeCall {f e : Expr} {es : List Expr} {pos : Pos} {T : String} {ds : List PyData} {P : Heap → Value → Prop} (hf : Gl w n env ρ f (.type T)) (hs : Evs w n env ρ pos (e :: es) ds)
    (hc : ∀ h vs, Wd w h → IsAll w h vs ds → Run w n h (PySem.call (.type T) vs) P)
    (he : eval (.Call f (e :: es) [] pos) env = (do callWith pos (← eval f env) [] (backTo pos (starEach (e :: es) env)) (backToKw pos (keywordEach [] env))) := by rfl)
    (hst : starEach (e :: es) env = (false, eval e env) :: starEach es env := by rfl) (hplain : (backTo pos (starEach es env)).any (·.1) = false := by rfl) {h : Heap} (F : Fm w env ρ h) : Run w n h (eval (.Call f (e :: es) [] pos) env) P := by
  intro A s Q E R L hQ
  refine Call_ (hf h F A s _ E R L fun v s1 h1 g1 i1 => ?_) he
  subst i1
  exact PyProof.Rows.callWith_type1 (hs h1 (F.le g1.le) A s1 _ E R g1.ok fun vs s2 h2 g2 i2 => hc h2 vs (F.wd.le (g1.le.trans g2.le)) i2 A s2 _ E R g2.ok fun v s3 h3 g3 i3 => hQ v s3 h3 ((g1.trans g2).trans g3) i3) hst hplain

theorem IsAll.one {h : Heap} {vs : List Value} {d : PyData} (i : IsAll w h vs [d]) : ∃ v, vs = [v] ∧ Is w h v d := by
  cases i with
  | cons a r => cases r; exact ⟨_, rfl, a⟩
theorem IsAll.two {h : Heap} {vs : List Value} {d e : PyData} (i : IsAll w h vs [d, e]) : ∃ v u, vs = [v, u] ∧ Is w h v d ∧ Is w h u e := by
  cases i with
  | cons a r => obtain ⟨u, rfl, b⟩ := IsAll.one r; exact ⟨_, _, rfl, a, b⟩

theorem Ev.len_str {f e : Expr} {pos : Pos} {x : Str} (hf : Gl w n env ρ f (.builtin "len")) (hs : Ev w n env ρ e (.str x)) (hl : x.length ≤ 1000000)
    (he : eval (.Call f [e] [] pos) env = (do callWith pos (← eval f env) [] (backTo pos (starEach [e] env)) (backToKw pos (keywordEach [] env))) := by rfl)
    (hst : starEach [e] env = [(false, eval e env)] := by rfl) : Ev w n env ρ (.Call f [e] [] pos) (.int x.length) := by
  refine Ev.builtin hf (Evs.cons hs Evs.nil hst) (fun h vs W i A s Q E R L hQ => ?_) he hst rfl
  obtain ⟨v, rfl, a⟩ := i.one
  obtain ⟨t, rfl⟩ := a.isStr
  exact P.len_str (by omega) (hQ _ _ _ (Grow.toks L) (.int _ _))
theorem Ev.len_list {f e : Expr} {pos : Pos} {xs : List PyData} (hf : Gl w n env ρ f (.builtin "len")) (hs : Ev w n env ρ e (.list xs)) (hl : xs.length ≤ 1000000)
    (he : eval (.Call f [e] [] pos) env = (do callWith pos (← eval f env) [] (backTo pos (starEach [e] env)) (backToKw pos (keywordEach [] env))) := by rfl)
    (hst : starEach [e] env = [(false, eval e env)] := by rfl) : Ev w n env ρ (.Call f [e] [] pos) (.int xs.length) := by
  refine Ev.builtin hf (Evs.cons hs Evs.nil hst) (fun h vs W i A s Q E R L hQ => ?_) he hst rfl
  obtain ⟨v, rfl, a⟩ := i.one
  obtain ⟨b, us, rfl, hL, hi⟩ := a.isList
  have hlen : us.size = xs.length := by have := hi.length; simpa using this
  obtain ⟨o, ho, hc, hn⟩ := hL
  exact PyProof.Rows.len_list (items := us) ⟨o, L.1 _ _ ho, hc, hn⟩ (by rw [hlen]; omega) (hQ _ _ _ (Grow.toks L) (by rw [hlen]; exact .int _ _))
theorem Ev.ord {f e : Expr} {pos : Pos} {c : Nat} (hf : Gl w n env ρ f (.builtin "ord")) (hs : Ev w n env ρ e (.str ⟨#[c]⟩))
    (he : eval (.Call f [e] [] pos) env = (do callWith pos (← eval f env) [] (backTo pos (starEach [e] env)) (backToKw pos (keywordEach [] env))) := by rfl)
    (hst : starEach [e] env = [(false, eval e env)] := by rfl) : Ev w n env ρ (.Call f [e] [] pos) (.int c) := by
  refine Ev.builtin hf (Evs.cons hs Evs.nil hst) (fun h vs W i A s Q E R L hQ => ?_) he hst rfl
  obtain ⟨v, rfl, a⟩ := i.one
  obtain ⟨t, rfl⟩ := a.isStr
  exact P.ord_of_char (hQ _ _ _ (Grow.toks L) (.int _ _))
theorem Ev.chr {f e : Expr} {pos : Pos} {c : Int} (hf : Gl w n env ρ f (.builtin "chr")) (hs : Ev w n env ρ e (.int c)) (h0 : 0 ≤ c) (h1 : c ≤ 0x10FFFF)
    (he : eval (.Call f [e] [] pos) env = (do callWith pos (← eval f env) [] (backTo pos (starEach [e] env)) (backToKw pos (keywordEach [] env))) := by rfl)
    (hst : starEach [e] env = [(false, eval e env)] := by rfl) : Ev w n env ρ (.Call f [e] [] pos) (.str ⟨#[c.toNat]⟩) := by
  refine Ev.builtin hf (Evs.cons hs Evs.nil hst) (fun h vs W i A s Q E R L hQ => ?_) he hst rfl
  obtain ⟨v, rfl, a⟩ := i.one
  obtain ⟨t, rfl⟩ := a.isInt
  exact P.chr_of_int (by simp; omega) (hQ _ _ _ (Grow.toks L) (.str _ _))
theorem Ev.int_of {f e : Expr} {pos : Pos} {c : Int} (hf : Gl w n env ρ f (.type "int")) (hs : Ev w n env ρ e (.int c))
    (he : eval (.Call f [e] [] pos) env = (do callWith pos (← eval f env) [] (backTo pos (starEach [e] env)) (backToKw pos (keywordEach [] env))) := by rfl)
    (hst : starEach [e] env = [(false, eval e env)] := by rfl) : Ev w n env ρ (.Call f [e] [] pos) (.int c) := by
  intro h F
  refine Ev.typeCall hf (Evs.cons hs Evs.nil hst) (fun h vs W i A s Q E R L hQ => ?_) he hst rfl F
  obtain ⟨v, rfl, a⟩ := i.one
  obtain ⟨t, rfl⟩ := a.isInt
  exact call_int_int (hQ _ _ _ (Grow.refl L) (.int _ _))

/-- isinstance(x, str) -/
def isStrB : PyData → Bool
  | .str _ => true
  | _ => false
theorem Ev.isinst {f e t : Expr} {pos : Pos} {d : PyData} {b : Bool} (hf : Gl w n env ρ f (.builtin "isinstance")) (hs : Ev w n env ρ e d) (ht : Gl w n env ρ t (.type "str"))
    (hd : (∃ x, d = .str x) ∧ b = true ∨ (∃ i, d = .int i) ∧ b = false)
    (he : eval (.Call f [e, t] [] pos) env = (do callWith pos (← eval f env) [] (backTo pos (starEach [e, t] env)) (backToKw pos (keywordEach [] env))) := by rfl)
    (hst : starEach [e, t] env = (false, eval e env) :: starEach [t] env := by rfl) (hst2 : starEach [t] env = [(false, eval t env)] := by rfl) : Ev w n env ρ (.Call f [e, t] [] pos) (.bool b) := by
  intro h F A s Q E R L hQ
  refine Call_ (hf h F A s _ E R L fun v s1 h1 g1 i1 => ?_) he
  subst i1
  refine callWith_builtin1 (args_cons (hs h1 (F.le g1.le) A s1 _ E R g1.ok fun v s2 h2 g2 i2 => args_cons (ht h2 (F.le (g1.le.trans g2.le)) A s2 _ E R g2.ok fun u s3 h3 g3 i3 => args_nil ?_) hst2) hst) hst (by rw [hst2]; rfl)
  subst i3
  rcases hd with ⟨⟨x, rfl⟩, rfl⟩ | ⟨⟨i, rfl⟩, rfl⟩
  · obtain ⟨tk, rfl⟩ := i2.isStr
    exact IsiPair.str_str (hQ _ _ h3 ((g1.trans g2).trans g3) (.bool _))
  · obtain ⟨tk, rfl⟩ := i2.isInt
    exact IsiPair.int_str (hQ _ _ h3 (((g1.trans g2).trans g3).trans (Grow.toks g3.ok)) (.bool _))

/-- a <= b <= c, of ints -/
theorem Ev.chain {a b c : Expr} {pos : Pos} {x y z : Int} (ha : Ev w n env ρ a (.int x)) (hb : Ev w n env ρ b (.int y)) (hc : Ev w n env ρ c (.int z))
    (hm : lastMarks [.LtE, .LtE] [b, c] = false := by with_unfolding_all rfl) : Ev w n env ρ (.Compare a [.LtE, .LtE] [b, c] pos) (.bool (decide (x ≤ y) && decide (y ≤ z))) := by
  intro h F A s Q E R L hQ
  refine Compare_chain (ha h F A s _ E R L fun u s1 h1 g1 i1 => chain_link (hb h1 (F.le g1.le) A s1 _ E R g1.ok fun v s2 h2 g2 i2 => ?_)) hm
  obtain ⟨t, rfl⟩ := i1.isInt; obtain ⟨t', rfl⟩ := i2.isInt
  refine P.le_int (wpAny_truthy_bool ?_)
  cases hxy : decide (x ≤ y) with
  | false => simpa [hxy] using hQ _ _ _ (g1.trans g2) (Is.bool _)
  | true =>
    simp only [if_true]
    refine chain_last (hc h2 (F.le (g1.le.trans g2.le)) A s2 _ E R g2.ok fun r s3 h3 g3 i3 => ?_)
    obtain ⟨t2, rfl⟩ := i3.isInt
    exact P.le_int (by simpa [hxy] using hQ _ _ _ ((g1.trans g2).trans g3) (Is.bool _))

/-! ## places -/
theorem Ev.sub {value slice : Expr} {pos : Pos} {d1 d2 d : PyData} (hv : Ev w n env ρ value d1) (hi : Ev w n env ρ slice d2)
    (ho : ∀ h a b, Wd w h → Is w h a d1 → Is w h b d2 → Run w n h (subscriptTail value slice a b) (fun h v => Is w h v d)) : Ev w n env ρ (.Subscript value slice pos) d :=
  fun h F A s _ E R L hQ => Subscript_ (hv h F A s _ E R L fun a s1 h1 g1 i1 => hi h1 (F.le g1.le) A s1 _ E R g1.ok fun b s2 h2 g2 i2 =>
    ho h2 a b (F.wd.le (g1.le.trans g2.le)) (i1.le g2.le) i2 A s2 _ E R g2.ok fun v s3 h3 g3 i3 => hQ v s3 h3 ((g1.trans g2).trans g3) i3)

theorem getAt {h : Heap} {vs : Array Value} {xs : List PyData} {i : Nat} {d : PyData} (hi : IsAll w h vs.toList xs) (e : xs[i]? = some d) : ∃ v, vs[i]? = some v ∧ Is w h v d := by
  have hl : i < xs.length := by
    rcases Nat.lt_or_ge i xs.length with q | q
    · exact q
    · rw [List.getElem?_eq_none q] at e; cases e
  have hv : i < vs.toList.length := by rw [hi.length]; exact hl
  exact ⟨vs.toList[i], by simp at hv; simp [hv], hi.get (i := i) (by simp) e⟩

theorem Ev.item_list {value slice : Expr} {pos : Pos} {xs : List PyData} {k : Int} {d : PyData} (hv : Ev w n env ρ value (.list xs)) (hi : Ev w n env ρ slice (.int k)) (h0 : 0 ≤ k) (h1 : k < 1000000) (hx : xs[k.toNat]? = some d)
    (hs : ∀ o i, subscripted slice false o i = operate [o, i] (getItem o i) := by intro _ _; with_unfolding_all rfl) : Ev w n env ρ (.Subscript value slice pos) d := by
  refine Ev.sub hv hi fun h a b W i j A s Q E R L hQ => ?_
  obtain ⟨l, vs, rfl, hL, hall⟩ := i.isList
  obtain ⟨t, rfl⟩ := j.isInt
  obtain ⟨v, hv, iv⟩ := getAt hall hx
  obtain ⟨o, ho, hc, hn⟩ := hL
  have hL' : s.heap.IsList l vs := ⟨o, L.1 _ _ ho, hc, hn⟩
  exact tail_any hL'.typeIs slot_list_getitem.lookup (wpAny_getItem_list hL' h0 (by omega) hv (hQ _ _ _ (Grow.refl L) iv)) (hs _ _)
theorem Ev.item_list_neg {value slice : Expr} {pos : Pos} {xs : List PyData} {k : Int} {d : PyData} (hv : Ev w n env ρ value (.list xs)) (hi : Ev w n env ρ slice (.int k)) (h0 : k < 0) (h1 : -(xs.length : Int) ≤ k) (h2 : -1000000 < k) (hx : xs[(k + xs.length).toNat]? = some d)
    (hs : ∀ o i, subscripted slice false o i = operate [o, i] (getItem o i) := by intro _ _; with_unfolding_all rfl) : Ev w n env ρ (.Subscript value slice pos) d := by
  refine Ev.sub hv hi fun h a b W i j A s Q E R L hQ => ?_
  obtain ⟨l, vs, rfl, hL, hall⟩ := i.isList
  obtain ⟨t, rfl⟩ := j.isInt
  have hlen : vs.size = xs.length := by have := hall.length; simpa using this
  obtain ⟨v, hv, iv⟩ := getAt hall hx
  obtain ⟨o, ho, hc, hn⟩ := hL
  have hL' : s.heap.IsList l vs := ⟨o, L.1 _ _ ho, hc, hn⟩
  exact tail_any hL'.typeIs slot_list_getitem.lookup (wpAny_getItem_list_neg hL' h0 (by rw [hlen]; exact h1) (by omega) (by rw [hlen]; exact hv) (hQ _ _ _ (Grow.refl L) iv)) (hs _ _)
theorem Ev.item_tuple {value slice : Expr} {pos : Pos} {xs : List PyData} {k : Int} {d : PyData} (hv : Ev w n env ρ value (.tuple xs)) (hi : Ev w n env ρ slice (.int k)) (h0 : 0 ≤ k) (h1 : k < xs.length) (h2 : xs.length < 1000000) (hx : xs[k.toNat]? = some d)
    (hs : ∀ o i, subscripted slice false o i = operate [o, i] (getItem o i) := by intro _ _; with_unfolding_all rfl) : Ev w n env ρ (.Subscript value slice pos) d := by
  refine Ev.sub hv hi fun h a b W i j A s Q E R L hQ => ?_
  obtain ⟨l, vs, rfl, hL, hall⟩ := i.isTuple
  obtain ⟨t, rfl⟩ := j.isInt
  have hlen : vs.size = xs.length := by have := hall.length; simpa using this
  obtain ⟨v, hv, iv⟩ := getAt hall hx
  obtain ⟨o, ho, hc, hn⟩ := hL
  have hL' : IsTup s.heap l vs := ⟨o, L.1 _ _ ho, hc, hn⟩
  refine tail_any hL'.typeIs slot_tuple_getitem.lookup (PyProof.Rows.getItem_tuple (j := k.toNat) hL' (by omega) (by omega) ?_ hv (hQ _ _ _ (Grow.refl L) iv)) (hs _ _)
  unfold seqIndex?
  simp; omega
theorem Ev.item_str {value slice : Expr} {pos : Pos} {x : Str} {k : Int} {c : Nat} (hv : Ev w n env ρ value (.str x)) (hi : Ev w n env ρ slice (.int k)) (h1 : -1000000 < k) (h2 : k < 1000000) (hx : (seqIndex? k x.length).bind (x.cps[·]?) = some c)
    (hs : ∀ o i, subscripted slice false o i = operate [o, i] (getItem o i) := by intro _ _; with_unfolding_all rfl) : Ev w n env ρ (.Subscript value slice pos) (.str ⟨#[c]⟩) := by
  refine Ev.sub hv hi fun h a b W i j A s Q E R L hQ => ?_
  obtain ⟨t, rfl⟩ := i.isStr
  obtain ⟨t', rfl⟩ := j.isInt
  exact tail_any (typeIs_str s x t) F.slot_str_getitem.lookup (P.getItem_str (by simp; omega) hx (hQ _ _ _ (Grow.toks L) (.str _ _))) (hs _ _)
end
end Mine

namespace Mine
open PySem PySem.W PyProof.Rows

/-! ## a heap less some places -/
open Classical in
noncomputable def cut (p : Addr → Prop) (h : Heap) : Heap := ⟨h.objs.mapIdx fun i o => if p i then { o with data := .freed } else o, h.life⟩
open Classical in
theorem cut_get (p : Addr → Prop) (h : Heap) (b : Addr) : (cut p h).get? b = if p b then none else h.get? b := by
  have e : (cut p h).objs[b]? = h.objs[b]?.map fun o => if p b then { o with data := .freed } else o := by
    simp [cut]
  unfold Heap.get?
  rw [e]
  cases hb : h.objs[b]? with
  | none => simp
  | some o =>
    simp only [Option.map_some]
    by_cases hc : p b
    · simp [hc]
    · simp [hc]
theorem cut_some {p : Addr → Prop} {h : Heap} {b : Addr} {o : Obj} (e : h.get? b = some o) (hb : ¬ p b) : (cut p h).get? b = some o := by rw [cut_get, if_neg hb]; exact e
theorem cut_none {p : Addr → Prop} {h : Heap} {b : Addr} (hb : p b) : (cut p h).get? b = none := by rw [cut_get, if_pos hb]
theorem cut_of {p : Addr → Prop} {h : Heap} {b : Addr} {o : Obj} (e : (cut p h).get? b = some o) : ¬ p b ∧ h.get? b = some o := by
  rw [cut_get] at e
  split at e
  · cases e
  · exact ⟨by assumption, e⟩
theorem cut_sub {p : Addr → Prop} {h : Heap} : Le (cut p h) h := fun _ _ e => (cut_of e).2
theorem le_cut {p : Addr → Prop} {h h' : Heap} (l : Le h h') (hp : ∀ b, p b → h.get? b = none) : Le h (cut p h') := fun b o e => cut_some (l _ _ e) fun q => by rw [hp b q] at e; cases e
theorem cut_le {p : Addr → Prop} {h h' : Heap} (l : ∀ b o, ¬ p b → h.get? b = some o → h'.get? b = some o) : Le (cut p h) (cut p h') := fun b o e => let ⟨q, e'⟩ := cut_of e; cut_some (l b o q e') q

mutual
theorem Is.cut {w : World} {h : Heap} {p : Addr → Prop} (hp : ∀ b o, p b → h.get? b = some o → ∀ vs n, o.data ≠ .seq vs n) : ∀ {v : Value} {d : PyData}, flat d = true → Is w h v d → Is w (Mine.cut p h) v d
  | _, _, _, .none => .none
  | _, _, _, .bool b => .bool b
  | _, _, _, .int i t => .int i t
  | _, _, _, .str x t => .str x t
  | _, _, f, .list (a := a) h1 h2 h3 h4 => .list (cut_some h1 fun q => hp _ _ q h1 _ _ h3) h2 h3 (IsAll.cut hp (by simpa [flat] using f) h4)
  | _, _, f, .tuple (a := a) h1 h2 h3 h4 => .tuple (cut_some h1 fun q => hp _ _ q h1 _ _ h3) h2 h3 (IsAll.cut hp (by simpa [flat] using f) h4)
  | _, _, f, .dict h1 h2 => by simp [flat] at f
theorem IsAll.cut {w : World} {h : Heap} {p : Addr → Prop} (hp : ∀ b o, p b → h.get? b = some o → ∀ vs n, o.data ≠ .seq vs n) : ∀ {vs : List Value} {ds : List PyData}, flats ds = true → IsAll w h vs ds → IsAll w (Mine.cut p h) vs ds
  | _, _, _, .nil => .nil
  | _, _, f, .cons h1 h2 => by
    simp only [flats, Bool.and_eq_true] at f
    exact .cons (Is.cut hp f.1 h1) (IsAll.cut hp f.2 h2)
end

/-! ## what can be iterated -/
def ownedIters : List String := ["enumerate", "zip", "dict_itemiterator", "dict_reverseitemiterator", "odict_iterator", "itertools.zip_longest", "itertools.pairwise"]
structure It (w : World) (A : Around) (xs : List PyData) (I : Addr) (fp : List Addr) (P : Nat → Value → Prop) (St : Nat → Heap → Prop) : Prop where
  walks : Walks PP w A I fp [I] xs.length P St
  occ : ∀ i h, St i h → ∃ o n, h.get? I = some o ∧ o.cls = .type n ∧ ownedIters.contains n = false

def Src (w : World) (h : Heap) (v : Value) (xs : List PyData) : Prop :=
  ∀ (A : Around) (s : Shared) (Q : Value → Shared → Prop) (E : Value → Shared → Prop), Room 0 A → Ok h s →
    (∀ I fp P St s', It w A xs I fp P St → St 0 s'.heap → Keeps s s' → 1 ≤ s'.toks → (∀ b ∈ fp, ∃ o, s'.heap.get? b = some o) → s.heap.get? I = none →
      (∀ b ∈ fp, b ≠ I → ∃ o, h.get? b = some o) → (∀ i v x, P i v → xs[i]? = some x → Is w h v x) → Q (.ref I) s') → wpAny (model PP w) A (pyIter v) Q E s
theorem Src.le {w : World} {h h' : Heap} {v : Value} {xs : List PyData} (x : Src w h v xs) (l : Le h h') : Src w h' v xs :=
  fun A s Q E R L hQ => x A s Q E R ⟨l.trans L.1, L.2⟩ fun I fp P St s' it st k p f fr ff i => hQ I fp P St s' it st k p f fr (fun b hb hn => let ⟨o, e⟩ := ff b hb hn; ⟨o, l _ _ e⟩) fun j v y hp hy => (i j v y hp hy).le l

theorem push_keeps {s : Shared} {o : Obj} : Keeps s { s with heap := s.heap.push o } := ⟨_, s.toks, rfl, fun _ _ e => Heap.get?_push_of_some _ e⟩
theorem lt_ne {h : Heap} {b : Addr} {o : Obj} (e : h.get? b = some o) : b ≠ h.objs.size := Nat.ne_of_lt (Heap.lt_size e)

theorem src_list {w : World} {h : Heap} {v : Value} {xs : List PyData} (i : Is w h v (.list xs)) : Src w h v xs := by
  intro A s Q E R L hQ
  obtain ⟨a, vs, rfl, hL, hall⟩ := i.isList
  have hlen : vs.size = xs.length := by have := hall.length; simpa using this
  obtain ⟨o, ho, hc, hn⟩ := hL
  have hL' : s.heap.IsList a vs := ⟨o, L.1 _ _ ho, hc, hn⟩
  have ho' := L.1 _ _ ho
  refine wpAny_pyIter_list hL' (hQ s.heap.objs.size [s.heap.objs.size, a] _ _ _ ⟨hlen ▸ Walks.list R.handled s.heap.objs.size a (lt_ne ho') vs, ?_⟩ ⟨⟨_, Heap.get?_push_size _ rfl, rfl, rfl⟩, ⟨o, Heap.get?_push_of_some _ ho', hc, hn⟩⟩ push_keeps L.2 ?_ fresh_none ?_ ?_)
  · rintro i h ⟨⟨o, ho, hc, _⟩, _⟩; exact ⟨o, _, ho, hc, by decide⟩
  · intro b hb
    simp at hb
    rcases hb with rfl | rfl
    · exact ⟨_, Heap.get?_push_size _ rfl⟩
    · exact ⟨_, Heap.get?_push_of_some _ ho'⟩
  · intro b hb hne
    simp at hb
    rcases hb with rfl | rfl
    · exact absurd rfl hne
    · exact ⟨_, ho⟩
  · intro j v x hp hx; exact hall.get (i := j) (by simpa using hp) hx
theorem src_tuple {w : World} {h : Heap} {v : Value} {xs : List PyData} (i : Is w h v (.tuple xs)) : Src w h v xs := by
  intro A s Q E R L hQ
  obtain ⟨a, vs, rfl, hL, hall⟩ := i.isTuple
  have hlen : vs.size = xs.length := by have := hall.length; simpa using this
  obtain ⟨o, ho, hc, hn⟩ := hL
  have hL' : s.heap.IsTuple a vs := ⟨o, L.1 _ _ ho, hc, hn⟩
  have ho' := L.1 _ _ ho
  refine wpAny_pyIter_tuple hL' (hQ s.heap.objs.size [s.heap.objs.size, a] _ _ _ ⟨hlen ▸ Walks.tuple R.handled s.heap.objs.size a (lt_ne ho') vs, ?_⟩ ⟨⟨_, Heap.get?_push_size _ rfl, rfl, rfl⟩, ⟨o, Heap.get?_push_of_some _ ho', hc, hn⟩⟩ push_keeps L.2 ?_ fresh_none ?_ ?_)
  · rintro i h ⟨⟨o, ho, hc, _⟩, _⟩; exact ⟨o, _, ho, hc, by decide⟩
  · intro b hb
    simp at hb
    rcases hb with rfl | rfl
    · exact ⟨_, Heap.get?_push_size _ rfl⟩
    · exact ⟨_, Heap.get?_push_of_some _ ho'⟩
  · intro b hb hne
    simp at hb
    rcases hb with rfl | rfl
    · exact absurd rfl hne
    · exact ⟨_, ho⟩
  · intro j v x hp hx; exact hall.get (i := j) (by simpa using hp) hx
theorem src_dict {w : World} {h : Heap} {v : Value} {kvs : List (PyData × PyData)} (i : Is w h v (.dict kvs)) : Src w h v (kvs.map (·.1)) := by
  intro A s Q E R L hQ
  cases i with
  | @dict a ep kv hm hd =>
    have hd' := hd.keep L.1
    have hlen : (kv.map fun p => (p.1, Value.str p.2.1 p.2.2)).length = ((kv.map fun p => (PyData.str p.1, PyData.str p.2.1)).map (·.1)).length := by simp
    obtain ⟨o, es, ho, hrest⟩ := id hd
    have ho' := L.1 _ _ ho
    have W := Walks.dictKeys (knd := strKind PP w) R.handled s.heap.objs.size a (lt_ne ho') (kv.map fun p => (p.1, Value.str p.2.1 p.2.2)) ep
    generalize hN : (kv.map fun p => (p.1, Value.str p.2.1 p.2.2)).length = N at W hlen
    subst hlen
    refine wpAny_pyIter_dict hm hd' (hQ s.heap.objs.size [s.heap.objs.size, a] _ _ _ ⟨W, ?_⟩ ⟨⟨_, Heap.get?_push_size _ rfl, rfl, by rw [hN]; rfl⟩, hd'.push _⟩ push_keeps L.2 ?_ fresh_none ?_ ?_)
    · rintro i h ⟨⟨o, ho, hc, _⟩, _⟩; exact ⟨o, _, ho, hc, by decide⟩
    · intro b hb
      simp at hb
      rcases hb with rfl | rfl
      · exact ⟨_, Heap.get?_push_size _ rfl⟩
      · exact ⟨_, Heap.get?_push_of_some _ ho'⟩
    · intro b hb hne
      simp at hb
      rcases hb with rfl | rfl
      · exact absurd rfl hne
      · exact ⟨_, ho⟩
    · rintro j v x ⟨k, y, hk, hv⟩ hx
      simp only [List.map_map, List.getElem?_map, Option.map_eq_some_iff] at hk hx
      obtain ⟨p, hp, e⟩ := hk
      obtain ⟨p', hp', e'⟩ := hx
      rw [hp] at hp'; cases hp'
      cases e
      subst e'
      obtain ⟨t, rfl⟩ := Value.isStrOf_shape hv
      exact .str _ _
end Mine

namespace Mine
open PySem PySem.W PyProof.Rows

/-- kept but where p -/
def KB (p : Addr → Prop) (s s' : Shared) : Prop := ∃ h' tk, s' = { s with heap := h', toks := tk } ∧ ∀ b o, ¬ p b → s.heap.get? b = some o → h'.get? b = some o
theorem KB.refl (p : Addr → Prop) (s : Shared) : KB p s s := ⟨s.heap, s.toks, rfl, fun _ _ _ e => e⟩
theorem KB.trans {p : Addr → Prop} {s s' s'' : Shared} (a : KB p s s') (b : KB p s' s'') : KB p s s'' := by
  obtain ⟨h1, t1, rfl, k1⟩ := a
  obtain ⟨h2, t2, rfl, k2⟩ := b
  exact ⟨h2, t2, rfl, fun x o n e => k2 x o n (k1 x o n e)⟩
theorem KB.mono {p q : Addr → Prop} {s s' : Shared} (a : KB p s s') (h : ∀ b, p b → q b) : KB q s s' := by
  obtain ⟨h1, t1, rfl, k1⟩ := a
  exact ⟨h1, t1, rfl, fun x o n e => k1 x o (fun y => n (h _ y)) e⟩
theorem KB.of_keeps {p : Addr → Prop} {s s' : Shared} (k : Keeps s s') : KB p s s' := by
  obtain ⟨h1, t1, rfl, k1⟩ := k
  exact ⟨h1, t1, rfl, fun x o _ e => k1 x o e⟩
theorem KB.at {p : Addr → Prop} {s s' : Shared} (k : KB p s s') {b : Addr} {o : Obj} (n : ¬ p b) (e : s.heap.get? b = some o) : s'.heap.get? b = some o := by
  obtain ⟨h1, t1, rfl, k1⟩ := k
  exact k1 b o n e

/-- the state of a comprehension: its names in C (cells cs), its list D; Hid: what no expression sees -/
structure Lp (w : World) (Hid : Addr → Prop) (hb : Heap) (D : Addr) (cs : List Addr) (cenv : Env) (ρt : Mine.Ctx) (ds : List PyData) (s : Shared) : Prop where
  ex : ∃ ha m ys, Le hb ha ∧ Le ha s.heap ∧ (∀ b, Hid b ∨ b = cenv.locals ∨ b ∈ cs → ha.get? b = none) ∧ s.heap.Ns cenv.locals m ∧ s.heap.PlainList D ys ∧ IsAll w ha ys.toList ds ∧
    ∀ y d, ρt.lookup y = some d → (cenv.kindOf y = some .local ∧ ∃ v, m y = some v ∧ Is w ha v d) ∨
      (cenv.kindOf y = some .cell ∧ (y == ("__classdict__" : Str)) = false ∧ ∃ c v, cenv.cells.lookup y = some c ∧ c ∈ cs ∧ s.heap.IsCell c (some v) ∧ Is w ha v d)
  cells : ∀ c ∈ cs, ∃ u, s.heap.IsCell c u
  occ : ∀ b, Hid b → ∃ o, s.heap.get? b = some o
  hD : Hid D
  hC : ¬ Hid cenv.locals
  hcs : ∀ c ∈ cs, ¬ Hid c
  pos : 1 ≤ s.toks

/-- the names that a comprehension takes from around -/
structure Cb (w : World) (hb : Heap) (cenv : Env) (ρb : Mine.Ctx) : Prop where
  wd : Wd w hb
  kind : cenv.scope.kind = .function
  glob : cenv.globals = mainGlobals
  blt : cenv.builtins = builtinsNs
  nm : ∀ x d, ρb.lookup x = some d → (cenv.kindOf x = some .cell ∨ cenv.kindOf x = some .free) ∧ (x == ("__classdict__" : Str)) = false ∧ ∃ c v, cenv.cells.lookup x = some c ∧ hb.IsCell c (some v) ∧ Is w hb v d
theorem Cb.le {w : World} {hb hb' : Heap} {cenv : Env} {ρb : Mine.Ctx} (x : Cb w hb cenv ρb) (l : Le hb hb') : Cb w hb' cenv ρb :=
  ⟨x.wd.le l, x.kind, x.glob, x.blt, fun y d e => let ⟨a, q, c, v, e', i, j⟩ := x.nm y d e; ⟨a, q, c, v, e', i.keeps l, j.le l⟩⟩

section
variable {w : World} {Hid : Addr → Prop} {hb : Heap} {D : Addr} {cs : List Addr} {cenv : Env} {ρt ρb : Mine.Ctx} {ds : List PyData} {s : Shared}

theorem lookup_append {α : Type} (x : Str) : ∀ (a b : List (Str × α)), (a ++ b).lookup x = (a.lookup x).or (b.lookup x)
  | [], b => rfl
  | (y, v) :: a, b => by
    simp only [List.cons_append, List.lookup_cons]
    split
    · rfl
    · exact lookup_append x a b

theorem Lp.fm (P : Lp w Hid hb D cs cenv ρt ds s) (B : Cb w hb cenv ρb) : Fm w cenv (ρt ++ ρb) (cut Hid s.heap) := by
  obtain ⟨ha, m, ys, l1, l2, hn, ns, pl, all, nm⟩ := P.ex
  have la : Le ha (cut Hid s.heap) := le_cut l2 fun b q => hn b (.inl q)
  refine ⟨B.wd.le (l1.trans la), B.kind, B.glob, B.blt, fun x d e => ?_⟩
  rw [lookup_append] at e
  cases e1 : ρt.lookup x with
  | some d' =>
    rw [e1] at e
    cases e
    rcases nm x d e1 with ⟨k, v, hm, i⟩ | ⟨k, q, c, v, hc, hcs, ic, i⟩
    · obtain ⟨o, es, ep, ho, r⟩ := ns
      exact .inl ⟨k, m, v, ⟨o, es, ep, cut_some ho P.hC, r⟩, hm, i.le la⟩
    · obtain ⟨o, ho, hd⟩ := ic
      exact .inr ⟨.inl k, q, c, v, hc, ⟨o, cut_some ho (P.hcs c hcs), hd⟩, i.le la⟩
  | none =>
    rw [e1] at e
    obtain ⟨k, q, c, v, hc, ic, i⟩ := B.nm x d e
    exact .inr ⟨k, q, c, v, hc, ic.keeps (l1.trans la), i.le (l1.trans la)⟩

theorem Lp.ok (P : Lp w Hid hb D cs cenv ρt ds s) : Ok (cut Hid s.heap) s := ⟨cut_sub, P.pos⟩

/-- behind an expression -/
theorem Lp.grow {s' : Shared} {h' : Heap} (P : Lp w Hid hb D cs cenv ρt ds s) (g : Grow s (cut Hid s.heap) s' h') : Lp w Hid hb D cs cenv ρt ds s' ∧ Le h' (cut Hid s'.heap) := by
  have k := Keeps.le g.keeps
  refine ⟨⟨?_, fun c hc => let ⟨u, x⟩ := P.cells c hc; ⟨u, x.keeps k⟩, fun b q => let ⟨o, e⟩ := P.occ b q; ⟨o, k _ _ e⟩, P.hD, P.hC, P.hcs, g.pos⟩, ?_⟩
  · obtain ⟨ha, m, ys, l1, l2, hn, ns, pl, all, nm⟩ := P.ex
    refine ⟨ha, m, ys, l1, l2.trans k, hn, ns.keeps k, pl.at fun o e => k _ _ e, all, fun y d e => ?_⟩
    rcases nm y d e with x | ⟨k', q, c, v, hc, hcs, ic, i⟩
    · exact .inl x
    · exact .inr ⟨k', q, c, v, hc, hcs, ic.keeps k, i⟩
  · refine le_cut g.sub fun b q => ?_
    obtain ⟨o, e⟩ := P.occ b q
    exact g.hid b o e (cut_none q)

theorem Lp.eval {n : Nat} {t : Sem Value} {d : PyData} {A : Around} {Q : Value → Shared → Prop} {E : Value → Shared → Prop} (P : Lp w Hid hb D cs cenv ρt ds s) (R : Room n A)
    (r : Run w n (cut Hid s.heap) t fun h v => Is w h v d) (hQ : ∀ v s', Keeps s s' → Lp w Hid hb D cs cenv ρt ds s' → Is w (cut Hid s'.heap) v d → Q v s') : wpAny (model PP w) A t Q E s :=
  r A s Q E R P.ok fun v s' _ g i => hQ v s' g.keeps (P.grow g).1 (i.le (P.grow g).2)

/-- a step that turns the iterators alone -/
theorem Lp.turned {s' : Shared} {I : Addr} (P : Lp w Hid hb D cs cenv ρt ds s) (hI : Hid I) (hID : I ≠ D) (k : KB (fun b => b = I) s s') (ho : ∃ o, s'.heap.get? I = some o) (hp : 1 ≤ s'.toks) : Lp w Hid hb D cs cenv ρt ds s' := by
  have hC : cenv.locals ≠ I := fun q => P.hC (q ▸ hI)
  refine ⟨?_, fun c hc => ?_, fun b q => ?_, P.hD, P.hC, P.hcs, hp⟩
  · obtain ⟨ha, m, ys, l1, l2, hn, ns, pl, all, nm⟩ := P.ex
    refine ⟨ha, m, ys, l1, fun b o e => k.at (fun q => ?_) (l2 _ _ e), hn, ns.at' fun o e => k.at hC e, pl.at fun o e => k.at (Ne.symm hID) e, all, fun y d e => ?_⟩
    · rw [q, hn I (.inl hI)] at e; cases e
    · rcases nm y d e with x | ⟨k', q, c, v, hc, hcs, ⟨o, ho, hd⟩, i⟩
      · exact .inl x
      · exact .inr ⟨k', q, c, v, hc, hcs, ⟨o, k.at (fun q => P.hcs c hcs (q ▸ hI)) ho, hd⟩, i⟩
  · obtain ⟨u, o, ho, hd⟩ := P.cells c hc
    exact ⟨u, o, k.at (fun q => P.hcs c hc (q ▸ hI)) ho, hd⟩
  · by_cases hb : b = I
    · rw [hb]; exact ho
    · obtain ⟨o, e⟩ := P.occ b q
      exact ⟨o, k.at hb e⟩

/-- a value is appended -/
theorem Lp.append {v : Value} {d : PyData} {A : Around} {Q : Value → Shared → Prop} {E : Value → Shared → Prop} (P : Lp w Hid hb D cs cenv ρt ds s) (i : Is w (cut Hid s.heap) v d) (hf : flat d = true) (hsz : ds.length ≤ 1000000)
    (hQ : ∀ s', KB (fun b => b = D) s s' → Lp w Hid hb D cs cenv ρt (ds ++ [d]) s' → Q .none s') : wpAny (model PP w) A (call (.builtin "list.append") [.ref D, v]) Q E s := by
  obtain ⟨ha, m, ys, l1, l2, hn, ns, pl, all, nm⟩ := P.ex
  have hys : ys.size = ds.length := by have := all.length; simpa using this
  refine wpAny_list_append_plain pl (fun h' pl' sb => ?_) (by rw [hys]; exact sizeLine_big hsz)
  have kb : KB (fun b => b = D) s { s with heap := h' } := ⟨h', s.toks, rfl, fun b o n e => (sb.2 b n).trans e⟩
  have hDC : cenv.locals ≠ D := fun q => P.hC (q ▸ P.hD)
  let own : Addr → Prop := fun b => b = cenv.locals ∨ b ∈ cs
  have hown : ∀ b o, own b → (cut Hid s.heap).get? b = some o → ∀ vs n, o.data ≠ .seq vs n := by
    intro b o q e
    have e' := (cut_of e).2
    rcases q with q | q
    · exact ns_data ns o (q ▸ e')
    · obtain ⟨u, y⟩ := P.cells b q
      exact (cell_data y o e').1
  have hle : Le ha (cut own (cut Hid s.heap)) := le_cut (le_cut l2 fun b q => hn b (.inl q)) fun b q => hn b (.inr q)
  refine hQ _ kb ⟨⟨cut own (cut Hid s.heap), m, ys.push v, l1.trans hle, fun b o e => ?_, fun b q => ?_, ns.at' fun o e => kb.at hDC e, pl', ?_, fun y d' e => ?_⟩, fun c hc => ?_, fun b q => ?_, P.hD, P.hC, P.hcs, P.pos⟩
  · obtain ⟨n1, e1⟩ := cut_of e
    obtain ⟨n2, e2⟩ := cut_of e1
    exact kb.at (fun q => n2 (q ▸ P.hD)) e2
  · rcases q with q | q
    · cases e : (cut own (cut Hid s.heap)).get? b with
      | none => rfl
      | some o => exact absurd q (cut_of (cut_of e).2).1
    · exact cut_none q
  · rw [Array.toList_push]
    exact (all.le hle).snoc (i.cut hown hf)
  · rcases nm y d' e with ⟨k, u, hu, iu⟩ | ⟨k', q, c, u, hc, hcs, ⟨o, ho, hd⟩, iu⟩
    · exact .inl ⟨k, u, hu, iu.le hle⟩
    · exact .inr ⟨k', q, c, u, hc, hcs, ⟨o, kb.at (fun q => P.hcs c hcs (q ▸ P.hD)) ho, hd⟩, iu.le hle⟩
  · obtain ⟨u, o, ho, hd⟩ := P.cells c hc
    exact ⟨u, o, kb.at (fun q => P.hcs c hc (q ▸ P.hD)) ho, hd⟩
  · by_cases hbd : b = D
    · obtain ⟨nn, en⟩ := pl'
      exact ⟨_, hbd ▸ en⟩
    · obtain ⟨o, e⟩ := P.occ b q
      exact ⟨o, kb.at hbd e⟩

/-- a name of the comprehension's is stored -/
theorem Lp.store_local {x : Str} {v : Value} {d : PyData} {A : Around} {Q : Unit → Shared → Prop} {E : Value → Shared → Prop} (P : Lp w Hid hb D cs cenv ρt ds s) (i : Is w hb v d) (hk : cenv.kindOf x = some .local) (hf : cenv.scope.kind = .function)
    (hQ : ∀ s', KB (fun b => b = cenv.locals ∨ b ∈ cs) s s' → Lp w Hid hb D cs cenv ((x, d) :: ρt) ds s' → Q () s') : wpAny (model PP w) A (storeName cenv x v) Q E s := by
  obtain ⟨ha, m, ys, l1, l2, hn, ns, pl, all, nm⟩ := P.ex
  refine wpAny_storeName_local hk ns (fun h' ns' sb => ?_) (by rw [hf]; rfl)
  have kb : KB (fun b => b = cenv.locals) s { s with heap := h', toks := s.toks + 1 } := ⟨h', _, rfl, fun b o n e => (sb.2 b n).trans e⟩
  have hDC : D ≠ cenv.locals := fun q => P.hC (q ▸ P.hD)
  have hcC : ∀ c ∈ cs, c ≠ cenv.locals := fun c hc => let ⟨u, x⟩ := P.cells c hc; cell_ne_ns x ns
  refine hQ _ (kb.mono fun b q => .inl q) ⟨⟨ha, _, ys, l1, fun b o e => kb.at (fun q => by rw [hn b (.inr (.inl q))] at e; cases e) (l2 _ _ e), hn, ns', pl.at fun o e => kb.at hDC e, all, fun y d' e => ?_⟩, fun c hc => ?_, fun b q => ?_, P.hD, P.hC, P.hcs, Nat.succ_pos _⟩
  · rw [List.lookup_cons] at e
    split at e
    · rename_i hy
      have hy := beq_iff_eq.mp hy
      cases e; subst hy
      exact .inl ⟨hk, v, by simp, i.le l1⟩
    · rename_i hy
      have hy : y ≠ x := by simpa using hy
      rcases nm y d' e with ⟨k, u, hu, iu⟩ | ⟨k', q, c, u, hc, hcs, ⟨o, ho, hd⟩, iu⟩
      · exact .inl ⟨k, u, by simp [hy, hu], iu⟩
      · exact .inr ⟨k', q, c, u, hc, hcs, ⟨o, kb.at (hcC c hcs) ho, hd⟩, iu⟩
  · obtain ⟨u, o, ho, hd⟩ := P.cells c hc
    exact ⟨u, o, kb.at (hcC c hc) ho, hd⟩
  · obtain ⟨o, e⟩ := P.occ b q
    exact ⟨o, kb.at (fun q' => P.hC (q' ▸ q)) e⟩
theorem Lp.store_cell {x : Str} {c : Addr} {v : Value} {d : PyData} {A : Around} {Q : Unit → Shared → Prop} {E : Value → Shared → Prop} (P : Lp w Hid hb D cs cenv ρt ds s) (i : Is w hb v d) (hk : cenv.kindOf x = some .cell) (hf : cenv.scope.kind = .function)
    (hc : cenv.cells.lookup x = some c) (hcm : c ∈ cs) (hq : (x == ("__classdict__" : Str)) = false) (hap : ∀ y, cenv.cells.lookup y = some c → y = x)
    (hQ : ∀ s', KB (fun b => b = cenv.locals ∨ b ∈ cs) s s' → Lp w Hid hb D cs cenv ((x, d) :: ρt) ds s' → Q () s') : wpAny (model PP w) A (storeName cenv x v) Q E s := by
  obtain ⟨ha, m, ys, l1, l2, hn, ns, pl, all, nm⟩ := P.ex
  obtain ⟨u0, hc0⟩ := P.cells c hcm
  refine wpAny_storeName_cell hf hk hc hc0 fun h' ns' sb => ?_
  have kb : KB (fun b => b = c) s { s with heap := h' } := ⟨h', _, rfl, fun b o n e => (sb.2 b n).trans e⟩
  have hDc : D ≠ c := fun q => P.hcs c hcm (q ▸ P.hD)
  have hCc : cenv.locals ≠ c := fun q => cell_ne_ns hc0 ns q.symm
  refine hQ _ (kb.mono fun b q => .inr (by rw [q]; exact hcm)) ⟨⟨ha, m, ys, l1, fun b o e => kb.at (fun q => by rw [hn b (.inr (.inr (q ▸ hcm)))] at e; cases e) (l2 _ _ e), hn, ns.at' fun o e => kb.at hCc e, pl.at fun o e => kb.at hDc e, all, fun y d' e => ?_⟩, fun c' hc' => ?_, fun b q => ?_, P.hD, P.hC, P.hcs, P.pos⟩
  · rw [List.lookup_cons] at e
    split at e
    · rename_i hy
      have hy := beq_iff_eq.mp hy
      cases e; subst hy
      exact .inr ⟨hk, hq, c, v, hc, hcm, ns', i.le l1⟩
    · rename_i hy
      have hy : y ≠ x := by simpa using hy
      rcases nm y d' e with ⟨k, u, hu, iu⟩ | ⟨k', q, c', u, hc', hcs, ⟨o, ho, hd⟩, iu⟩
      · exact .inl ⟨k, u, hu, iu⟩
      · exact .inr ⟨k', q, c', u, hc', hcs, ⟨o, kb.at (fun q => hy (hap y (q ▸ hc'))) ho, hd⟩, iu⟩
  · by_cases hcc : c' = c
    · rw [hcc]; exact ⟨_, ns'⟩
    · obtain ⟨u, o, ho, hd⟩ := P.cells c' hc'
      exact ⟨u, o, kb.at hcc ho, hd⟩
  · obtain ⟨o, e⟩ := P.occ b q
    exact ⟨o, kb.at (fun q' => P.hcs c hcm (q' ▸ q)) e⟩
theorem Lp.keeps {s' : Shared} (P : Lp w Hid hb D cs cenv ρt ds s) (k : Keeps s s') (hp : 1 ≤ s'.toks) : Lp w Hid hb D cs cenv ρt ds s' :=
  (P.grow (Grow.vis k P.ok hp)).1
theorem Lp.forget (P : Lp w Hid hb D cs cenv ρt ds s) : Lp w Hid hb D cs cenv [] ds s := by
  obtain ⟨ha, m, ys, l1, l2, hn, ns, pl, all, nm⟩ := P.ex
  exact ⟨⟨ha, m, ys, l1, l2, hn, ns, pl, all, fun y d e => by simp at e⟩, P.cells, P.occ, P.hD, P.hC, P.hcs, P.pos⟩
end
end Mine

namespace Mine
open PySem PySem.W PyProof.Rows

/-- a target, and what it binds -/
inductive Tg (cenv : Env) (cs : List Addr) : Expr → PyData → Mine.Ctx → Prop
  | name {x : Str} {pos : Pos} {d : PyData} : cenv.kindOf x = some .local → Tg cenv cs (.Name x pos) d [(x, d)]
  | cell {x : Str} {pos : Pos} {d : PyData} {c : Addr} : cenv.kindOf x = some .cell → cenv.cells.lookup x = some c → c ∈ cs → (x == ("__classdict__" : Str)) = false → (∀ y, cenv.cells.lookup y = some c → y = x) →
      Tg cenv cs (.Name x pos) d [(x, d)]
  | pair {a b : Str} {pos pa pb : Pos} {k : Nat} {d1 d2 : PyData} : cenv.kindOf a = some .local → cenv.kindOf b = some .local → Tg cenv cs (.Tuple [.Name a pa, .Name b pb] k pos) (.tuple [d1, d2]) [(b, d2), (a, d1)]

section
variable {w : World} {Hid : Addr → Prop} {hb : Heap} {D : Addr} {cs : List Addr} {cenv : Env} {ρt ρb : Mine.Ctx} {ds : List PyData} {s : Shared}

theorem Lp.assign {t : Expr} {x : PyData} {ρx : Mine.Ctx} {v : Value} {A : Around} {Q : Unit → Shared → Prop} {E : Value → Shared → Prop} (T : Tg cenv cs t x ρx) (R : Room 0 A) (hf : cenv.scope.kind = .function)
    (P : Lp w Hid hb D cs cenv ρt ds s) (i : Is w hb v x) (hQ : ∀ s', KB (fun b => b = cenv.locals ∨ b ∈ cs) s s' → Lp w Hid hb D cs cenv (ρx ++ ρt) ds s' → Q () s') : wpAny (model PP w) A (PySem.assign t cenv v) Q E s := by
  cases T with
  | name hk => exact wpAny_assign_Name (P.store_local i hk hf fun s' k P' => hQ s' k P')
  | cell hk hc hcm hq hap => exact wpAny_assign_Name (P.store_cell i hk hf hc hcm hq hap fun s' k P' => hQ s' k P')
  | @pair a b pos pa pb k d1 d2 ha hbb =>
    obtain ⟨ta, vs, rfl, hT, hall⟩ := i.isTuple
    obtain ⟨v1, v2, hvs, i1, i2⟩ := hall.two
    obtain ⟨hx, m, ys, l1, l2, _⟩ := P.ex
    obtain ⟨o, ho, hc, hn⟩ := hT
    have hT' : s.heap.IsTuple ta vs := ⟨o, l2 _ _ (l1 _ _ ho), hc, hn⟩
    refine wpAny_assign_Tuple R.handled hT' (by show 2 = vs.size; rw [← Array.length_toList, hvs]; rfl) rfl fun h' he => ?_
    have kk : Keeps s { s with heap := h' } := ⟨h', s.toks, rfl, fun b o e => he b o (lt_ne e) e⟩
    rw [hvs]
    refine wpAny_assignInOrder_more (wpAny_assign_Name ((P.keeps kk P.pos).store_local i1 ha hf fun s1 k1 P1 => ?_))
    refine wpAny_assignInOrder_more (wpAny_assign_Name (P1.store_local i2 hbb hf fun s2 k2 P2 => wpAny_assignInOrder_none (hQ s2 ((KB.of_keeps kk).trans (k1.trans k2)) P2)))

theorem Lp.weak {ρ' : Mine.Ctx} (P : Lp w Hid hb D cs cenv ρt ds s) (hw : ∀ y d, ρ'.lookup y = some d → ρt.lookup y = some d) : Lp w Hid hb D cs cenv ρ' ds s := by
  obtain ⟨ha, m, ys, l1, l2, hn, ns, pl, all, nm⟩ := P.ex
  exact ⟨⟨ha, m, ys, l1, l2, hn, ns, pl, all, fun y d e => nm y d (hw y d e)⟩, P.cells, P.occ, P.hD, P.hC, P.hcs, P.pos⟩

/-- the comprehension's tests -/
def TsAll (w : World) (n : Nat) (env : Env) (ρ : Mine.Ctx) (ifs : List Expr) (b : Bool) : Prop := (ifs = [] ∧ b = true) ∨ ∃ c, ifs = [c] ∧ Ts w n env ρ c b

def emitBody (target : Expr) (ipos : Pos) (ifs : List Expr) (elt : Expr) (e : Expr) (depth : Nat) (it acc : Value) (env : Env) : Sem Fin := do
  standAt ipos
  match ← pyNext it with
  | none => pure (.done .next)
  | some v =>
    letOwnedTupleGo target it v
    PySem.assign target env v
    let mut ok := true
    for c in ifs do
      if ok then ok ← isTrue c env (PySem.eval c env)
    if ok then
      (do let _ ← call (.builtin "list.append") [acc, ← PySem.eval elt env])
    again (.compLoop e depth it acc env)

theorem letGo_ok {t : Expr} {I : Addr} {v : Value} {o : Obj} {n : String} {A : Around} {Q : Unit → Shared → Prop} {E : Value → Shared → Prop} (ho : s.heap.get? I = some o) (hc : o.cls = .type n) (hn : ownedIters.contains n = false) (hQ : Q () s) :
    wpAny (model PP w) A (letOwnedTupleGo t (.ref I) v) Q E s := by
  unfold letOwnedTupleGo
  have key : ∀ v : Value, wpAny (model PP w) A (do
      let (.ref r, .ref a) := (Value.ref I, v) | return
      let o ← load r
      match o.cls, o.data with
      | .type n, .fields vs =>
        if ["enumerate", "zip", "dict_itemiterator", "dict_reverseitemiterator", "odict_iterator", "itertools.zip_longest", "itertools.pairwise"].contains n && vs[0]? == some (rawInt a) then
          rule "for.unpacks-the-owned-tuple"
          updateField r 0 .none
      | _, _ => pure ()) Q E s := by
    intro v
    cases v <;> first
      | exact wpAny_pure hQ
      | skip
    refine wpAny_bind (wpAny_load ho ?_)
    rw [hc]
    cases o.data <;> first
      | exact wpAny_pure hQ
      | skip
    have hn' : (["enumerate", "zip", "dict_itemiterator", "dict_reverseitemiterator", "odict_iterator", "itertools.zip_longest", "itertools.pairwise"] : List String).contains n = false := hn
    simp only [hn', Bool.false_and, Bool.false_eq_true, if_false]
    exact wpAny_pure hQ
  cases t <;> first
    | exact wpAny_pure hQ
    | exact key v

def outOf {α : Type} (p : α → Bool) (f : α → PyData) (ys : List α) : List PyData := (ys.filter p).map f

theorem emit_loop {α : Type} {ys : List α} {toD : α → PyData} {n : Nat} {A : Around} (R : Room n A) {e elt target : Expr} {depth : Nat} {ipos : Pos} {ifs : List Expr} {I : Addr} {fp : List Addr} {P : Nat → Value → Prop} {St : Nat → Heap → Prop} {RR : Result → Shared → Prop}
    (hturn : compTurn e depth (.ref I) (.ref D) cenv = emitBody target ipos ifs elt e depth (.ref I) (.ref D) cenv) (hlc : ∃ a b c d, e = .ListComp a b c d)
    (it : It w A (ys.map toD) I fp P St) (hPi : ∀ i v x, P i v → (ys.map toD)[i]? = some x → Is w hb v x) (hHI : Hid I) (hID : I ≠ D) (hfp : ∀ b ∈ fp, b ≠ D ∧ b ≠ cenv.locals ∧ b ∉ cs) (B : Cb w hb cenv ρb)
    (ρx : α → Mine.Ctx) (p : α → Bool) (f : α → PyData)
    (hdis : ∀ x ∈ ys, ∀ y d, ρt.lookup y = some d → (ρx x).lookup y = none) (htg : ∀ x ∈ ys, Tg cenv cs target (toD x) (ρx x)) (htests : ∀ x ∈ ys, TsAll w n cenv (ρx x ++ ρt ++ ρb) ifs (p x)) (helt : ∀ x ∈ ys, p x = true → Ev w n cenv (ρx x ++ ρt ++ ρb) elt (f x)) (hflat : ∀ x ∈ ys, p x = true → flat (f x) = true)
    (hR : ∀ s', KB (fun b => b = I ∨ b = D ∨ b = cenv.locals ∨ b ∈ cs) s s' → Lp w (fun b => Hid b ∧ b ≠ I) hb D cs cenv [] (ds ++ outOf p f ys) s' → RR (.ok .next) s')
    (hsz : ds.length + ys.length ≤ 1000000) (L0 : Lp w Hid hb D cs cenv ρt ds s) (S0 : St 0 s.heap) :
    codeAny (model PP w) A (.compLoop e depth (.ref I) (.ref D) cenv) RR s := by
  obtain ⟨a1, a2, a3, a4, rfl⟩ := hlc
  have main : ∀ (k i : Nat) (s1 : Shared) (ρo : Mine.Ctx), i + k = ys.length → St i s1.heap → KB (fun b => b = I ∨ b = D ∨ b = cenv.locals ∨ b ∈ cs) s s1 →
      Lp w Hid hb D cs cenv ρt (ds ++ outOf p f (ys.take i)) s1 → codeAny (model PP w) A (.compLoop (.ListComp a1 a2 a3 a4) depth (.ref I) (.ref D) cenv) RR s1 := by
    intro k
    induction k with
    | zero =>
      intro i s1 _ hi st kb L
      refine codeAny_of_tree ?_
      show wpAny _ A ((compTurn (.ListComp a1 a2 a3 a4) depth (.ref I) (.ref D) cenv).onRaise (fun x => do noteFrame x cenv; theTreesLotGoes x)) _ _ s1
      refine wpAny_noted ?_
      rw [hturn]
      unfold emitBody
      refine wpAny_bind (wpAny_standAt (wpAny_bind ?_))
      have hin : i = ys.length := by omega
      refine wpAny_with_toks (n := 1) L.pos (it.walks.done s1 _ _ (by rw [List.length_map, ← hin]; exact st) fun h' tk hk htk => wpAny_pure ?_)
      have kk : KB (fun b => b = I) s1 { s1 with heap := h', toks := tk } := ⟨h', tk, rfl, fun b o nb e => hk b o (by simpa using nb) e⟩
      refine hR _ (kb.trans (kk.mono fun b q => .inl q)) ?_
      have hC : cenv.locals ≠ I := fun q => L.hC (q ▸ hHI)
      obtain ⟨ha, m, ys, l1, l2, hn, ns, pl, all, nm⟩ := L.ex
      refine ⟨⟨ha, m, ys, l1, fun b o e => kk.at (fun q => by rw [q, hn I (.inl hHI)] at e; cases e) (l2 _ _ e), fun b q => hn b (q.imp (·.1) id), ns.at' fun o e => kk.at hC e, pl.at fun o e => kk.at (Ne.symm hID) e, ?_, fun y d e => by simp at e⟩,
        fun c hc => ?_, fun b q => ?_, ⟨L.hD, Ne.symm hID⟩, fun q => L.hC q.1, fun c hc q => L.hcs c hc q.1, htk⟩
      · rw [hin, List.take_length] at all; exact all
      · obtain ⟨u, o, ho, hd⟩ := L.cells c hc
        exact ⟨u, o, kk.at (fun q => L.hcs c hc (q ▸ hHI)) ho, hd⟩
      · obtain ⟨o, e⟩ := L.occ b q.1
        exact ⟨o, kk.at q.2 e⟩
    | succ k ih =>
      intro i s1 ρo hi st kb L
      have hlt : i < ys.length := by omega
      obtain ⟨x, hx⟩ : ∃ x, ys[i]? = some x := ⟨ys[i], by simp [hlt]⟩
      have hxm : x ∈ ys := List.mem_of_getElem? hx
      refine codeAny_of_tree ?_
      show wpAny _ A ((compTurn (.ListComp a1 a2 a3 a4) depth (.ref I) (.ref D) cenv).onRaise (fun x => do noteFrame x cenv; theTreesLotGoes x)) _ _ s1
      refine wpAny_noted ?_
      rw [hturn]
      unfold emitBody
      refine wpAny_bind (wpAny_standAt (wpAny_bind ?_))
      refine wpAny_with_toks (n := 1) L.pos (it.walks.item i s1 _ _ (by rw [List.length_map]; exact hlt) st fun v h' tk hv st' hk htk => ?_)
      have kk : KB (fun b => b = I) s1 { s1 with heap := h', toks := tk } := ⟨h', tk, rfl, fun b o nb e => hk b o (by simpa using nb) e⟩
      obtain ⟨oI, nI, hoI, hcI, hnI⟩ := it.occ _ _ st'
      have L1 := L.turned hHI hID kk ⟨oI, hoI⟩ htk
      dsimp only
      refine wpAny_bind (letGo_ok (s := { s1 with heap := h', toks := tk }) hoI hcI hnI ?_)
      refine wpAny_bind (L1.assign (htg x hxm) (R.mono (Nat.zero_le _)) B.kind (hPi i v (toD x) hv (by rw [List.getElem?_map, hx]; rfl)) fun s2 k2 L2 => ?_)
      have st2 : St (i + 1) s2.heap := it.walks.frame _ _ _ st' fun b hbf o e => k2.at (fun q => by
        obtain ⟨_, h2, h3⟩ := hfp b hbf
        rcases q with q | q
        · exact h2 q
        · exact h3 q) e
      have kb2 : KB (fun b => b = I ∨ b = D ∨ b = cenv.locals ∨ b ∈ cs) s s2 := kb.trans ((kk.mono fun b q => .inl q).trans (k2.mono fun b q => .inr (.inr q)))
      have fm2 := L2.fm B
      have htake : outOf p f (ys.take (i + 1)) = outOf p f (ys.take i) ++ (if p x then [f x] else []) := by
        unfold outOf
        rw [take_succ_filter p ys i x hx, List.map_append]
        cases p x <;> rfl
      have back : ∀ s3, KB (fun b => b = I ∨ b = D ∨ b = cenv.locals ∨ b ∈ cs) s2 s3 → St (i + 1) s3.heap → Lp w Hid hb D cs cenv (ρx x ++ ρt) (ds ++ outOf p f (ys.take (i + 1))) s3 →
          codeAny (model PP w) A (.compLoop (.ListComp a1 a2 a3 a4) depth (.ref I) (.ref D) cenv) RR s3 := by
        intro s3 k3 st3 L3
        exact ih (i + 1) s3 [] (by omega) st3 (kb2.trans k3) (L3.weak fun y d e => by rw [lookup_append, hdis x hxm y d e]; exact e)
      have hlen : (ds ++ outOf p f (ys.take i)).length ≤ 1000000 := by
        have h1 : (outOf p f (ys.take i)).length ≤ (ys.take i).length := by unfold outOf; rw [List.length_map]; exact List.length_filter_le _ _
        rw [List.length_append]
        rw [List.length_take] at h1
        omega
      have fin : ∀ (b : Bool) (s3 : Shared), b = p x → KB (fun b => b = I ∨ b = D ∨ b = cenv.locals ∨ b ∈ cs) s2 s3 → St (i + 1) s3.heap → Lp w Hid hb D cs cenv (ρx x ++ ρt) (ds ++ outOf p f (ys.take i)) s3 →
          wpAny (model PP w) A (if b = true then (do (do let x ← PySem.eval elt cenv; let _ ← call (.builtin "list.append") [.ref D, x]); again (.compLoop (.ListComp a1 a2 a3 a4) depth (.ref I) (.ref D) cenv)) else again (.compLoop (.ListComp a1 a2 a3 a4) depth (.ref I) (.ref D) cenv))
            (fun fin s' => match fin with | .done f => RR (.ok f) s' | .again c' => c'.quiet = true ∧ codeAny (model PP w) A c' RR s') (notedBy (model PP w) A cenv fun e s' => RR (.error e) s') s3 := by
        intro b s3 hbp k3 st3 L3
        cases b with
        | false =>
          rw [if_neg Bool.false_ne_true]
          rw [← hbp, if_neg Bool.false_ne_true, List.append_nil] at htake
          exact wpAny_pure ⟨rfl, back s3 k3 st3 (by rw [htake]; exact L3)⟩
        | true =>
          rw [if_pos rfl]
          rw [← hbp, if_pos rfl] at htake
          refine wpAny_bind (wpAny_bind (L3.eval R (helt x hxm hbp.symm _ (L3.fm B)) fun y s4 k4 L4 i4 => wpAny_bind (L4.append i4 (hflat x hxm hbp.symm) hlen fun s5 k5 L5 => wpAny_pure (wpAny_pure ⟨rfl, ?_⟩))))
          refine back s5 (k3.trans ((KB.of_keeps k4).trans (k5.mono fun b q => .inr (.inl q)))) ?_ (by rw [htake, ← List.append_assoc]; exact L5)
          exact it.walks.frame _ _ _ (it.walks.frame _ _ _ st3 fun b hbf o e => Keeps.le k4 _ _ e) fun b hbf o e => k5.at (fun q => (hfp b hbf).1 q) e
      rcases htests x hxm with ⟨rfl, hp⟩ | ⟨c, rfl, ht⟩
      · refine wpAny_bind (wpAny_tests_nil (w := w) ?_)
        exact fin true s2 hp.symm (KB.refl _ _) st2 L2
      · refine wpAny_bind (wpAny_tests_one (w := w) (ht _ fm2 A s2 _ _ R L2.ok fun b s3 h3 g3 i3 => ?_))
        exact fin b s3 i3 (KB.of_keeps g3.keeps) (it.walks.frame _ _ _ st2 fun b _ o e => Keeps.le g3.keeps _ _ e) (L2.grow g3).1
  simpa using main ys.length 0 s [] (by simp) S0 (KB.refl _ _) (by simpa [outOf] using L0)
end
end Mine

namespace Mine
open PySem PySem.W PyProof.Rows

/-- e can be iterated: xs -/
def EvI (w : World) (n : Nat) (env : Env) (ρ : Mine.Ctx) (e : Expr) (xs : List PyData) : Prop :=
  ∀ h, Fm w env ρ h → Run w n h (eval e env) (fun h v => Src w h v xs)

section
variable {w : World} {n : Nat} {env : Env} {ρ : Mine.Ctx}
theorem EvI.list {e : Expr} {xs : List PyData} (x : Ev w n env ρ e (.list xs)) : EvI w n env ρ e xs := fun h F => (x h F).imp fun _ _ i => src_list i
theorem EvI.tuple {e : Expr} {xs : List PyData} (x : Ev w n env ρ e (.tuple xs)) : EvI w n env ρ e xs := fun h F => (x h F).imp fun _ _ i => src_tuple i
theorem EvI.dict {e : Expr} {kvs : List (PyData × PyData)} (x : Ev w n env ρ e (.dict kvs)) : EvI w n env ρ e (kvs.map (·.1)) := fun h F => (x h F).imp fun _ _ i => src_dict i
end

theorem lt_nat {h : Heap} {b : Addr} {o : Obj} (e : h.get? b = some o) : @LT.lt Nat instLTNat b h.objs.size := Heap.lt_size e
theorem ne_nat {a b : Nat} (h : a < b ∨ b < a) : @Ne Addr a b := fun e => by
  have e' : @Eq Nat a b := e
  omega

theorem newCompEnv {M : Model} {A : Around} {E : Value → Shared → Prop} {s : Shared} {scope : Scope} {globals : Addr} {cl : List (Str × Addr)} {qual : Str} {env : Env} {Q : Env → Shared → Prop}
    (hQ : Q (newEnv scope s.heap.objs.size globals (cellsFrom (s.heap.objs.size + 1) scope.names cl) qual none .none (some env) builtinsNs)
      { s with heap := pushCells (s.heap.push { cls := .type "dict", data := .dict #[] }) scope.names }) : wpAny M A (newFunctionEnv scope globals cl [] qual none .none (some env)) Q E s := by
  simp only [newFunctionEnv, Option.isSome_some, if_true]
  refine wpAny_bind (wpAny_alloc ?_)
  refine wpAny_bind (wpAny_layCells _ (fun name kind cells => by cases hkc : kind == NameKind.cell <;> simp [hkc]) _ _ _ _ ?_)
  rw [show ({ s with heap := s.heap.push { cls := .type "dict", data := .dict #[] } } : Shared).heap.objs.size = s.heap.objs.size + 1 from Heap.size_push ..]
  refine wpAny_bind ?_
  rw [List.forIn_nil]
  exact wpAny_pure (wpAny_pure hQ)

/-- the names that the comprehension takes from env's cells -/
def CbOk (env : Env) (scope : Scope) (cl : List (Str × Addr)) (ρ : Mine.Ctx) : Mine.Ctx → Prop
  | [] => True
  | (x, d) :: r => ρ.lookup x = some d ∧ (env.kindOf x = some .cell ∨ env.kindOf x = some .free) ∧ ((relabel scope env).names.lookup x = some .cell ∨ (relabel scope env).names.lookup x = some .free) ∧
      (x == ("__classdict__" : Str)) = false ∧ (∃ c, env.cells.lookup x = some c ∧ ∀ C, (cellsFrom (C + 1) scope.names cl).lookup x = some c) ∧ CbOk env scope cl ρ r

theorem CbOk.get {env : Env} {scope : Scope} {cl : List (Str × Addr)} {ρ : Mine.Ctx} : ∀ {ρb : Mine.Ctx}, CbOk env scope cl ρ ρb → ∀ x d, ρb.lookup x = some d →
    ρ.lookup x = some d ∧ (env.kindOf x = some .cell ∨ env.kindOf x = some .free) ∧ ((relabel scope env).names.lookup x = some .cell ∨ (relabel scope env).names.lookup x = some .free) ∧
      (x == ("__classdict__" : Str)) = false ∧ ∃ c, env.cells.lookup x = some c ∧ ∀ C, (cellsFrom (C + 1) scope.names cl).lookup x = some c
  | [], _, _, _, e => by simp at e
  | (y, d') :: r, ⟨h1, h2, h3, h4, h5, h6⟩, x, d, e => by
    rw [List.lookup_cons] at e
    split at e
    · rename_i hx
      have hx := beq_iff_eq.mp hx
      cases e; subst hx
      exact ⟨h1, h2, h3, h4, h5⟩
    · exact CbOk.get h6 x d e

abbrev cenvOf (scope : Scope) (cl : List (Str × Addr)) (C : Addr) (env : Env) : Env := compEnvC scope (cellsFrom (C + 1) scope.names cl) C env
abbrev csOf (scope : Scope) (C : Addr) : List Addr := (cellsFrom (C + 1) scope.names []).map (·.2)

def LoopOk (w : World) (n : Nat) (env : Env) (scope : Scope) (cl : List (Str × Addr)) (ρb : Mine.Ctx) (e : Expr) (xs out : List PyData) : Prop :=
  ∀ (A : Around) (I D C : Addr) (fp : List Addr) (P : Nat → Value → Prop) (St : Nat → Heap → Prop) (hb : Heap) (Hid : Addr → Prop) (s : Shared) (RR : Result → Shared → Prop), Room n A → It w A xs I fp P St →
    (∀ i v x, P i v → xs[i]? = some x → Is w hb v x) → Hid I → I ≠ D → (∀ b ∈ fp, b ≠ D ∧ b ≠ C ∧ b ∉ csOf scope C) → Cb w hb (cenvOf scope cl C env) ρb → (∀ x c, cl.lookup x = some c → c < C) →
    Lp w Hid hb D (csOf scope C) (cenvOf scope cl C env) [] [] s → St 0 s.heap →
    (∀ s', KB (fun b => b = I ∨ b = D ∨ b = C ∨ b ∈ csOf scope C) s s' → Lp w (fun b => Hid b ∧ b ≠ I) hb D (csOf scope C) (cenvOf scope cl C env) [] out s' → RR (.ok .next) s') →
    codeAny (model PP w) A (.compLoop e 0 (.ref I) (.ref D) (cenvOf scope cl C env)) RR s

/-- what is known when the comprehension's loop has ended -/
structure CEnd (w : World) (s : Shared) (h : Heap) (out : List PyData) (C D : Addr) (s' : Shared) : Prop where
  keeps : Keeps s s'
  pos : 1 ≤ s'.toks
  ns : ∃ m, s'.heap.Ns C m
  c : s.heap.get? C = none
  d : s.heap.get? D = none
  cd : C ≠ D
  ex : ∃ ha ys, s'.heap.PlainList D ys ∧ Le h ha ∧ Le ha s'.heap ∧ ha.get? C = none ∧ ha.get? D = none ∧ (∀ b o, s.heap.get? b = some o → h.get? b = none → ha.get? b = none) ∧ IsAll w ha ys.toList out

theorem comp_core {w : World} {n : Nat} {env : Env} {ρ ρb : Mine.Ctx} {e elt target iter : Expr} {ifs : List Expr} {gs : List Comprehension} {scope : Scope} {cl : List (Str × Addr)} {pos lpos : Pos} {xs out : List PyData} {use : Option (Value → Sem Unit)}
    (he : e = .ListComp elt (⟨target, iter, ifs, 0⟩ :: gs) scope lpos)
    (hiter : EvI w n env ρ iter xs) (hclos : closureFor scope env = pure cl) (hkind : scope.kind = .function) (hnames : ∀ x ∈ scope.names, x.2 = .local → scope.names.lookup x.1 = some .local)
    (hcl : ∀ x c, cl.lookup x = some c → (ρb.lookup x).isSome = true ∧ env.cells.lookup x = some c) (hρb : CbOk env scope cl ρ ρb) (hloop : LoopOk w n env scope cl ρb e xs out)
    (hfold : ∀ x, foldedSetIterable iter env x = pure x) {A : Around} {s : Shared} {h : Heap} {Q : Value → Shared → Prop} {E : Value → Shared → Prop} (F : Fm w env ρ h) (R : Room n A) (L : Ok h s)
    (hend : ∀ C D s', CEnd w s h out C D s' → compPost (model PP w) A E use Q (.ref D) C (.ok .next) s') :
    wpAny (model PP w) A (comprehension e scope env pos (newList []) false (eval iter env) use) Q E s := by
  subst he
  refine wpAny_comprehension_free (g := ⟨target, iter, ifs, 0⟩) (gs := gs) rfl hfold hclos hkind hnames (hiter h F A s _ E R L fun xv s1 h1 g1 src => ?_)
  have F1 := F.le g1.le
  refine src A s1 _ E (R.mono (Nat.zero_le _)) g1.ok fun I fp P St s2 it st k2 p2 hfp hI hfpb hPi => ?_
  refine wpAny_newObj_type ?_ (by show 0 ≤ sizeLine; exact Nat.zero_le _)
  refine newCompEnv ?_
  dsimp only
  -- the places
  have hI2 : ∃ o, s2.heap.get? I = some o := by obtain ⟨o, _, ho, _⟩ := it.occ _ _ st; exact ⟨o, ho⟩
  generalize hH : s2.heap.push { cls := .type "list", dict := none, data := .seq ([] : List Value).toArray } = H
  have hHs : @Eq Nat H.objs.size (s2.heap.objs.size + 1) := by rw [← hH, Heap.size_push]
  have old2 : Le s2.heap H := fun b o e' => hH ▸ Heap.get?_push_of_some _ e'
  have oldC : Le H (H.push { cls := .type "dict", data := .dict #[] }) := fun b o e' => Heap.get?_push_of_some _ e'
  have old4 : Le H (pushCells (H.push { cls := .type "dict", data := .dict #[] }) scope.names) := fun b o e' => pushCells_keeps _ _ b o (oldC _ _ e')
  have k14 : Le s1.heap (pushCells (H.push { cls := .type "dict", data := .dict #[] }) scope.names) := fun b o e' => old4 _ _ (old2 _ _ (Keeps.le k2 _ _ e'))
  have fresh : ∀ a, s2.heap.objs.size ≤ a → s1.heap.get? a = none := fun a ha => by
    cases e1 : s1.heap.get? a with
    | none => rfl
    | some o => exact absurd (Heap.lt_size (Keeps.le k2 _ _ e1)) (Nat.not_lt.mpr ha)
  have okc := cellsFrom_ok scope.names (H.push { cls := .type "dict", data := .dict #[] }) (H.objs.size + 1) [] ⟨fun _ _ hm => (nomatch hm), List.Pairwise.nil⟩ (by rw [Heap.size_push]; exact Nat.le_refl _)
  rw [Heap.size_push] at okc
  have hcs : ∀ c ∈ csOf scope H.objs.size, (pushCells (H.push { cls := .type "dict", data := .dict #[] }) scope.names).IsCell c none ∧ @LE.le Nat instLENat (H.objs.size + 1) c := by
    intro c hc
    obtain ⟨⟨nm, c'⟩, hm, rfl⟩ := List.mem_map.mp hc
    exact okc.empty nm c' hm
  have hDn : s1.heap.get? s2.heap.objs.size = none := fresh _ (Nat.le_refl _)
  have hCn : s1.heap.get? H.objs.size = none := fresh _ (show @LE.le Nat instLENat _ _ by omega)
  have hcsn : ∀ c ∈ csOf scope H.objs.size, s1.heap.get? c = none := fun c hc => fresh _ (show @LE.le Nat instLENat _ _ by have := (hcs c hc).2; omega)
  have hbn : ∀ b, s1.heap.get? b = none → h1.get? b = none := fun b e' => by
    cases e2 : h1.get? b with
    | none => rfl
    | some o => rw [g1.sub _ _ e2] at e'; cases e'
  have hpl : (pushCells (H.push { cls := .type "dict", data := .dict #[] }) scope.names).PlainList s2.heap.objs.size #[] := ⟨_, old4 _ _ (hH ▸ Heap.get?_push_size _ rfl)⟩
  have hns : (pushCells (H.push { cls := .type "dict", data := .dict #[] }) scope.names).Ns H.objs.size fun _ => none := (Heap.Ns.new H (.type "dict")).keeps (pushCells_keeps _ _)
  have hCI : H.objs.size ≠ I := by
    obtain ⟨o, ho⟩ := hI2
    have := lt_nat ho
    exact ne_nat (by omega)
  have hDI : I ≠ s2.heap.objs.size := by obtain ⟨o, ho⟩ := hI2; exact lt_ne ho
  let Hid : Addr → Prop := fun b => b = s2.heap.objs.size ∨ b = I ∨ ((∃ o, s1.heap.get? b = some o) ∧ h1.get? b = none)
  have hhidn : ∀ b, s1.heap.get? b = none → Hid b → b = s2.heap.objs.size ∨ b = I := fun b e' q => by
    rcases q with q | q | ⟨⟨o, q⟩, _⟩
    · exact .inl q
    · exact .inr q
    · rw [e'] at q; cases q
  have hcsI : ∀ c ∈ csOf scope H.objs.size, c ≠ I := fun c hc q => by
    obtain ⟨o, ho⟩ := hI2
    have h1 := lt_nat ho
    have h2 := (hcs c hc).2
    exact ne_nat (by omega) q
  have L4 : Lp w Hid h1 s2.heap.objs.size (csOf scope H.objs.size) (cenvOf scope cl H.objs.size env) [] [] { s2 with heap := pushCells (H.push { cls := .type "dict", data := .dict #[] }) scope.names } := by
    refine ⟨⟨h1, _, #[], Le.refl _, g1.sub.trans k14, fun b q => ?_, hns, hpl, .nil, fun y d e' => by simp at e'⟩, fun c hc => ⟨_, (hcs c hc).1⟩, fun b q => ?_, .inl rfl, fun q => ?_, fun c hc q => ?_, p2⟩
    · rcases q with (q | q | q) | q | q
      · rw [q]; exact hbn _ hDn
      · rw [q]; exact hbn _ hI
      · exact q.2
      · rw [q]; exact hbn _ hCn
      · exact hbn _ (hcsn b q)
    · rcases q with q | q | ⟨⟨o, q⟩, _⟩
      · obtain ⟨m, e'⟩ := hpl; rw [q]; exact ⟨_, e'⟩
      · obtain ⟨o, ho⟩ := hI2; rw [q]; exact ⟨o, old4 _ _ (old2 _ _ ho)⟩
      · exact ⟨o, k14 _ _ q⟩
    · rcases hhidn _ hCn q with q | q
      · exact ne_nat (by omega) q
      · exact hCI q
    · rcases hhidn _ (hcsn c hc) q with q | q
      · have := (hcs c hc).2; exact ne_nat (by omega) q
      · exact hcsI c hc q
  have B4 : Cb w h1 (cenvOf scope cl H.objs.size env) ρb := by
    refine ⟨F1.wd, hkind, F1.glob, F1.blt, fun x d e' => ?_⟩
    obtain ⟨a1, a2, a3, a4, c, a5, a6⟩ := hρb.get x d e'
    refine ⟨a3, a4, c, ?_⟩
    rcases F1.nm x d a1 with ⟨q, _⟩ | ⟨_, _, c', v, q1, q2, q3⟩
    · rw [q] at a2; rcases a2 with a2 | a2 <;> cases a2
    · rw [a5] at q1; cases q1
      exact ⟨v, a6 _, q2, q3⟩
  have hlt : ∀ x c, cl.lookup x = some c → c < H.objs.size := fun x c e' => by
    obtain ⟨q1, q2⟩ := hcl x c e'
    obtain ⟨d, q1⟩ := Option.isSome_iff_exists.mp q1
    obtain ⟨_, _, c', v, r1, ⟨o, ho, _⟩, _⟩ := B4.nm x d q1
    obtain ⟨_, _, _, _, c'', r2, r3⟩ := hρb.get x d q1
    rw [q2] at r2; cases r2
    have : cellsFrom (H.objs.size + 1) scope.names cl = (cenvOf scope cl H.objs.size env).cells := rfl
    rw [← this, r3] at r1; cases r1
    have := Heap.lt_size (old2 _ _ (Keeps.le k2 _ _ (g1.sub _ _ ho)))
    exact this
  have S4 : St 0 (pushCells (H.push { cls := .type "dict", data := .dict #[] }) scope.names) := it.walks.frame _ _ _ st fun b _ o e' => old4 _ _ (old2 _ _ e')
  have hfp4 : ∀ b ∈ fp, b ≠ s2.heap.objs.size ∧ b ≠ H.objs.size ∧ b ∉ csOf scope H.objs.size := fun b hbf => by
    obtain ⟨o, ho⟩ := hfp b hbf
    have hl := lt_nat ho
    exact ⟨Nat.ne_of_lt hl, ne_nat (by omega), fun q => by have := (hcs b q).2; omega⟩
  have run : codeAny (model PP w) A (.compLoop (.ListComp elt (⟨target, iter, ifs, 0⟩ :: gs) scope lpos) 0 (.ref I) (.ref s2.heap.objs.size) (cenvOf scope cl H.objs.size env))
      (compPost (model PP w) A E use Q (.ref s2.heap.objs.size) H.objs.size) { s2 with heap := pushCells (H.push { cls := .type "dict", data := .dict #[] }) scope.names } := by
    refine hloop A I s2.heap.objs.size H.objs.size fp P St h1 Hid _ _ R it hPi (.inr (.inl rfl)) hDI hfp4 B4 hlt L4 S4 fun s5 kb L5 => ?_
    obtain ⟨ha, m, ys, l1, l2, hn, ns, pl, all, _⟩ := L5.ex
    have hk5 : Keeps s1 s5 := by
      obtain ⟨h5, t5, rfl, k5⟩ := kb
      obtain ⟨hh2, t2, rfl, _⟩ := k2
      refine ⟨h5, t5, rfl, fun b o e' => k5 b o (fun q => ?_) (k14 _ _ e')⟩
      rcases q with q | q | q | q
      · rw [q, hI] at e'; cases e'
      · rw [q, hDn] at e'; cases e'
      · rw [q, hCn] at e'; cases e'
      · rw [hcsn b q] at e'; cases e'
    refine hend H.objs.size s2.heap.objs.size s5 ⟨Keeps.trans g1.keeps hk5, L5.pos, ⟨m, ns⟩, ?_, ?_, ne_nat (by omega), ha, ys, pl, g1.le.trans l1, l2, hn _ (.inr (.inl rfl)), hn _ (.inl ⟨.inl rfl, Ne.symm hDI⟩), fun b o e' q => ?_, all⟩
    · cases e' : s.heap.get? H.objs.size with
      | none => rfl
      | some o => rw [Keeps.le g1.keeps _ _ e'] at hCn; cases hCn
    · cases e' : s.heap.get? s2.heap.objs.size with
      | none => rfl
      | some o => rw [Keeps.le g1.keeps _ _ e'] at hDn; cases hDn
    · have e1 := Keeps.le g1.keeps _ _ e'
      exact hn b (.inl ⟨.inr (.inr ⟨⟨o, e1⟩, g1.hid b o e' q⟩), fun q' => by rw [q', hI] at e1; cases e1⟩)
  exact codeAny_compStart_list run (it.walks.self 0 _ _ _ S4 run)

/-- a comprehension's value -/
theorem CEnd.value {w : World} {s : Shared} {h : Heap} {out : List PyData} {C D : Addr} {s' : Shared} {h' : Heap} (x : CEnd w s h out C D s') (L : Ok h s) (sb : Heap.SameBut C s'.heap h') :
    Grow s h { s' with heap := h' } (vis h s.heap h') ∧ Is w (vis h s.heap h') (.ref D) (.list out) := by
  obtain ⟨ha, ys, pl, l1, l2, hc, hd, hh, all⟩ := x.ex
  have kk : Keeps s { s' with heap := h' } := by
    obtain ⟨H, tk, rfl, hk⟩ := x.keeps
    exact ⟨h', tk, rfl, fun b o e => (sb.2 b (by rintro rfl; rw [x.c] at e; cases e)).trans (hk _ _ e)⟩
  refine ⟨Grow.vis kk L x.pos, ?_⟩
  obtain ⟨m, hm⟩ := pl
  have hD' : h'.get? D = some { cls := .type "list", data := .seq ys m } := (sb.2 D (Ne.symm x.cd)).trans hm
  refine .list (vis_some hD' (.inl x.d)) rfl rfl (all.le fun b o e => ?_)
  have hbC : b ≠ C := by rintro rfl; rw [hc] at e; cases e
  refine vis_some ((sb.2 b hbC).trans (l2 _ _ e)) ?_
  cases e1 : s.heap.get? b with
  | none => exact .inl rfl
  | some o1 =>
    cases e2 : h.get? b with
    | none => rw [hh b o1 e1 e2] at e; cases e
    | some o2 => exact .inr ⟨o2, rfl⟩
end Mine

namespace Mine
open PySem PySem.W PyProof.Rows

section
variable {w : World} {n : Nat} {env : Env} {ρ ρb : Mine.Ctx} {scope : Scope} {cl : List (Str × Addr)}

theorem LoopOk.one {α : Type} {elt target iter : Expr} {ifs : List Expr} {pos : Pos} (ys : List α) (toD : α → PyData) (ρx : α → Mine.Ctx) (p : α → Bool) (f : α → PyData)
    (hbody : ∀ C : Nat, (∀ x c, cl.lookup x = some c → c < C) → ∀ y ∈ ys, Tg (cenvOf scope cl C env) (csOf scope C) target (toD y) (ρx y) ∧ TsAll w n (cenvOf scope cl C env) (ρx y ++ [] ++ ρb) ifs (p y) ∧
      (p y = true → Ev w n (cenvOf scope cl C env) (ρx y ++ [] ++ ρb) elt (f y)) ∧ (p y = true → flat (f y) = true)) (hsz : ys.length ≤ 1000000) :
    LoopOk w n env scope cl ρb (.ListComp elt [⟨target, iter, ifs, 0⟩] scope pos) (ys.map toD) (outOf p f ys) := by
  intro A I D C fp P St hb Hid s RR R it hPi hI hID hfp B hlt L S hR
  exact emit_loop (ipos := iter.pos) R rfl ⟨_, _, _, _, rfl⟩ it hPi hI hID hfp B ρx p f (fun _ _ _ _ e => by simp at e) (fun y hy => (hbody C hlt y hy).1) (fun y hy => (hbody C hlt y hy).2.1) (fun y hy => (hbody C hlt y hy).2.2.1)
    (fun y hy => (hbody C hlt y hy).2.2.2) (fun s' k L' => hR s' k (by simpa using L')) (by simpa using hsz) L S

theorem Ev.comp {elt target iter : Expr} {ifs : List Expr} {gs : List Comprehension} {pos : Pos} {xs out : List PyData}
    (hiter : EvI w n env ρ iter xs) (hclos : closureFor scope env = pure cl) (hkind : scope.kind = .function) (hnames : ∀ x ∈ scope.names, x.2 = .local → scope.names.lookup x.1 = some .local)
    (hcl : ∀ x c, cl.lookup x = some c → (ρb.lookup x).isSome = true ∧ env.cells.lookup x = some c) (hρb : CbOk env scope cl ρ ρb) (hloop : LoopOk w n env scope cl ρb (.ListComp elt (⟨target, iter, ifs, 0⟩ :: gs) scope pos) xs out)
    (hfold : ∀ x, foldedSetIterable iter env x = pure x := by intro _; rfl) : Ev w n env ρ (.ListComp elt (⟨target, iter, ifs, 0⟩ :: gs) scope pos) (.list out) := by
  intro h F A s Q E R L hQ
  rw [eval_ListComp]
  refine comp_core (use := none) rfl hiter hclos hkind hnames hcl hρb hloop hfold F R L fun C D s' x => ?_
  obtain ⟨m, hm⟩ := x.ns
  exact ⟨m, hm, fun h' sb => hQ _ _ _ (x.value L sb).1 (x.value L sb).2⟩

/-- x = [..]: the list is stored before the comprehension's names go -/
theorem Bx.assignComp {s : Shared} {h : Heap} {x : Str} {p pos lpos : Pos} {elt target iter : Expr} {ifs : List Expr} {gs : List Comprehension} {rest : List Stmt} {xs out : List PyData} {d : PyData}
    (hiter : EvI w n env ρ iter xs) (hclos : closureFor scope env = pure cl) (hkind : scope.kind = .function) (hnames : ∀ x ∈ scope.names, x.2 = .local → scope.names.lookup x.1 = some .local)
    (hcl : ∀ x c, cl.lookup x = some c → (ρb.lookup x).isSome = true ∧ env.cells.lookup x = some c) (hρb : CbOk env scope cl ρ ρb) (hloop : LoopOk w n env scope cl ρb (.ListComp elt (⟨target, iter, ifs, 0⟩ :: gs) scope lpos) xs out)
    (hk : env.kindOf x = some .local) (hfl : flatCtx ρ = true) (hfd : flats out = true)
    (hsw : swapsWith (.ListComp elt (⟨target, iter, ifs, 0⟩ :: gs) scope lpos) (some (.Name x p)) pos.line env = pure true)
    (hr : Bx w n s h env ((x, .list out) :: ρ) (execs rest env) d)
    (hfold : ∀ x, foldedSetIterable iter env x = pure x := by intro _; rfl) :
    Bx w n s h env ρ (execs (.Assign [.Name x p] (.ListComp elt (⟨target, iter, ifs, 0⟩ :: gs) scope lpos) pos :: rest) env) d := by
  intro A s1 h1 Q E R L W g O F hQ
  refine wpAny_execs_cons ?_
  rw [exec_Assign_Name_used _ _ _ _ hsw]
  refine wpAny_bind (wpAny_standAt (wpAny_bind ?_))
  show wpAny _ A (do let _ ← comprehension (.ListComp elt (⟨target, iter, ifs, 0⟩ :: gs) scope lpos) scope env _ (newList []) false (eval iter env) (some (PySem.assign (.Name x p) env))) _ _ s1
  refine wpAny_bind (wpAny_mono (comp_core (use := some (PySem.assign (.Name x p) env)) (Q := fun _ s' => wpAny (model PP w) A (execs rest env) Q E s') rfl hiter hclos hkind hnames hcl hρb hloop hfold F R g.ok fun C D s2 ce => ?_) (fun _ s' hq => wpAny_pure (wpAny_pure hq)) fun _ _ e => e)
  show wpAny _ A (PySem.assign (.Name x p) env (.ref D)) _ _ s2
  obtain ⟨g2, i2⟩ := ce.value (h' := s2.heap) g.ok (.refl _ _)
  obtain ⟨mL, hnL⟩ := O.ns
  have hLs : ∃ o, s1.heap.get? env.locals = some o := by
    obtain ⟨o, es, ep, ho, _⟩ := hnL
    exact ⟨o, g.sub _ _ ho⟩
  have hCL : C ≠ env.locals := fun q => by
    obtain ⟨o, ho⟩ := hLs
    have := ce.c
    rw [q, ho] at this; cases this
  obtain ⟨mC, hnC⟩ := ce.ns
  refine wpAny_assign_Name (store_local L W (g.trans g2) (O.le g2.le) (F.le g2.le) i2 hfl (by simpa [flat] using hfd) hk fun s3 h3 g3 O3 F3 kb _ _ => ?_)
  have hn3 : s3.heap.Ns C mC := hnC.at' fun o e => kb C o hCL e
  refine ⟨mC, hn3, fun h4 sb => ?_⟩
  have hCs : s.heap.get? C = none := by
    cases e : s.heap.get? C with
    | none => rfl
    | some o => have := Keeps.le g.keeps _ _ e; rw [ce.c] at this; cases this
  have hCh : h.get? C = none := by
    cases e : h.get? C with
    | none => rfl
    | some o => have := L _ _ e; rw [hCs] at this; cases this
  have hdat : ∀ o, h3.get? C = some o → ∀ vs n, o.data ≠ .seq vs n := fun o e => ns_data hn3 o (g3.sub _ _ e)
  have g4 : Grow s h { s3 with heap := h4 } (h3.hide C) := by
    refine ⟨?_, g3.pos, fun b o e => ?_, fun b o e => ?_, fun b o e q => ?_⟩
    · obtain ⟨H, tk, rfl, hk'⟩ := g3.keeps
      exact ⟨h4, tk, rfl, fun b o e => (sb.2 b (by rintro rfl; rw [hCs] at e; cases e)).trans (hk' _ _ e)⟩
    · rw [Heap.hide_ne _ (by rintro rfl; rw [hCh] at e; cases e)]; exact g3.le _ _ e
    · have hb : b ≠ C := by rintro rfl; rw [Heap.hide_self] at e; cases e
      exact (sb.2 b hb).trans (g3.sub _ _ (Heap.of_hide e))
    · cases e2 : (h3.hide C).get? b with
      | none => rfl
      | some o2 => have := Heap.of_hide e2; rw [g3.hid b o e q] at this; cases this
  have hcell : ∀ c u, h3.IsCell c u → (h3.hide C).IsCell c u := fun c u y => by
    obtain ⟨oc, hoc, hdc⟩ := id y
    refine ⟨oc, ?_, hdc⟩
    rw [Heap.hide_ne _ (fun q => ?_)]; exact hoc
    subst q
    exact cell_ne_ns (y.keeps g3.sub) hn3 rfl
  have hnsL : ∀ m, h3.Ns env.locals m → (h3.hide C).Ns env.locals m := fun m y => by
    obtain ⟨o, es, ep, ho, r⟩ := y
    exact ⟨o, es, ep, by rw [Heap.hide_ne _ (Ne.symm hCL)]; exact ho, r⟩
  have hfl' : flatCtx ((x, PyData.list out) :: ρ) = true := by simp [flatCtx, flat, hfd]; simpa [flatCtx] using hfl
  refine hr A _ (h3.hide C) Q E R L W g4 ⟨O3.fresh, let ⟨m, y⟩ := O3.ns; ⟨m, hnsL m y⟩, fun y c e => let ⟨a, v, b⟩ := O3.cell y c e; ⟨a, v, hcell c v b⟩, O3.apart⟩ ⟨W.le g4.le, F3.kind, F3.glob, F3.blt, fun y d' e => ?_⟩ hQ
  rcases F3.nm y d' e with ⟨k, m', v', a, b, c⟩ | ⟨k, q, c, v', a, b, c'⟩
  · exact .inl ⟨k, m', v', hnsL m' a, b, c.hide hdat (flat_of hfl' e)⟩
  · exact .inr ⟨k, q, c, v', a, hcell c _ b, c'.hide hdat (flat_of hfl' e)⟩
end
end Mine

namespace Mine
open PySem PySem.W PyProof.Rows

section
variable {w : World} {Hid : Addr → Prop} {hb : Heap} {D : Addr} {cs : List Addr} {cenv : Env} {ρt ρb : Mine.Ctx} {ds : List PyData} {s : Shared}

def Bad (Hid : Addr → Prop) (cenv : Env) (cs : List Addr) : Addr → Prop := fun b => Hid b ∨ b = cenv.locals ∨ b ∈ cs

theorem Lp.base_le (P : Lp w Hid hb D cs cenv ρt ds s) : Le hb (cut (Bad Hid cenv cs) s.heap) := by
  obtain ⟨ha, m, ys, l1, l2, hn, _⟩ := P.ex
  exact l1.trans (le_cut l2 fun b q => hn b q)
theorem Lp.rebase (P : Lp w Hid hb D cs cenv ρt ds s) : Lp w Hid (cut (Bad Hid cenv cs) s.heap) D cs cenv ρt ds s := by
  obtain ⟨ha, m, ys, l1, l2, hn, ns, pl, all, nm⟩ := P.ex
  have la : Le ha (cut (Bad Hid cenv cs) s.heap) := le_cut l2 fun b q => hn b q
  refine ⟨⟨cut (Bad Hid cenv cs) s.heap, m, ys, Le.refl _, cut_sub, fun b q => cut_none q, ns, pl, all.le la, fun y d e => ?_⟩, P.cells, P.occ, P.hD, P.hC, P.hcs, P.pos⟩
  rcases nm y d e with ⟨k, v, hm, i⟩ | ⟨k, q, c, v, hc, hcs, ic, i⟩
  · exact .inl ⟨k, v, hm, i.le la⟩
  · exact .inr ⟨k, q, c, v, hc, hcs, ic, i.le la⟩
theorem Lp.own_data (P : Lp w Hid hb D cs cenv ρt ds s) : ∀ b o, (b = cenv.locals ∨ b ∈ cs) → s.heap.get? b = some o → ∀ vs n, o.data ≠ .seq vs n := by
  obtain ⟨ha, m, ys, l1, l2, hn, ns, _⟩ := P.ex
  intro b o q e
  rcases q with q | q
  · exact ns_data ns o (q ▸ e)
  · obtain ⟨u, y⟩ := P.cells b q
    exact (cell_data y o e).1
theorem Lp.is_base {v : Value} {d : PyData} (P : Lp w Hid hb D cs cenv ρt ds s) (hf : flat d = true) (i : Is w (cut Hid s.heap) v d) : Is w (cut (Bad Hid cenv cs) s.heap) v d := by
  refine (i.cut (p := fun b => b = cenv.locals ∨ b ∈ cs) (fun b o q e => P.own_data b o q (cut_of e).2) hf).le fun b o e => ?_
  obtain ⟨n1, e1⟩ := cut_of e
  obtain ⟨n2, e2⟩ := cut_of e1
  exact cut_some e2 fun q => q.elim n2 n1
/-- one more hidden place, new behind s -/
theorem Lp.extend {s' : Shared} {I : Addr} (P : Lp w Hid hb D cs cenv ρt ds s) (k : Keeps s s') (hp : 1 ≤ s'.toks) (hI : s.heap.get? I = none) (ho : ∃ o, s'.heap.get? I = some o) : Lp w (fun b => Hid b ∨ b = I) hb D cs cenv ρt ds s' := by
  obtain ⟨ha, m, ys, l1, l2, hn, ns, pl, all, nm⟩ := P.ex
  have hk := Keeps.le k
  refine ⟨⟨ha, m, ys, l1, l2.trans hk, fun b q => ?_, ns.keeps hk, pl.at fun o e => hk _ _ e, all, fun y d e => ?_⟩, fun c hc => let ⟨u, x⟩ := P.cells c hc; ⟨u, x.keeps hk⟩, fun b q => ?_, .inl P.hD, fun q => ?_, fun c hc q => ?_, hp⟩
  · rcases q with (q | q) | q
    · exact hn b (.inl q)
    · cases e : ha.get? b with
      | none => rfl
      | some o => have := l2 _ _ e; rw [q, hI] at this; cases this
    · exact hn b (.inr q)
  · rcases nm y d e with x | ⟨k', q, c, v, hc, hcs, ic, i⟩
    · exact .inl x
    · exact .inr ⟨k', q, c, v, hc, hcs, ic.keeps hk, i⟩
  · rcases q with q | q
    · obtain ⟨o, e⟩ := P.occ b q; exact ⟨o, hk _ _ e⟩
    · rw [q]; exact ho
  · rcases q with q | q
    · exact P.hC q
    · obtain ⟨o, _, _, e, _⟩ := ns; rw [q, hI] at e; cases e
  · rcases q with q | q
    · exact P.hcs c hc q
    · obtain ⟨u, o, e, _⟩ := P.cells c hc; rw [q, hI] at e; cases e
theorem Lp.shrink {Hid' : Addr → Prop} {hb' : Heap} (P : Lp w Hid hb D cs cenv ρt ds s) (hl : Le hb' hb) (hh : ∀ b, Hid' b → Hid b) (hD : Hid' D) : Lp w Hid' hb' D cs cenv ρt ds s := by
  obtain ⟨ha, m, ys, l1, l2, hn, ns, pl, all, nm⟩ := P.ex
  exact ⟨⟨ha, m, ys, hl.trans l1, l2, fun b q => hn b (q.imp (hh b) id), ns, pl, all, nm⟩, P.cells, fun b q => P.occ b (hh b q), hD, fun q => P.hC (hh _ q), fun c hc q => P.hcs c hc (hh _ q), P.pos⟩
end

theorem compStart1 {w : World} {A : Around} {R : Result → Shared → Prop} {s : Shared} {elt : Expr} {g0 : Comprehension} {target iter : Expr} {ifs : List Expr} {rest : List Comprehension} {scope : Scope} {pos : Pos} {it acc : Value} {env : Env}
    (h0 : codeAny (model PP w) A (.compLoop (.ListComp elt (g0 :: ⟨target, iter, ifs, 0⟩ :: rest) scope pos) 1 it acc env) R s)
    (h : wpAny (model PP w) A (pyIter it) (fun it' s' => codeAny (model PP w) A (.compLoop (.ListComp elt (g0 :: ⟨target, iter, ifs, 0⟩ :: rest) scope pos) 1 it' acc env) R s') (notedBy (model PP w) A env fun x s' => R (.error x) s') s) :
    codeAny (model PP w) A (.compStart (.ListComp elt (g0 :: ⟨target, iter, ifs, 0⟩ :: rest) scope pos) 1 it acc env) R s := by
  refine codeAny_of_tree ?_
  show wpAny _ _ ((compStart (.ListComp elt (g0 :: ⟨target, iter, ifs, 0⟩ :: rest) scope pos) 1 it acc env).onRaise (fun x => do noteFrame x env; standAt theWindowsPlace)) _ _ s
  refine wpAny_notedAt ?_
  unfold compStart
  show wpAny _ _ (ask >>= _) _ _ s
  refine wpAny_bind (wpAny_askSetting (wpAny_ite ?_))
  split
  · first
      | exact wpAny_bind (wpAny_pure (wpAny_pure (And.intro rfl h0)))
      | exact wpAny_pure (And.intro rfl h0)
  · first
      | exact wpAny_bind (wpAny_rule (wpAny_bind (wpAny_standAt (wpAny_bind (wpAny_mono h (fun it' s' h' => wpAny_pure (And.intro rfl h')) fun _ _ x => x)))))
      | (refine wpAny_bind (wpAny_rule ?_); show wpAny _ _ (standAt iter.pos >>= _) _ _ s; exact wpAny_bind (wpAny_standAt (wpAny_bind (wpAny_mono h (fun it' s' h' => wpAny_pure (And.intro rfl h')) fun _ _ x => x))))

def nestBody (target : Expr) (ipos : Pos) (iter2 e : Expr) (it acc : Value) (env : Env) : Sem Fin := do
  standAt ipos
  match ← pyNext it with
  | none => pure (.done .next)
  | some v =>
    letOwnedTupleGo target it v
    PySem.assign target env v
    let x ← PySem.eval iter2 env
    standAt iter2.pos
    let x ← foldedSetIterable iter2 env x
    let _ ← runOwn (.compStart e 1 (← holding [x] (pyIter x)) acc env) env
    again (.compLoop e 0 it acc env)

theorem compTurn_nest (elt t1 i1 t2 i2 : Expr) (scope : Scope) (pos : Pos) (it acc : Value) (env : Env) :
    compTurn (.ListComp elt [⟨t1, i1, [], 0⟩, ⟨t2, i2, [], 0⟩] scope pos) 0 it acc env = nestBody t1 i1.pos i2 (.ListComp elt [⟨t1, i1, [], 0⟩, ⟨t2, i2, [], 0⟩] scope pos) it acc env := by rfl
theorem compTurn_in (elt t1 i1 t2 i2 : Expr) (scope : Scope) (pos : Pos) (it acc : Value) (env : Env) :
    compTurn (.ListComp elt [⟨t1, i1, [], 0⟩, ⟨t2, i2, [], 0⟩] scope pos) 1 it acc env = emitBody t2 i2.pos [] elt (.ListComp elt [⟨t1, i1, [], 0⟩, ⟨t2, i2, [], 0⟩] scope pos) 1 it acc env := by rfl

theorem LoopOk.two {w : World} {n : Nat} {env : Env} {ρb : Mine.Ctx} {scope : Scope} {cl : List (Str × Addr)} {α β : Type} {elt t1 i1 t2 i2 : Expr} {pos : Pos} (ys : List α) (toD : α → PyData) (ρx : α → Mine.Ctx) (zs : α → List β) (toE : β → PyData) (ρz : β → Mine.Ctx) (f : α → β → PyData)
    (hfold : ∀ env x, foldedSetIterable i2 env x = pure x)
    (hbody : ∀ C : Nat, (∀ x c, cl.lookup x = some c → c < C) → ∀ y ∈ ys, Tg (cenvOf scope cl C env) (csOf scope C) t1 (toD y) (ρx y) ∧ Ev w n (cenvOf scope cl C env) (ρx y ++ [] ++ ρb) i2 (.list ((zs y).map toE)) ∧
      ∀ z ∈ zs y, Tg (cenvOf scope cl C env) (csOf scope C) t2 (toE z) (ρz z) ∧ Ev w n (cenvOf scope cl C env) (ρz z ++ ρx y ++ ρb) elt (f y z))
    (hfl : ∀ y ∈ ys, flats ((zs y).map toE) = true ∧ ∀ z ∈ zs y, flat (f y z) = true) (hdis : ∀ y ∈ ys, ∀ z ∈ zs y, ∀ k d, (ρx y).lookup k = some d → (ρz z).lookup k = none)
    (hsz : (ys.flatMap fun y => (zs y).map (f y)).length ≤ 1000000) :
    LoopOk w n env scope cl ρb (.ListComp elt [⟨t1, i1, [], 0⟩, ⟨t2, i2, [], 0⟩] scope pos) (ys.map toD) (ys.flatMap fun y => (zs y).map (f y)) := by
  intro A I D C fp P St hb Hid s RR R it hPi hHI hID hfp B hlt L0 S0 hR
  let cenv := cenvOf scope cl C env
  let cs := csOf scope C
  let e : Expr := .ListComp elt [⟨t1, i1, [], 0⟩, ⟨t2, i2, [], 0⟩] scope pos
  let out : List α → List PyData := fun l => l.flatMap fun y => (zs y).map (f y)
  have main : ∀ (k i : Nat) (s1 : Shared), i + k = ys.length → St i s1.heap → KB (fun b => b = I ∨ b = D ∨ b = C ∨ b ∈ cs) s s1 →
      Lp w Hid hb D cs cenv [] (out (ys.take i)) s1 → codeAny (model PP w) A (.compLoop e 0 (.ref I) (.ref D) cenv) RR s1 := by
    intro k
    induction k with
    | zero =>
      intro i s1 hi st kb L
      refine codeAny_of_tree ?_
      show wpAny _ A ((compTurn e 0 (.ref I) (.ref D) cenv).onRaise (fun x => do noteFrame x cenv; theTreesLotGoes x)) _ _ s1
      refine wpAny_noted ?_
      rw [compTurn_nest]
      unfold nestBody
      refine wpAny_bind (wpAny_standAt (wpAny_bind ?_))
      have hin : i = ys.length := by omega
      refine wpAny_with_toks (n := 1) L.pos (it.walks.done s1 _ _ (by rw [List.length_map, ← hin]; exact st) fun h' tk hk htk => wpAny_pure ?_)
      have kk : KB (fun b => b = I) s1 { s1 with heap := h', toks := tk } := ⟨h', tk, rfl, fun b o nb e => hk b o (by simpa using nb) e⟩
      refine hR _ (kb.trans (kk.mono fun b q => .inl q)) ?_
      have hC : cenv.locals ≠ I := fun q => L.hC (q ▸ hHI)
      obtain ⟨ha, m, us, l1, l2, hn, ns, pl, all, nm⟩ := L.ex
      refine ⟨⟨ha, m, us, l1, fun b o e => kk.at (fun q => by rw [q, hn I (.inl hHI)] at e; cases e) (l2 _ _ e), fun b q => hn b (q.imp (·.1) id), ns.at' fun o e => kk.at hC e, pl.at fun o e => kk.at (Ne.symm hID) e, ?_, fun y d e => by simp at e⟩,
        fun c hc => ?_, fun b q => ?_, ⟨L.hD, Ne.symm hID⟩, fun q => L.hC q.1, fun c hc q => L.hcs c hc q.1, htk⟩
      · rw [hin, List.take_length] at all; exact all
      · obtain ⟨u, o, ho, hd⟩ := L.cells c hc
        exact ⟨u, o, kk.at (fun q => L.hcs c hc (q ▸ hHI)) ho, hd⟩
      · obtain ⟨o, e⟩ := L.occ b q.1
        exact ⟨o, kk.at q.2 e⟩
    | succ k ih =>
      intro i s1 hi st kb L
      have hlt' : i < ys.length := by omega
      obtain ⟨x, hx⟩ : ∃ x, ys[i]? = some x := ⟨ys[i], by simp [hlt']⟩
      have hxm : x ∈ ys := List.mem_of_getElem? hx
      obtain ⟨htg, hit2, hz⟩ := hbody C hlt x hxm
      refine codeAny_of_tree ?_
      show wpAny _ A ((compTurn e 0 (.ref I) (.ref D) cenv).onRaise (fun x => do noteFrame x cenv; theTreesLotGoes x)) _ _ s1
      refine wpAny_noted ?_
      rw [compTurn_nest]
      unfold nestBody
      refine wpAny_bind (wpAny_standAt (wpAny_bind ?_))
      refine wpAny_with_toks (n := 1) L.pos (it.walks.item i s1 _ _ (by rw [List.length_map]; exact hlt') st fun v h' tk hv st' hk htk => ?_)
      have kk : KB (fun b => b = I) s1 { s1 with heap := h', toks := tk } := ⟨h', tk, rfl, fun b o nb e => hk b o (by simpa using nb) e⟩
      obtain ⟨oI, nI, hoI, hcI, hnI⟩ := it.occ _ _ st'
      have L1 := L.turned hHI hID kk ⟨oI, hoI⟩ htk
      dsimp only
      refine wpAny_bind (letGo_ok (s := { s1 with heap := h', toks := tk }) hoI hcI hnI ?_)
      refine wpAny_bind (L1.assign htg (R.mono (Nat.zero_le _)) B.kind (hPi i v (toD x) hv (by rw [List.getElem?_map, hx]; rfl)) fun s2 k2 L2 => ?_)
      have st2 : St (i + 1) s2.heap := it.walks.frame _ _ _ st' fun b hbf o e => k2.at (fun q => by
        obtain ⟨_, h2, h3⟩ := hfp b hbf
        rcases q with q | q
        · exact h2 q
        · exact h3 q) e
      have kb2 : KB (fun b => b = I ∨ b = D ∨ b = C ∨ b ∈ cs) s s2 := kb.trans ((kk.mono fun b q => .inl q).trans (k2.mono fun b q => .inr (.inr q)))
      refine wpAny_bind (L2.eval R (hit2 _ (L2.fm B)) fun xv s3 k3 L3 i3 => ?_)
      refine wpAny_bind (wpAny_standAt (wpAny_bind (wpAny_of_eq (hfold _ _) (wpAny_bind (wpAny_holding ?_)))))
      have L3b := L3.rebase
      have i3b := L3.is_base (by simpa [flat] using (hfl x hxm).1) i3
      have src := src_list i3b
      refine src A s3 _ _ (R.mono (Nat.zero_le _)) ⟨cut_sub, L3.pos⟩ fun I2 fp2 P2 St2 s4 it2 st4 k4 p4 hfp2 hI2 hfp2b hPi2 => ?_
      have hI2o : ∃ o, s4.heap.get? I2 = some o := by obtain ⟨o, _, ho, _⟩ := it2.occ _ _ st4; exact ⟨o, ho⟩
      have L4 := L3b.extend k4 p4 hI2 hI2o
      have hne : ∀ b o, s3.heap.get? b = some o → b ≠ I2 := fun b o e q => by rw [q, hI2] at e; cases e
      have hD3 : ∃ o, s3.heap.get? D = some o := L3.occ D L3.hD
      have run : codeAny (model PP w) A (.compLoop e 1 (.ref I2) (.ref D) cenv) (fun r s' => match r with
          | .ok _ => wpAny (model PP w) A (again (.compLoop e 0 (.ref I) (.ref D) cenv)) (fun fin s' => match fin with | .done f => RR (.ok f) s' | .again c' => c'.quiet = true ∧ codeAny (model PP w) A c' RR s') (notedBy (model PP w) A cenv fun e s' => RR (.error e) s') s'
          | .error _ => False) s4 := by
        refine emit_loop (ys := zs x) (toD := toE) (ipos := i2.pos) (ifs := []) (elt := elt) (target := t2) (ρt := ρx x) R (compTurn_in ..) ⟨_, _, _, _, rfl⟩ it2 hPi2 (.inr rfl) (fun q => by obtain ⟨o, ho⟩ := hD3; exact hne D o ho q.symm) (fun b hbf => ?_) (B.le L3.base_le)
          ρz (fun _ => true) (f x) (fun z hzm k d => hdis x hxm z hzm k d) (fun z hzm => (hz z hzm).1) (fun z hzm => .inl ⟨rfl, rfl⟩) (fun z hzm _ => (hz z hzm).2) (fun z hzm _ => (hfl x hxm).2 z hzm) (fun s5 k5 L5 => ?_) ?_ (L4.weak fun y d e => by simpa using e) st4
        · by_cases hbI : b = I2
          · subst hbI
            obtain ⟨ha, m, us, _, _, _, ns, _⟩ := L3.ex
            obtain ⟨oC, _, _, hoC, _⟩ := ns
            refine ⟨fun q => by obtain ⟨o, ho⟩ := hD3; exact hne D o ho q.symm, fun q => hne _ _ hoC q.symm, fun q => ?_⟩
            obtain ⟨u, o, ho, _⟩ := L3.cells b q
            exact hne b o ho rfl
          · obtain ⟨o, ho⟩ := hfp2b b hbf hbI
            have := (cut_of ho).1
            exact ⟨fun q => this (.inl (q ▸ L3.hD)), fun q => this (.inr (.inl q)), fun q => this (.inr (.inr q))⟩
        · refine wpAny_pure ⟨rfl, ih (i + 1) s5 (by omega) ?_ ?_ ?_⟩
          · refine it.walks.frame _ _ _ st2 fun b hbf o e => k5.at (fun q => ?_) (Keeps.le k4 _ _ (Keeps.le k3 _ _ e))
            have e3 := Keeps.le k3 _ _ e
            obtain ⟨q1, q2, q3⟩ := hfp b hbf
            rcases q with q | q | q | q
            · exact hne b o e3 q
            · exact q1 q
            · exact q2 q
            · exact q3 q
          · refine kb2.trans ?_
            obtain ⟨h5, t5, rfl, k5'⟩ := k5
            obtain ⟨h4, t4, rfl, k4'⟩ := k4
            obtain ⟨h3, t3, rfl, k3'⟩ := k3
            refine ⟨h5, t5, rfl, fun b o nb e => k5' b o (fun q => ?_) (k4' _ _ (k3' _ _ e))⟩
            rcases q with q | q | q | q
            · exact hne b o (k3' _ _ e) q
            · exact nb (.inr (.inl q))
            · exact nb (.inr (.inr (.inl q)))
            · exact nb (.inr (.inr (.inr q)))
          · have htake : out (ys.take (i + 1)) = out (ys.take i) ++ (zs x).map (f x) := by
              show ((ys.take (i + 1)).flatMap fun y => (zs y).map (f y)) = _
              rw [List.take_add_one, hx, List.flatMap_append]
              simp [out]
            have e5 : out (ys.take i) ++ outOf (fun _ => true) (f x) (zs x) = out (ys.take (i + 1)) := by
              rw [htake]; unfold outOf
              rw [List.filter_eq_self.mpr (fun _ _ => rfl)]
            rw [e5] at L5
            exact L5.shrink L3.base_le (fun b q => ⟨.inl q, fun q' => by obtain ⟨o, ho⟩ := L3.occ b q; exact hne b o ho q'⟩) L3.hD
        · have h1 : (out (ys.take i)).length + (zs x).length ≤ (out ys).length := by
            have e1 : ys = ys.take i ++ x :: ys.drop (i + 1) := by
              have := List.take_append_drop i ys
              rw [List.drop_eq_getElem_cons hlt'] at this
              have hxx : ys[i] = x := by rw [List.getElem?_eq_getElem hlt'] at hx; cases hx; rfl
              rw [hxx] at this; exact this.symm
            have e2 : out ys = out (ys.take i) ++ ((zs x).map (f x) ++ out (ys.drop (i + 1))) := by
              conv => lhs; rw [e1]
              simp [out]
            rw [e2]; simp
            try omega
          exact Nat.le_trans h1 hsz
      refine wpAny_bind (wpAny_runOwn (codeAny_mono (compStart1 run (it2.walks.self 0 _ _ _ st4 run)) fun r s' hr => ?_))
      cases r with
      | ok f => exact hr
      | error x => exact hr.elim
  exact main ys.length 0 s (by simp) S0 (KB.refl _ _) (by simpa [out] using L0)
end Mine

namespace Mine
open PySem PySem.W PyProof.Rows

section
variable {w : World} {n : Nat} {env : Env} {ρ : Mine.Ctx}

/-! ## lists -/
theorem op_list_add {xs ys : List PyData} (hl : xs.length + ys.length ≤ 1000000) : Op2 w n (binaryOp .Add) (.list xs) (.list ys) (.list (xs ++ ys)) := by
  intro h u v W i j A s Q E R L hQ
  obtain ⟨a, us, rfl, hL, hi⟩ := i.isList
  obtain ⟨b, vs, rfl, hL2, hj⟩ := j.isList
  have hlen : us.size = xs.length := by have := hi.length; simpa using this
  have hlen2 : vs.size = ys.length := by have := hj.length; simpa using this
  obtain ⟨⟨cls, dd, data, sl⟩, ho, hc, k, hd⟩ := hL
  obtain ⟨⟨cls2, dd2, data2, sl2⟩, ho2, hc2, k2, hd2⟩ := hL2
  simp only at hc hd hc2 hd2
  subst hc hd hc2 hd2
  have ho' := L.1 _ _ ho
  have ho2' := L.1 _ _ ho2
  refine concat_meets ⟨_, ho', rfl⟩ ⟨_, ho2', rfl⟩ noFill_list_add seq_list_add PySem.F.slot_list_add PySem.F.entry_list_add (PySem.F.args_list_add_2 _ _) (list_addW a b us vs k k2 dd dd2 sl sl2 (by rw [hlen, hlen2]; exact sizeLine_big hl)) ⟨ho', ho2', ?_⟩
  refine hQ _ _ _ (Grow.vis push_keeps L L.2) ?_
  refine .list (vis_some (Heap.get?_push_size _ rfl) (.inl fresh_none)) rfl rfl ?_
  have hle : Le h (vis h s.heap (s.heap.push { cls := .type "list", data := .seq (us ++ vs) })) := le_vis (L.1.trans fun b o e => Heap.get?_push_of_some _ e)
  rw [Array.toList_append]
  exact (hi.le hle).append (hj.le hle)

theorem op_eq_data {d1 d2 : PyData} (f1 : flat d1 = true) (f2 : flat d2 = true) (c1 : d1.canLay0 = true) (c2 : d2.canLay0 = true) (hd : d1.depth ≤ 90) : Op2 w n (compareOp .Eq) d1 d2 (.bool (PyData.eqv d1 d2)) := by
  intro h u v W i j A s Q E R L hQ
  obtain ⟨as, r⟩ := (i.le L.1).reads f1
  obtain ⟨bs, r2⟩ := (j.le L.1).reads f2
  exact SeqAt.compareEq_reads r r2 c1 c2 (by have := R.units; omega) (hQ _ _ _ (Grow.refl L) (.bool _))
theorem op_ne_data {d1 d2 : PyData} (f1 : flat d1 = true) (f2 : flat d2 = true) (c1 : d1.canLay0 = true) (c2 : d2.canLay0 = true) (hd : d1.depth ≤ 90) : Op2 w n (compareOp .NotEq) d1 d2 (.bool (!PyData.eqv d1 d2)) := by
  intro h u v W i j A s Q E R L hQ
  obtain ⟨as, r⟩ := (i.le L.1).reads f1
  obtain ⟨bs, r2⟩ := (j.le L.1).reads f2
  exact SeqAt.compareNe_reads r r2 c1 c2 (by have := R.units; omega) (hQ _ _ _ (Grow.refl L) (.bool _))
theorem op_notin_data {d : PyData} {xs : List PyData} (f1 : flat d = true) (f2 : flats xs = true) (c1 : d.canLay0 = true) (c2 : PyData.canLayAll0 xs = true) (hd : d.depth ≤ 80) : Op2 w n (compareOp .NotIn) d (.list xs) (.bool (!xs.any fun y => PyData.eqv y d)) := by
  intro h u v W i j A s Q E R L hQ
  obtain ⟨as, r⟩ := (i.le L.1).reads f1
  obtain ⟨bs, r2⟩ := (j.le L.1).reads (by simpa [flat] using f2)
  exact SeqAt.notIn_list_reads r2 r c2 c1 (by have := R.units; omega) (hQ _ _ _ (Grow.refl L) (.bool _))

theorem strsAre_of {h : Heap} : ∀ {vs : List Value} {ys : List Str}, IsAll w h vs (ys.map .str) → StrsAre vs ys
  | [], [], _ => .nil
  | _ :: _, [], i => nomatch i
  | [], _ :: _, i => nomatch i
  | v :: vs, y :: ys, i => by
    cases i with
    | cons a r => obtain ⟨t, rfl⟩ := a.isStr; exact .cons _ _ (strsAre_of r)
theorem op_notin_strs {x : Str} {ys : List Str} : Op2 w n (compareOp .NotIn) (.str x) (.list (ys.map .str)) (.bool (!(ys.any (· == x)))) := by
  intro h u v W i j A s Q E R L hQ
  obtain ⟨t, rfl⟩ := i.isStr
  obtain ⟨a, us, rfl, hL, hi⟩ := j.isList
  obtain ⟨o, ho, hc, hn⟩ := hL
  exact notin_list_strs (vs := us.toList) ⟨o, L.1 _ _ ho, hc, by simpa using hn⟩ (strsAre_of hi) (hQ _ _ _ (Grow.refl L) (.bool _))
theorem op_in_str {x y : Str} : Op2 w n (compareOp .In) (.str y) (.str x) (.bool (Txt.contains x y)) := by
  intro h u v W i j A s Q E R L hQ
  obtain ⟨t, rfl⟩ := i.isStr
  obtain ⟨t', rfl⟩ := j.isStr
  exact P.in_str (hQ _ _ _ (Grow.refl L) (.bool _))

/-! ## methods of strs -/
theorem Ev.meth0 {o : Expr} {name : Str} {apos pos : Pos} {id : String} {x : Str} {d : PyData} (ho : Ev w n env ρ o (.str x)) (slot : Slot "str" name id) (hty : typeOf (.builtin id) = pure (.type "method_descriptor"))
    (hc : ∀ h v, Wd w h → Is w h v (.str x) → Run w n h (PySem.call (.builtin id) [v]) (fun h v => Is w h v d))
    (hbase : attributeBase o name env (eval o env) = eval o env := by rfl) (hline : (apos.endLine == pos.line) = true := by rfl) : Ev w n env ρ (.Call (.Attribute o name apos) [] [] pos) d := by
  intro h F A s Q E R L hQ
  refine wpAny_Call_method_lateS hbase rfl hline (ho h F A s _ E R L fun v s1 h1 g1 i1 => ?_)
  obtain ⟨t, rfl⟩ := i1.isStr
  refine ⟨"str", id, PySem.F.plainAttrs_str, slot, hty, typeIs_str _ _ _, (fun a e => (by cases e)), ?_⟩
  exact callWith_method0 (env := env) (hc h1 _ (F.wd.le g1.le) i1 A s1 _ E R g1.ok fun v s2 h2 g2 i2 => hQ v s2 h2 (g1.trans g2) i2)
theorem Ev.meth {o e : Expr} {es : List Expr} {name : Str} {apos pos : Pos} {id : String} {x : Str} {ds : List PyData} {d : PyData} (ho : Ev w n env ρ o (.str x)) (slot : Slot "str" name id) (hty : typeOf (.builtin id) = pure (.type "method_descriptor"))
    (hs : Evs w n env ρ pos (e :: es) ds)
    (hc : ∀ h v vs, Wd w h → Is w h v (.str x) → IsAll w h vs ds → Run w n h (PySem.call (.builtin id) (v :: vs)) (fun h v => Is w h v d))
    (hfew : ((backTo pos (starEach (e :: es) env)).all (fun x => !x.1) && (backToKw pos (keywordEach [] env)).all (fun x => x.1.isSome)
      && decide ((e :: es).length + ([] : List Keyword).length + (if ([] : List Keyword).isEmpty then 0 else 1) < 30)) = true := by rfl)
    (hbase : attributeBase o name env (eval o env) = eval o env := by rfl) (hline : (apos.endLine == pos.line) = true := by rfl)
    (hst : starEach (e :: es) env = (false, eval e env) :: starEach es env := by rfl) (hplain : (backTo pos (starEach es env)).any (·.1) = false := by rfl) : Ev w n env ρ (.Call (.Attribute o name apos) (e :: es) [] pos) d := by
  intro h F A s Q E R L hQ
  refine wpAny_Call_method_lateS hbase hfew hline (ho h F A s _ E R L fun v s1 h1 g1 i1 => ?_)
  obtain ⟨t, rfl⟩ := i1.isStr
  refine ⟨"str", id, PySem.F.plainAttrs_str, slot, hty, typeIs_str _ _ _, (fun a e => (by cases e)), ?_⟩
  exact callWith_method1 (hs h1 (F.le g1.le) A s1 _ E R g1.ok fun vs s2 h2 g2 i2 => hc h2 _ vs (F.wd.le (g1.le.trans g2.le)) (i1.le g2.le) i2 A s2 _ E R g2.ok fun v s3 h3 g3 i3 => hQ v s3 h3 ((g1.trans g2).trans g3) i3) hst hplain

theorem Ev.strip {o : Expr} {apos pos : Pos} {x : Str} (ho : Ev w n env ρ o (.str x)) (hl : x.length ≤ 1000000)
    (hbase : attributeBase o "strip" env (eval o env) = eval o env := by rfl) (hline : (apos.endLine == pos.line) = true := by rfl) : Ev w n env ρ (.Call (.Attribute o "strip" apos) [] [] pos) (.str (Txt.strip x)) := by
  refine Ev.meth0 ho PySem.F.slot_str_strip PySem.F.type_str_strip (fun h v W i A s Q E R L hQ => ?_) hbase hline
  obtain ⟨t, rfl⟩ := i.isStr
  refine wpAny_with_toks (n := 1) L.2 (SC.strip (fun t' k hk => hQ _ _ _ (Grow.toks L hk) (.str _ _)) (sizeLine_big hl))
theorem strVals_of {h : Heap} : ∀ {vs : List Value} {ys : List Str}, IsAll w h vs (ys.map .str) → ∃ l : List (Str × Tok), vs = strValues l ∧ l.map (·.1) = ys
  | [], [], _ => ⟨[], rfl, rfl⟩
  | _ :: _, [], i => nomatch i
  | [], _ :: _, i => nomatch i
  | v :: vs, y :: ys, i => by
    cases i with
    | cons a r =>
      obtain ⟨t, rfl⟩ := a.isStr
      obtain ⟨l, rfl, rfl⟩ := strVals_of r
      exact ⟨(y, t) :: l, rfl, rfl⟩
theorem Ev.join {o e : Expr} {apos pos : Pos} {x : Str} {ys : List Str} (ho : Ev w n env ρ o (.str x)) (he : Ev w n env ρ e (.list (ys.map .str))) (hok : JoinOk x ys = true)
    (hbase : attributeBase o "join" env (eval o env) = eval o env := by rfl) (hline : (apos.endLine == pos.line) = true := by rfl)
    (hfew : ((backTo pos (starEach [e] env)).all (fun x => !x.1) && (backToKw pos (keywordEach [] env)).all (fun x => x.1.isSome)
      && decide ([e].length + ([] : List Keyword).length + (if ([] : List Keyword).isEmpty then 0 else 1) < 30)) = true := by rfl)
    (hst : starEach [e] env = [(false, eval e env)] := by rfl) : Ev w n env ρ (.Call (.Attribute o "join" apos) [e] [] pos) (.str (Txt.join x ys)) := by
  refine Ev.meth ho PySem.F.slot_str_join PySem.F.type_str_join (Evs.cons he Evs.nil hst) (fun h v vs W i j A s Q E R L hQ => ?_) hfew hbase hline hst rfl
  obtain ⟨t, rfl⟩ := i.isStr
  obtain ⟨u, rfl, j1⟩ := j.one
  obtain ⟨a, us, rfl, hL, hi⟩ := j1.isList
  obtain ⟨l, hl, hm⟩ := strVals_of hi
  obtain ⟨o, ho, hc, k, hd⟩ := hL
  refine wpAny_with_toks (n := 1) L.2 (SC.join (l := l) ⟨o, L.1 _ _ ho, hc, k, by rw [hd, ← hl]⟩ hm hok fun t' k hk => hQ _ _ _ (Grow.toks L hk) (.str _ _))
theorem Ev.replace {o : Expr} {y z : Str} {k1 k2 : Nat} {p1 p2 apos pos : Pos} {x : Str} (ho : Ev w n env ρ o (.str x)) (hyz : (y == z) = false) (hx : x.length ≤ 1000000) (hz : z.length ≤ 14)
    (hbase : attributeBase o "replace" env (eval o env) = eval o env := by rfl) (hline : (apos.endLine == pos.line) = true := by rfl) :
    Ev w n env ρ (.Call (.Attribute o "replace" apos) [.Constant (.str y) k1 p1, .Constant (.str z) k2 p2] [] pos) (.str (Txt.replace x y z)) := by
  intro h F A s Q E R L hQ
  refine wpAny_Call_method_lateS hbase rfl hline (ho h F A s _ E R L fun v s1 h1 g1 i1 => ?_)
  obtain ⟨t, rfl⟩ := i1.isStr
  refine ⟨"str", "str.replace", PySem.F.plainAttrs_str, PySem.F.slot_str_replace, PySem.F.type_str_replace, typeIs_str _ _ _, (fun a e => (by cases e)), ?_⟩
  have hp := g1.pos
  refine callWith_method1 (args_cons (Calls.Constant_str (args_cons (Calls.Constant_str (args_nil ?_)))))
  refine wpAny_with_toks (n := 1) (show 1 ≤ s1.toks + 1 + 1 by omega) ?_
  exact SC.replaceW (show s1.toks ≠ 0 by omega) (show s1.toks + 1 ≠ 0 by omega) (show s1.toks ≠ s1.toks + 1 by omega) hyz (by omega) hz fun t' k hk => hQ _ _ h1 (g1.trans (Grow.toks g1.ok hk)) (.str _ _)
theorem isAll_values {h : Heap} : ∀ l : List (Str × Tok), IsAll w h (strValues l) ((l.map (·.1)).map .str)
  | [] => .nil
  | (x, t) :: l => .cons (.str _ _) (isAll_values l)
theorem run_split {h : Heap} {x y : Str} {t u v : Tok} {k : Int} (hy : (y.length == 0) = false) (hk : 0 ≤ k ∧ k < 1000000) (hx : x.length ≤ 900000) :
    Run w n h (PySem.call (.builtin "str.split") [.str x t, .str y u, .int k v]) (fun h r => Is w h r (.list ((Txt.splitMax x y k).map .str))) := by
  intro A s Q E R L hQ
  have hk' : (decide (k < -(2 ^ 63 : Int)) || decide (k ≥ 2 ^ 63)) = false := by simp; omega
  have hn : (Builtin.Str.partsBetween x (Builtin.Str.occurrences x y 0 x.length (limitOf x k)) y.length).length ≤ sizeLine := by
    have e1 := StrLaws.occ_length_le_len x y 0 x.length (limitOf x k)
    rw [length_partsBetween]
    exact sizeLine_big (by omega)
  have fin : ∀ (l : List (Str × Tok)) (tk : Nat), 1 ≤ tk → l.map (·.1) = Txt.splitMax x y k → Q (.ref s.heap.objs.size) { s with toks := tk, heap := s.heap.push { cls := .type "list", data := .seq (strValues l).toArray } } := by
    intro l tk htk hl
    refine hQ _ _ _ (Grow.vis (s' := { s with toks := tk, heap := s.heap.push { cls := .type "list", data := .seq (strValues l).toArray } }) ⟨_, tk, rfl, fun b o e => Heap.get?_push_of_some _ e⟩ L htk) ?_
    refine .list (vis_some (Heap.get?_push_size _ rfl) (.inl fresh_none)) rfl rfl ?_
    rw [← hl]
    exact isAll_values l
  cases h1 : (decide (x.length < y.length) || decide (Builtin.Str.strKind x < Builtin.Str.strKind y))
  · cases hf : (Builtin.Str.occurrences x y 0 x.length (limitOf x k)).isEmpty
    · refine call_meets PySem.F.slot_str_split (typeIs_str _ _ _) PySem.F.entry_str_split (PySem.F.args_str_split_3 _ _ _) (meets_str_split_sep_max x y k t u v hk' h1 hy hf (sizeLine_big (by omega)) hn) ?_
      show wants Q E _ { s with toks := _, heap := s.heap.push { cls := .type "list", data := .seq (strsFrom s.toks (Builtin.Str.partsBetween x (Builtin.Str.occurrences x y 0 x.length (limitOf x k)) y.length)).toArray } }
      rw [strsFrom_eq]
      exact fin (numbered s.toks _) _ (Nat.le_trans L.2 (Nat.le_add_right _ _)) ((numbered_texts _ _).trans ((if_neg (ne_true_of_eq_false h1)).trans (if_neg (ne_true_of_eq_false hf))).symm)
    · exact call_meets PySem.F.slot_str_split (typeIs_str _ _ _) PySem.F.entry_str_split (PySem.F.args_str_split_3 _ _ _) (meets_str_split_max_not_found x y k t u v hk' h1 hy hf)
        (fin [(x, t)] s.toks L.2 ((if_neg (ne_true_of_eq_false h1)).trans (if_pos hf)).symm)
  · exact call_meets PySem.F.slot_str_split (typeIs_str _ _ _) PySem.F.entry_str_split (PySem.F.args_str_split_3 _ _ _) (meets_str_split_max_cannot_occur x y k t u v hk' h1)
      (fin [(x, t)] s.toks L.2 (if_pos h1).symm)

/-! ## slices -/
inductive EvP (w : World) (n : Nat) (env : Env) (ρ : Mine.Ctx) : Option Expr → Option Int → Prop
  | none : EvP w n env ρ none none
  | some {e : Expr} {k : Int} : Ev w n env ρ e (.int k) → EvP w n env ρ (some e) (some k)
theorem EvP.run {x : Option Expr} {o : Option Int} (p : EvP w n env ρ x o) {h : Heap} (F : Fm w env ρ h) : Run w n h (evalPart x env) (fun _ v => ∃ u : Option (Int × Tok), v = partValue u ∧ u.map (·.1) = o) := by
  cases p with
  | none => exact Run.pure ⟨Option.none, rfl, rfl⟩
  | some x =>
    refine (x h F).imp fun h' v i => ?_
    obtain ⟨t, rfl⟩ := i.isInt
    exact ⟨Option.some (_, t), rfl, rfl⟩
def sliceS (x : Str) (lo hi : Option Int) : Str :=
  if (Builtin.Str.strSliceIndices lo hi 1 x.length).length == x.length then x else ⟨((Builtin.Str.strSliceIndices lo hi 1 x.length).filterMap (x.cps[·]?)).toArray⟩
theorem sliceS_le (x : Str) (lo hi : Option Int) : (sliceS x lo hi).length ≤ x.length := by
  unfold sliceS
  split
  · exact Nat.le_refl _
  · have h1 := indices_len_le lo hi x.length
    have h2 := List.length_filterMap_le (fun i => x.cps[i]?) (Builtin.Str.strSliceIndices lo hi 1 x.length)
    simp only [Str.length, List.size_toArray] at *
    omega
theorem Ev.slice_str {value : Expr} {lower upper : Option Expr} {p pos : Pos} {x : Str} {lo hi : Option Int} (hv : Ev w n env ρ value (.str x)) (hlo : EvP w n env ρ lower lo) (hhi : EvP w n env ρ upper hi) (hx : x.length ≤ 1000000) :
    Ev w n env ρ (.Subscript value (.Slice lower upper none p) pos) (.str (sliceS x lo hi)) := by
  intro h F A s Q E R L hQ
  refine Subscript_ (hv h F A s _ E R L fun a s1 h1 g1 i1 => wpAny_Slice (hlo.run (F.le g1.le) A s1 _ E R g1.ok fun vl s2 h2 g2 i2 => hhi.run (F.le (g1.le.trans g2.le)) A s2 _ E R g2.ok fun vu s3 h3 g3 i3 => ?_))
  obtain ⟨t, rfl⟩ := i1.isStr
  obtain ⟨l, rfl, hl⟩ := i2
  obtain ⟨u, rfl, hu⟩ := i3
  rw [evalPart_none]
  refine wpAny_pure ?_
  have g := (g1.trans g2).trans g3
  have k4 : Keeps s3 { s3 with heap := s3.heap.push { cls := .type "slice", data := .fields #[partValue l, partValue u, .none] } } := push_keeps
  have g4 := g.trans (Grow.vis k4 g3.ok g3.pos)
  refine tail_any (ops := [.ref s3.heap.objs.size, .str x t]) (typeIs_str _ x t) PySem.F.slot_str_getitem.lookup (wpAny_getItem_str_slice (l := l) (u := u) (st := none) ⟨_, Heap.get?_push_size _ rfl, rfl, rfl⟩ rfl ?_) rfl
  unfold sliceMade slicePicked
  rw [hl, hu]
  have e : sliceS x lo hi = sliceS x lo hi := rfl
  unfold sliceS at e
  by_cases hc : ((Builtin.Str.strSliceIndices lo hi 1 x.length).length == x.length) = true
  · rw [if_pos (by simpa using hc)]
    have : sliceS x lo hi = x := by unfold sliceS; rw [if_pos hc]
    rw [this] at hQ
    exact hQ _ _ _ g4 (.str _ _)
  · rw [if_neg (by simpa using hc)]
    have e2 : sliceS x lo hi = ⟨((Builtin.Str.strSliceIndices lo hi 1 x.length).filterMap (x.cps[·]?)).toArray⟩ := by unfold sliceS; rw [if_neg hc]
    have hle := sliceS_le x lo hi
    rw [e2] at hQ hle
    exact ⟨sizeLine_big (Nat.le_trans hle hx), hQ _ _ _ (g4.trans (Grow.toks g4.ok)) (.str _ _)⟩
theorem Ev.slice_upto {value e : Expr} {p pos : Pos} {xs : List PyData} {k : Int} (hv : Ev w n env ρ value (.list xs)) (hhi : Ev w n env ρ e (.int k)) (h0 : 0 ≤ k) (hx : xs.length ≤ 1000000) :
    Ev w n env ρ (.Subscript value (.Slice none (some e) none p) pos) (.list (xs.take k.toNat)) := by
  intro h F A s Q E R L hQ
  refine Subscript_ (hv h F A s _ E R L fun a s1 h1 g1 i1 => wpAny_Slice (wpAny_pure (hhi h1 (F.le g1.le) A s1 _ E R g1.ok fun vu s3 h3 g3 i3 => ?_)))
  obtain ⟨l, us, rfl, hL, hi⟩ := i1.isList
  obtain ⟨t, rfl⟩ := i3.isInt
  rw [evalPart_none]
  refine wpAny_pure ?_
  have g := g1.trans g3
  have k4 : Keeps s3 { s3 with heap := s3.heap.push { cls := .type "slice", data := .fields #[.none, .int k t, .none] } } := push_keeps
  obtain ⟨o, ho, hc, hn⟩ := hL
  have hlen : us.size = xs.length := by have := hi.length; simpa using this
  have hL3 : (s3.heap.push { cls := .type "slice", data := .fields #[.none, .int k t, .none] }).IsList l us := ⟨o, Heap.get?_push_of_some _ (g3.sub _ _ (g3.le _ _ ho)), hc, hn⟩
  refine tail_any (ops := [.ref s3.heap.objs.size, .ref l]) (T := "list") ⟨o, Heap.get?_push_of_some _ (g3.sub _ _ (g3.le _ _ ho)), hc⟩ slot_list_getitem.lookup
    (wpAny_getItem_list_slice hL3 ⟨_, Heap.get?_push_size _ rfl, rfl, rfl⟩ .none (.int k t) .none (by simp) ?_ (by rw [hlen]; exact sizeLine_big hx)) rfl
  have kk : k = (k.toNat : Int) := by omega
  rw [kk, slicePick_upto', ← kk]
  refine hQ _ _ _ (g.trans (Grow.vis (Keeps.trans k4 push_keeps) g3.ok g3.pos)) ?_
  refine .list (vis_some (Heap.get?_push_size _ rfl) (.inl ?_)) rfl rfl ?_
  · refine Heap.get?_none_of_le ?_
    show s3.heap.objs.size ≤ (s3.heap.push _).objs.size
    rw [Heap.size_push]; exact Nat.le_succ _
  · exact (hi.take k.toNat).le (g3.le.trans (le_vis (g3.sub.trans fun b o e => Heap.get?_push_of_some _ (Heap.get?_push_of_some _ e))))
end
end Mine

namespace Mine
open PySem PySem.W PyProof.Rows PySem.Builtin PySem.Builtin.Str

abbrev S (l : List Nat) : Str := ⟨l.toArray⟩
theorem S_list (x : Str) : x = S x.cps.toList := by cases x; simp [S]
theorem S_len (l : List Nat) : (S l).length = l.length := by simp [S, Str.length]
theorem S_cat (a b : List Nat) : S a ++ S b = S (a ++ b) := by rw [str_cat]; simp [S]
theorem S_inj {a b : List Nat} (h : S a = S b) : a = b := by have := congrArg (fun x => x.cps.toList) h; simpa [S] using this

def sub1 (c : Nat) (z : List Nat) (l : List Nat) : List Nat := l.flatMap fun a => if a = c then z else [a]
theorem sub1_free {c : Nat} {z : List Nat} : ∀ {l : List Nat}, c ∉ l → sub1 c z l = l
  | [], _ => rfl
  | a :: l, h => by
    simp only [List.mem_cons, not_or] at h
    have := sub1_free (z := z) h.2
    unfold sub1 at this ⊢
    rw [List.flatMap_cons, this, if_neg (Ne.symm h.1)]; rfl
theorem sub1_append {c : Nat} {z a b : List Nat} : sub1 c z (a ++ b) = sub1 c z a ++ sub1 c z b := by unfold sub1; rw [List.flatMap_append]
theorem join_toList (y z : Str) (c : Nat) (hy : y.cps.toList = [c]) : ∀ parts : List Str, (∀ p ∈ parts, c ∉ p.cps.toList) → (Str.join z parts).cps.toList = sub1 c z.cps.toList (Str.join y parts).cps.toList
  | [], _ => rfl
  | [p], h => (sub1_free (h p (List.mem_singleton.mpr rfl))).symm
  | p :: q :: r, h => by
    have ih := join_toList y z c hy (q :: r) fun p' hp => h p' (List.mem_cons_of_mem _ hp)
    show (p ++ z ++ Str.join z (q :: r)).cps.toList = sub1 c z.cps.toList (p ++ y ++ Str.join y (q :: r)).cps.toList
    simp only [str_cat, Array.toList_append, sub1_append]
    rw [ih, sub1_free (h p List.mem_cons_self), hy]
    simp [sub1]
theorem replaceL (l z : List Nat) (c : Nat) : Txt.replace (S l) (S [c]) (S z) = S (sub1 c z l) := by
  show Txt.replace (S l) ⟨#[c]⟩ (S z) = _
  rw [StrLaws.replace_one, S_list (Str.join (S z) _)]
  congr 1
  have h1 := join_toList ⟨#[c]⟩ (S z) c rfl (Txt.split (S l) ⟨#[c]⟩) (StrLaws.split_free (S l) c)
  rw [StrLaws.join_split] at h1
  rw [h1]

def joinL (sep : List Nat) : List (List Nat) → List Nat
  | [] => []
  | [x] => x
  | x :: rest => x ++ sep ++ joinL sep rest
theorem joinL_eq (sep : List Nat) : ∀ ls : List (List Nat), Txt.join (S sep) (ls.map S) = S (joinL sep ls) := by
  intro ls
  unfold Txt.join
  rw [StrLaws.glued_eq_join]
  induction ls with
  | nil => rfl
  | cons x r ih =>
    cases r with
    | nil => rfl
    | cons y r =>
      show S x ++ S sep ++ Str.join (S sep) ((y :: r).map S) = S (x ++ sep ++ joinL sep (y :: r))
      rw [ih, S_cat, S_cat]

theorem sliceS_plain (l : List Nat) (a b : Nat) (hab : a ≤ b) (hb : b ≤ l.length) : sliceS (S l) (some a) (some b) = S ((l.drop a).take (b - a)) := by
  unfold sliceS
  rw [StrLaws.strSliceIndices_plain hab (by rw [S_len]; exact hb)]
  split
  · rename_i h
    simp only [List.length_map, List.length_range, S_len, beq_iff_eq] at h
    have ha : a = 0 := by omega
    subst ha
    have : b = l.length := by omega
    subst this
    simp
  · have := StrLaws.picks l (b - a) a (by omega)
    show (⟨_⟩ : Str) = ⟨_⟩
    congr 1
    rw [← this]
    simp [S]
theorem slice_mid (l : List Nat) (h : 2 ≤ l.length) : sliceS (S l) (some 1) (some (-1)) = S (l.drop 1).dropLast := by
  have e : sliceS (S l) (some 1) (some (-1)) = sliceS (S l) (some ((1 : Nat) : Int)) (some ((l.length - 1 : Nat) : Int)) := by
    unfold sliceS
    rw [StrLaws.sliceIdx_neg_hi _ _ (by omega) (by rw [S_len]; omega), S_len]
    have : (-1 : Int) + (l.length : Int) = ((l.length - 1 : Nat) : Int) := by omega
    rw [this]; rfl
  rw [e, sliceS_plain l 1 (l.length - 1) (by omega) (by omega), List.dropLast_eq_take]
  congr 1
  rw [List.length_drop]
theorem slice_first (l : List Nat) (h : 1 ≤ l.length) : sliceS (S l) none (some 1) = S (l.take 1) := by
  have e : sliceS (S l) none (some 1) = sliceS (S l) (some ((0 : Nat) : Int)) (some ((1 : Nat) : Int)) := by
    unfold sliceS
    rw [StrLaws.sliceIdx_none_lo]; rfl
  rw [e, sliceS_plain l 0 1 (by omega) h]; rfl
theorem slice_rest (l : List Nat) (h : 1 ≤ l.length) : sliceS (S l) (some 1) none = S (l.drop 1) := by
  have e : sliceS (S l) (some 1) none = sliceS (S l) (some ((1 : Nat) : Int)) (some ((l.length : Nat) : Int)) := by
    unfold sliceS
    rw [StrLaws.sliceIdx_none_hi, S_len]; rfl
  rw [e, sliceS_plain l 1 l.length h (by omega)]
  congr 1
  rw [List.take_of_length_le]
  rw [List.length_drop]
  exact Nat.le_refl _

theorem containsL (l : List Nat) (c : Nat) : Txt.contains (S l) (S [c]) = decide (c ∈ l) := by
  have := StrLaws.found_one (S l) c
  show (!(occurrences (S l) ⟨#[c]⟩ 0 (S l).length 1).isEmpty) = _
  rw [this]

theorem strSub_S (l : List Nat) (i j : Nat) : strSub (S l) i j = S ((l.drop i).take (j - i)) := by
  rw [S_list (strSub (S l) i j), StrLaws.strSub_toList]

theorem splitL {k v : List Nat} {c : Nat} (hk : c ∉ k) (hs : PySem.Builtin.Str.strKind (S [c]) = 1) : Txt.splitMax (S (k ++ c :: v)) (S [c]) 1 = [S k, S v] := by
  unfold Txt.splitMax
  have h1 : (decide ((S (k ++ c :: v)).length < (S [c]).length) || decide (PySem.Builtin.Str.strKind (S (k ++ c :: v)) < PySem.Builtin.Str.strKind (S [c]))) = false := by
    rw [hs, S_len, S_len]
    simp only [List.length_append, List.length_cons, List.length_nil, Bool.or_eq_false_iff, decide_eq_false_iff_not]
    refine ⟨by omega, ?_⟩
    unfold PySem.Builtin.Str.strKind
    split
    · omega
    · split <;> omega
  rw [h1, if_neg Bool.false_ne_true]
  have hlim : limitOf (S (k ++ c :: v)) 1 = 1 := rfl
  rw [hlim]
  have hat : ∀ i, StrLaws.At (S (k ++ c :: v)) (S [c]) (S (k ++ c :: v)).length i ↔ (k ++ c :: v)[i]? = some c := by
    intro i
    unfold StrLaws.At
    rw [StrLaws.subAt_eq]
    simp only [S_len, List.length_singleton, beq_iff_eq]
    constructor
    · rintro ⟨_, h2⟩
      have h3 := congrArg (fun l : List Nat => l[0]?) h2
      have h4 : (((k ++ c :: v).drop i).take 1)[0]? = some c := h3
      rw [List.getElem?_take_of_lt (by decide), List.getElem?_drop] at h4
      exact h4
    · intro h2
      have hl : i < (k ++ c :: v).length := by
        rcases Nat.lt_or_ge i (k ++ c :: v).length with q | q
        · exact q
        · rw [List.getElem?_eq_none q] at h2; cases h2
      refine ⟨hl, ?_⟩
      show ((k ++ c :: v).drop i).take 1 = [c]
      rw [List.drop_eq_getElem_cons hl]
      rw [List.getElem?_eq_getElem hl] at h2
      injection h2 with h2
      rw [h2]; rfl
  have hocc : occurrences (S (k ++ c :: v)) (S [c]) 0 (S (k ++ c :: v)).length 1 = [k.length] := by
    have hle := StrLaws.occ_length_le (S (k ++ c :: v)) (S [c]) 0 (S (k ++ c :: v)).length 1
    rcases StrLaws.occ_head (S (k ++ c :: v)) (S [c]) 1 (Nat.le_refl _) with ⟨h0, hn⟩ | ⟨i, r, e, ha, hn⟩
    · exact absurd ((hat k.length).mpr (by simp)) (hn k.length)
    · rw [e] at hle ⊢
      have hr : r = [] := by cases r with | nil => rfl | cons _ _ => simp at hle
      subst hr
      have hi := (hat i).mp ha
      have : i = k.length := by
        rcases Nat.lt_trichotomy i k.length with h | h | h
        · rw [List.getElem?_append_left h] at hi
          exact absurd (List.mem_of_getElem? hi) hk
        · exact h
        · exact absurd ((hat k.length).mpr (by simp)) (hn k.length h)
      rw [this]
  rw [hocc]
  rw [if_neg (by simp)]
  unfold partsBetween
  simp only [List.map_cons, List.map_nil, List.zip_cons_cons, List.cons_append, List.nil_append, List.zip_nil_left, S_len, List.length_singleton, strSub_S]
  congr 1
  · congr 1
    simp
  · congr 1
    congr 1
    simp
    apply List.take_of_length_le
    omega

theorem strip_at (l m : List Nat) (n : Nat) (hl : (l.takeWhile Unicode.isSpace).length = n) (hm : l.drop n = m) (hne : m ≠ []) (h2 : Unicode.isSpace (m.getLast hne) = false) : Txt.strip (S l) = S m := by
  unfold Txt.strip
  rw [PyProof.Rows.stripBy_eq]
  have e1 : stripLo Unicode.isSpace true (S l) = n := by unfold stripLo; simp only [if_true]; exact hl
  rw [e1]
  have e2 : stripHi Unicode.isSpace true (S l) n = l.length := by
    unfold stripHi
    simp only [if_true]
    show (S l).length - ((l.drop n).reverse.takeWhile Unicode.isSpace).length = l.length
    rw [hm, S_len]
    have : (m.reverse.takeWhile Unicode.isSpace) = [] := by
      rw [← List.dropLast_concat_getLast hne, List.reverse_append, List.reverse_singleton, List.singleton_append, List.takeWhile_cons, h2]
      rfl
    rw [this]; rfl
  rw [e2, strSub_S, hm]
  congr 1
  apply List.take_of_length_le
  rw [← hm, List.length_drop]
  exact Nat.le_refl _
theorem strip_none {m : List Nat} (hne : m ≠ []) (h1 : Unicode.isSpace (m.head hne) = false) (h2 : Unicode.isSpace (m.getLast hne) = false) : Txt.strip (S m) = S m := by
  refine strip_at m m 0 ?_ rfl hne h2
  cases m with
  | nil => exact absurd rfl hne
  | cons a r => rw [List.takeWhile_cons]; simp only [List.head_cons] at h1; rw [h1]; rfl
theorem strip_sp {m : List Nat} (hne : m ≠ []) (h1 : Unicode.isSpace (m.head hne) = false) (h2 : Unicode.isSpace (m.getLast hne) = false) : Txt.strip (S (32 :: m)) = S m := by
  refine strip_at (32 :: m) m 1 ?_ rfl hne h2
  cases m with
  | nil => exact absurd rfl hne
  | cons a r => rw [List.takeWhile_cons, show Unicode.isSpace 32 = true from by decide +kernel, if_pos rfl, List.takeWhile_cons]; simp only [List.head_cons] at h1; rw [h1]; rfl
end Mine

namespace Mine
open PySem PySem.W PyProof.Rows

theorem Fn.of1 {w : World} {n : Nat} {a : Addr} {fd : FuncData} {body : List Stmt} (x : Str) {d1 d : PyData} (D : DefAt w a fd body) (hbind : ∀ v, bindArgs fd ⟨[v], []⟩ = pure [(x, v)]) (hk : fd.scope.names.lookup x = some .local)
    (hB : ∀ (s : Shared) (h : Heap) (L : Nat), Bx w n s h (callEnvC fd L a) [(x, d1)] (execs body (callEnvC fd L a)) d) : Fn w (n + 1) a [d1] d := by
  refine Fn.of (names := [x]) D (fun vs hv => ?_) rfl (by simp) (fun L y hy => ?_) hB
  · match vs, hv with
    | [v], _ => exact hbind v
  · simp only [List.mem_singleton] at hy; subst hy; exact .inl hk
theorem Fn.of2 {w : World} {n : Nat} {a : Addr} {fd : FuncData} {body : List Stmt} (x y : Str) {d1 d2 d : PyData} (D : DefAt w a fd body) (hbind : ∀ v u, bindArgs fd ⟨[v, u], []⟩ = pure [(x, v), (y, u)])
    (hk : fd.scope.names.lookup x = some .local) (hk2 : fd.scope.names.lookup y = some .local) (hne : x ≠ y)
    (hB : ∀ (s : Shared) (h : Heap) (L : Nat), Bx w n s h (callEnvC fd L a) [(x, d1), (y, d2)] (execs body (callEnvC fd L a)) d) : Fn w (n + 1) a [d1, d2] d := by
  refine Fn.of (names := [x, y]) D (fun vs hv => ?_) rfl (by simp [hne]) (fun L z hz => ?_) hB
  · match vs, hv with
    | [v, u], _ => exact hbind v u
  · simp only [List.mem_cons, List.not_mem_nil, or_false] at hz
    rcases hz with rfl | rfl
    · exact .inl hk
    · exact .inl hk2

local macro_rules | `(tactic| walk_at "fn") => `(tactic| exact ⟨⟨_, _, _, rfl⟩, rfl, rfl, rfl, rfl, rfl, rfl, rfl, rfl⟩)
local macro_rules | `(tactic| walk_at "gl") => `(tactic| first | exact Gl.text rfl rfl | exact Gl.builtin rfl rfl rfl (by decide))

section
variable {w : World}

theorem fn_ctoi_int {c : Int} : Fn w 1 33 [.int c] (.int c) := by
  refine Fn.of1 "c" (by walk_at "fn") (fun _ => rfl) rfl fun s h L => ?_
  refine Bx.ite (c := false) (Ts.value (Ev.isinst (d := .int c) (b := false) (by walk_at "gl") (Ev.name rfl) (by walk_at "gl") (.inr ⟨⟨_, rfl⟩, rfl⟩)) tr_bool) (fun h => by cases h) fun _ => ?_
  exact Bx.ret (Ev.name rfl)
theorem fn_ctoi_str {c : Nat} : Fn w 1 33 [.str ⟨#[c]⟩] (.int c) := by
  refine Fn.of1 "c" (by walk_at "fn") (fun _ => rfl) rfl fun s h L => ?_
  refine Bx.ite (c := true) (Ts.value (Ev.isinst (d := .str ⟨#[c]⟩) (b := true) (by walk_at "gl") (Ev.name rfl) (by walk_at "gl") (.inl ⟨⟨_, rfl⟩, rfl⟩)) tr_bool) (fun _ => ?_) fun h => by cases h
  exact Bx.ret (Ev.ord (by walk_at "gl") (Ev.name rfl))
theorem fn_isprint {c : Int} : Fn w 2 40 [.int c] (.bool (decide (32 ≤ c) && decide (c ≤ 126))) := by
  refine Fn.of1 "c" (by walk_at "fn") (fun _ => rfl) rfl fun s h L => ?_
  exact Bx.ret (Ev.chain Ev.int (Ev.call (by walk_at "gl") (Evs.cons (Ev.name rfl) Evs.nil) rfl fn_ctoi_int) Ev.int)
theorem fn_ctrl {c : Int} : Fn w 2 47 [.int c] (.int (Builtin.bitAnd c 31)) := by
  refine Fn.of1 "c" (by walk_at "fn") (fun _ => rfl) rfl fun s h L => ?_
  refine Bx.ite (c := false) (Ts.value (Ev.isinst (d := .int c) (b := false) (by walk_at "gl") (Ev.name rfl) (by walk_at "gl") (.inr ⟨⟨_, rfl⟩, rfl⟩)) tr_bool) (fun h => by cases h) fun _ => ?_
  exact Bx.ret (Ev.bin (Ev.call (by walk_at "gl") (Evs.cons (Ev.name rfl) Evs.nil) rfl fn_ctoi_int) Ev.int op_and)
theorem fn_alt {c : Int} : Fn w 2 54 [.int c] (.int (Builtin.bitOr c 128)) := by
  refine Fn.of1 "c" (by walk_at "fn") (fun _ => rfl) rfl fun s h L => ?_
  refine Bx.ite (c := false) (Ts.value (Ev.isinst (d := .int c) (b := false) (by walk_at "gl") (Ev.name rfl) (by walk_at "gl") (.inr ⟨⟨_, rfl⟩, rfl⟩)) tr_bool) (fun h => by cases h) fun _ => ?_
  exact Bx.ret (Ev.bin (Ev.call (by walk_at "gl") (Evs.cons (Ev.name rfl) Evs.nil) rfl fn_ctoi_int) Ev.int op_or)

/-- what unctrl shows -/
def showBase (c : Int) : Str :=
  if c == 127 then Str.ofString "^?" else if (decide (32 ≤ Builtin.bitAnd c 127) && decide (Builtin.bitAnd c 127 ≤ 126)) then ⟨#[(Builtin.bitAnd c 127).toNat]⟩
  else Str.ofString "^" ++ ⟨#[(Builtin.bitOr (Builtin.bitAnd c 127) 32 + 32).toNat]⟩
def shown (c : Int) : Str := if Builtin.bitAnd c 128 != 0 then Str.ofString "!" ++ showBase c else showBase c
theorem showBase_len (c : Int) : (showBase c).length ≤ 2 := by
  unfold showBase
  split
  · decide
  · split
    · show 1 ≤ 2; decide
    · show (#[94] ++ #[_]).size ≤ 2; simp
theorem shown_len (c : Int) : (shown c).length ≤ 3 := by
  have := showBase_len c
  unfold shown
  split
  · show (#[33] ++ (showBase c).cps).size ≤ 3
    rw [Array.size_append]
    have : (showBase c).cps.size ≤ 2 := this
    simp; omega
  · omega

/-- bounds of the two bit words that unctrl asks -/
def BitsOk (c : Int) : Prop := 0 ≤ Builtin.bitAnd c 127 ∧ Builtin.bitAnd c 127 ≤ 127 ∧ 0 ≤ Builtin.bitOr (Builtin.bitAnd c 127) 32 ∧ Builtin.bitOr (Builtin.bitAnd c 127) 32 ≤ 127

theorem cat_len (x y : Str) : (x ++ y).length ≤ x.length + y.length := by show (x.cps ++ y.cps).size ≤ _; rw [Array.size_append]; exact Nat.le_refl _

theorem unctrl_body {c : Int} {d : PyData} (hc : Fn w 1 33 [d] (.int c)) (hb : BitsOk c) (hd : flat d = true) : Fn w 3 61 [d] (.str (shown c)) := by
  refine Fn.of1 "c" (by walk_at "fn") (fun _ => rfl) rfl fun s h L => ?_
  refine Bx.assign (d1 := .int c) (Ev.call (by walk_at "gl") (Evs.cons (Ev.name rfl) Evs.nil) rfl (hc.mono (by decide))) rfl (by simp [flatCtx, hd]) rfl rfl ?_
  refine Bx.ite (c := c == 127) (Ts.cmp (Ev.name rfl) Ev.int op_eq_int) (fun h1 => ?_) fun h1 => ?_
  · have hb' : showBase c = Str.ofString "^?" := by unfold showBase; rw [if_pos h1]
    refine Bx.assign (d1 := .str (Str.ofString "^?")) Ev.str rfl (by simp [flatCtx, flat, hd]) rfl rfl ?_
    refine Bx.ite (c := Builtin.bitAnd c 128 != 0) (Ts.value (Ev.bin (Ev.name rfl) Ev.int op_and) tr_int) (fun h1 => ?_) fun h1 => ?_
    · rw [show shown c = Str.ofString "!" ++ showBase c from by unfold shown; rw [if_pos h1], hb']
      exact Bx.ret (Ev.bin Ev.str (Ev.name rfl) (op_cat (by rw [← hb']; exact Nat.le_trans (Nat.le_trans (cat_len _ _) (Nat.add_le_add_left (showBase_len c) _)) (by decide))))
    · rw [show shown c = showBase c from by unfold shown; rw [h1]; rfl, hb']
      exact Bx.ret (Ev.name rfl)
  · refine Bx.ite (c := decide (32 ≤ Builtin.bitAnd c 127) && decide (Builtin.bitAnd c 127 ≤ 126)) (Ts.value (Ev.call (by walk_at "gl") (Evs.cons (Ev.bin (Ev.name rfl) Ev.int op_and) Evs.nil) rfl fn_isprint) tr_bool) (fun h2 => ?_) fun h2 => ?_
    · have hb' : showBase c = ⟨#[(Builtin.bitAnd c 127).toNat]⟩ := by unfold showBase; rw [h1, h2]; rfl
      refine Bx.assign (d1 := .str ⟨#[(Builtin.bitAnd c 127).toNat]⟩) (Ev.chr (by walk_at "gl") (Ev.bin (Ev.name rfl) Ev.int op_and) hb.1 (by have := hb.2.1; omega)) rfl (by simp [flatCtx, flat, hd]) rfl rfl ?_
      refine Bx.ite (c := Builtin.bitAnd c 128 != 0) (Ts.value (Ev.bin (Ev.name rfl) Ev.int op_and) tr_int) (fun h1 => ?_) fun h1 => ?_
      · rw [show shown c = Str.ofString "!" ++ showBase c from by unfold shown; rw [if_pos h1], hb']
        exact Bx.ret (Ev.bin Ev.str (Ev.name rfl) (op_cat (by rw [← hb']; exact Nat.le_trans (Nat.le_trans (cat_len _ _) (Nat.add_le_add_left (showBase_len c) _)) (by decide))))
      · rw [show shown c = showBase c from by unfold shown; rw [h1]; rfl, hb']
        exact Bx.ret (Ev.name rfl)
    · have hb' : showBase c = Str.ofString "^" ++ ⟨#[(Builtin.bitOr (Builtin.bitAnd c 127) 32 + 32).toNat]⟩ := by unfold showBase; rw [h1, h2]; rfl
      refine Bx.assign (d1 := .str (Str.ofString "^" ++ ⟨#[(Builtin.bitOr (Builtin.bitAnd c 127) 32 + 32).toNat]⟩)) (Ev.bin Ev.str (Ev.chr (by walk_at "gl") (Ev.bin (Ev.bin (Ev.bin (Ev.name rfl) Ev.int op_and) Ev.int op_or) Ev.int op_add) (by have := hb.2.2.1; omega) (by have := hb.2.2.2; omega)) (op_cat (by rw [← hb']; exact Nat.le_trans (showBase_len c) (by decide)))) rfl (by simp [flatCtx, flat, hd]) rfl rfl ?_
      refine Bx.ite (c := Builtin.bitAnd c 128 != 0) (Ts.value (Ev.bin (Ev.name rfl) Ev.int op_and) tr_int) (fun h1 => ?_) fun h1 => ?_
      · rw [show shown c = Str.ofString "!" ++ showBase c from by unfold shown; rw [if_pos h1], hb']
        exact Bx.ret (Ev.bin Ev.str (Ev.name rfl) (op_cat (by rw [← hb']; exact Nat.le_trans (Nat.le_trans (cat_len _ _) (Nat.add_le_add_left (showBase_len c) _)) (by decide))))
      · rw [show shown c = showBase c from by unfold shown; rw [h1]; rfl, hb']
        exact Bx.ret (Ev.name rfl)

theorem fn_unctrl_int {c : Int} (hb : BitsOk c) : Fn w 3 61 [.int c] (.str (shown c)) := unctrl_body fn_ctoi_int hb rfl
theorem fn_unctrl_str {c : Nat} (hb : BitsOk c) : Fn w 3 61 [.str ⟨#[c]⟩] (.str (shown c)) := unctrl_body fn_ctoi_str hb rfl
end
end Mine

namespace Mine
open PySem PySem.W PyProof.Rows

local macro_rules | `(tactic| walk_at "fn") => `(tactic| exact ⟨⟨_, _, _, rfl⟩, rfl, rfl, rfl, rfl, rfl, rfl, rfl, rfl⟩)
local macro_rules | `(tactic| walk_at "gl") => `(tactic| first | exact Gl.text rfl rfl | exact Gl.builtin rfl rfl rfl (by decide))

theorem Ev.conv {w : World} {n : Nat} {env : Env} {ρ : Mine.Ctx} {e : Expr} {d d' : PyData} (x : Ev w n env ρ e d) (h : d = d') : Ev w n env ρ e d' := h ▸ x
theorem outOf_all {α : Type} (f : α → PyData) (ys : List α) : outOf (fun _ => true) f ys = ys.map f := by unfold outOf; rw [List.filter_eq_self.mpr (fun _ _ => rfl)]

section
variable {w : World}

/-! ## _law_same -/
def same (c : Int) : Int := (if (c.fmod 128 == 127 && c != 127) then 383 else c.fmod 128) + 128 * ((c.fdiv 128).fmod 2)
theorem fn_same {c : Int} : Fn w 1 94 [.int c] (.int (same c)) := by
  refine Fn.of1 "code" (by walk_at "fn") (fun _ => rfl) rfl fun s h L => ?_
  refine Bx.assign (d1 := .int (if (c.fmod 128 == 127 && c != 127) then 383 else c.fmod 128)) ?_ rfl rfl rfl rfl ?_
  · refine Ev.ite (c := c.fmod 128 == 127 && c != 127) (Ts.and (Ts.cmp (Ev.bin (Ev.name rfl) Ev.int (op_mod (by decide))) Ev.int op_eq_int) fun _ => Ts.cmp (Ev.name rfl) Ev.int op_ne_int) (fun hc => ?_) fun hc => ?_
    · rw [hc]; exact Ev.int
    · rw [hc]; exact Ev.bin (Ev.name rfl) Ev.int (op_mod (by decide))
  · exact Bx.ret (Ev.bin (Ev.name rfl) (Ev.bin Ev.int (Ev.bin (Ev.bin (Ev.name rfl) Ev.int (op_div (by decide) (by decide))) Ev.int (op_mod (by decide))) (op_mul (by decide))) op_add)

/-! ## _law_quoted -/
def esc (l : List Nat) : List Nat := sub1 34 [92, 34] (sub1 92 [92, 92] l)
def quotedL (l : List Nat) : List Nat := [34] ++ esc l ++ [34]
theorem sub1_len (c : Nat) (z : List Nat) (hz : z.length ≤ 2) : ∀ l : List Nat, (sub1 c z l).length ≤ 2 * l.length
  | [] => by simp [sub1]
  | a :: l => by
    have ih := sub1_len c z hz l
    unfold sub1 at ih ⊢
    rw [List.flatMap_cons, List.length_append, List.length_cons]
    split
    · omega
    · rw [List.length_singleton]; omega
theorem esc_len (l : List Nat) : (esc l).length ≤ 4 * l.length := by
  have h1 := sub1_len 92 [92, 92] (by decide) l
  have h2 := sub1_len 34 [92, 34] (by decide) (sub1 92 [92, 92] l)
  unfold esc; omega
theorem quotedL_len (l : List Nat) : (quotedL l).length ≤ 4 * l.length + 2 := by
  have := esc_len l
  unfold quotedL; simp; omega
theorem c_bs : Str.ofString "\\" = S [92] := by decide +kernel
theorem c_bs2 : Str.ofString "\\\\" = S [92, 92] := by decide +kernel
theorem c_q : Str.ofString "\"" = S [34] := by decide +kernel
theorem c_bq : Str.ofString "\\\"" = S [92, 34] := by decide +kernel
theorem c_cs : Str.ofString ", " = S [44, 32] := by decide +kernel
theorem c_eq : Str.ofString "=" = S [61] := by decide +kernel

theorem fn_quoted {l : List Nat} (hl : l.length ≤ 10000) : Fn w 1 75 [.str (S l)] (.str (S (quotedL l))) := by
  refine Fn.of1 "text" (by walk_at "fn") (fun _ => rfl) rfl fun s h L => ?_
  have e1 : Txt.replace (S l) (Str.ofString "\\") (Str.ofString "\\\\") = S (sub1 92 [92, 92] l) := by rw [c_bs, c_bs2, replaceL]
  have e2 : Txt.replace (S (sub1 92 [92, 92] l)) (Str.ofString "\"") (Str.ofString "\\\"") = S (esc l) := by rw [c_q, c_bq, replaceL]; rfl
  have h1 := sub1_len 92 [92, 92] (by decide) l
  have h2 := esc_len l
  refine Bx.ret (Ev.conv (Ev.bin (Ev.bin Ev.str (Ev.conv (Ev.replace (Ev.conv (Ev.replace (Ev.name rfl) (by decide +kernel) (by rw [S_len]; omega) (by decide)) (congrArg PyData.str e1)) (by decide +kernel) (by rw [S_len]; omega) (by decide)) (congrArg PyData.str e2)) (op_cat ?_)) Ev.str (op_cat ?_)) ?_)
  · rw [c_q, S_cat, S_len]; simp; omega
  · rw [c_q, S_cat, S_cat, S_len]; simp; omega
  · rw [c_q, S_cat, S_cat]; rfl
end
end Mine

namespace Mine
open PySem PySem.W PyProof.Rows

local macro_rules | `(tactic| walk_at "fn") => `(tactic| exact ⟨⟨_, _, _, rfl⟩, rfl, rfl, rfl, rfl, rfl, rfl, rfl, rfl⟩)
local macro_rules | `(tactic| walk_at "gl") => `(tactic| first | exact Gl.text rfl rfl | exact Gl.builtin rfl rfl rfl (by decide))

theorem nocl {ρb : Mine.Ctx} {env : Env} : ∀ x c, ([] : List (Str × Addr)).lookup x = some c → (ρb.lookup x).isSome = true ∧ env.cells.lookup x = some c := fun _ _ e => by simp at e

section
variable {w : World}

def shownL (c : Int) : List Nat := (shown c).cps.toList
theorem shown_S (c : Int) : shown c = S (shownL c) := S_list _
theorem shownL_len (c : Int) : (shownL c).length ≤ 3 := by have := shown_len c; unfold shownL; simpa [Str.length] using this

def noKeys (k : Int) : List Nat := if k.fmod 2 = 0 then [61, 34, 110, 111, 34, 32, 107, 101, 121, 115] else [61, 110, 111, 32, 34, 107, 101, 121, 115, 34]
def innerL (macros : List Int) : List Nat := joinL [44, 32] (macros.map fun c => quotedL (shownL c))
def writtenL (key : Int) (macros : List Int) : List Nat := if macros.isEmpty then shownL key ++ noKeys key else shownL key ++ [61] ++ quotedL (innerL macros)

theorem c_no1 : Str.ofString "=\"no\" keys" = S [61, 34, 110, 111, 34, 32, 107, 101, 121, 115] := by decide +kernel
theorem c_no2 : Str.ofString "=no \"keys\"" = S [61, 110, 111, 32, 34, 107, 101, 121, 115, 34] := by decide +kernel

theorem fmod2 (k : Int) : k.fmod 2 = 0 ∨ k.fmod 2 = 1 := by
  have h1 := Int.fmod_nonneg_of_pos k (b := 2) (by decide)
  have h2 := Int.fmod_lt_of_pos k (b := 2) (by decide)
  omega

theorem joinL_len (sep : List Nat) (k : Nat) : ∀ ls : List (List Nat), (∀ l ∈ ls, l.length ≤ k) → (joinL sep ls).length ≤ ls.length * (k + sep.length)
  | [], _ => by simp [joinL]
  | [x], h => by have := h x (List.mem_singleton.mpr rfl); simp [joinL]; omega
  | x :: y :: r, h => by
    have ih := joinL_len sep k (y :: r) fun l hl => h l (List.mem_cons_of_mem _ hl)
    have hx := h x List.mem_cons_self
    show (x ++ sep ++ joinL sep (y :: r)).length ≤ (y :: r).length.succ * (k + sep.length)
    rw [List.length_append, List.length_append, Nat.succ_mul]
    omega
theorem joinOk_of (sep : Str) (ts : List Str) (k : Nat) (hk : ∀ t ∈ ts, t.length + sep.length ≤ k) (hb : ts.length * k ≤ 1000000) : JoinOk sep ts = true := by
  unfold JoinOk
  have key : ∀ (l : List Str) (a : Nat), (∀ t ∈ l, t.length + sep.length ≤ k) → l.foldl (fun a t => a + t.length + sep.length) a ≤ a + l.length * k := by
    intro l
    induction l with
    | nil => intro a _; simp
    | cons t r ih =>
      intro a h
      have h1 := h t List.mem_cons_self
      have h2 := ih (a + t.length + sep.length) fun t' ht => h t' (List.mem_cons_of_mem _ ht)
      simp only [List.foldl_cons, List.length_cons, Nat.succ_mul]
      omega
  have h1 := key ts 0 hk
  rw [List.foldl_toArray]
  unfold Builtin.Str.tooLong
  simp only [Bool.not_eq_true', decide_eq_false_iff_not, Nat.not_lt]
  refine Nat.le_trans h1 ?_
  rw [Nat.zero_add]
  exact sizeLine_big hb

/-- a code that may be typed -/
def CodeOk (c : Int) : Prop := 0 ≤ c ∧ c ≤ 1000 ∧ BitsOk c
theorem toNat_cast {c : Int} (h : 0 ≤ c) : ((c.toNat : Nat) : Int) = c := by omega

theorem fn_written {key : Int} {macros : List Int} (hk : BitsOk key) (hm : ∀ c ∈ macros, CodeOk c) (hl : macros.length ≤ 10) : Fn w 5 80 [.int key, .list (macros.map .int)] (.str (S (writtenL key macros))) := by
  refine Fn.of2 "key" "macro" (by walk_at "fn") (fun _ _ => rfl) rfl rfl (by decide) fun s h L => ?_
  have hsk := shownL_len key
  refine Bx.ite (c := !(!(macros.map PyData.int).isEmpty)) (Ts.not (Ts.value (Ev.name rfl) (tr_list (by simp; omega)))) (fun hc => ?_) fun hc => ?_
  · have hem : macros.isEmpty = true := by simpa using hc
    have e : S (writtenL key macros) = shown key ++ (if key.fmod 2 = 0 then Str.ofString "=\"no\" keys" else Str.ofString "=no \"keys\"") := by
      unfold writtenL noKeys
      rw [if_pos hem, shown_S, c_no1, c_no2]
      split <;> rw [S_cat]
    have hlen : (shown key ++ (if key.fmod 2 = 0 then Str.ofString "=\"no\" keys" else Str.ofString "=no \"keys\"")).length ≤ 1000000 := by
      rw [← e, S_len]; unfold writtenL noKeys; rw [if_pos hem]; split <;> simp <;> omega
    rw [e]
    refine Bx.ret (Ev.bin (Ev.call (by walk_at "gl") (Evs.cons (Ev.name rfl) Evs.nil) rfl ((fn_unctrl_int hk).mono (by decide))) (Ev.item_tuple (xs := [.str (Str.ofString "=\"no\" keys"), .str (Str.ofString "=no \"keys\"")]) (k := key.fmod 2) (Ev.tuple (Evs.cons Ev.str (Evs.cons Ev.str Evs.nil))) (Ev.bin (Ev.name rfl) Ev.int (op_mod (by decide))) ?_ ?_ (by decide) ?_) (op_cat hlen))
    · rcases fmod2 key with h1 | h1 <;> omega
    · rcases fmod2 key with h1 | h1 <;> (show _ < ((2 : Nat) : Int)) <;> omega
    · rcases fmod2 key with h1 | h1 <;> rw [h1] <;> rfl
  · have hem : macros.isEmpty = false := by simpa using hc
    have hq : ∀ c ∈ macros, (quotedL (shownL c)).length ≤ 14 := fun c _ => by have h1 := quotedL_len (shownL c); have h2 := shownL_len c; omega
    have hin : (innerL macros).length ≤ 160 := by
      have := joinL_len [44, 32] 14 (macros.map fun c => quotedL (shownL c)) (fun l hl' => by obtain ⟨c, hc', rfl⟩ := List.mem_map.mp hl'; exact hq c hc')
      simp only [List.length_map, List.length_cons, List.length_nil] at this
      unfold innerL; omega
    have hqi := quotedL_len (innerL macros)
    have e : S (writtenL key macros) = shown key ++ Str.ofString "=" ++ S (quotedL (innerL macros)) := by
      unfold writtenL
      rw [hem, shown_S, c_eq, S_cat, S_cat]; rfl
    rw [e]
    refine Bx.ret (Ev.bin (Ev.bin (Ev.call (by walk_at "gl") (Evs.cons (Ev.name rfl) Evs.nil) rfl ((fn_unctrl_int hk).mono (by decide))) Ev.str (op_cat ?_)) (Ev.call (by walk_at "gl") (Evs.cons (Ev.conv (Ev.join (ys := macros.map fun c => S (quotedL (shownL c))) Ev.str ?_ ?_) ?_) Evs.nil) rfl ((fn_quoted (by omega)).mono (by decide))) (op_cat ?_))
    · rw [shown_S, c_eq, S_cat, S_len]; simp; omega
    · refine Ev.conv (Ev.comp (cl := []) (ρb := []) (xs := macros.map .int) (out := outOf (fun _ => true) (fun c => .str (S (quotedL (shownL c)))) macros) (EvI.list (Ev.name rfl)) rfl rfl (by decide) nocl trivial
        (LoopOk.one macros .int (fun c => [("code", .int c)]) (fun _ => true) (fun c => .str (S (quotedL (shownL c)))) (fun C _ c hc' => ⟨.name rfl, .inl ⟨rfl, rfl⟩, fun _ => ?_, fun _ => rfl⟩) (by omega))) ?_
      · obtain ⟨c0, c1, cb⟩ := hm c hc'
        have hu : Fn w 3 61 [.str ⟨#[c.toNat]⟩] (.str (S (shownL c))) := by
          have := fn_unctrl_str (w := w) (c := c.toNat) (by rw [toNat_cast c0]; exact cb)
          rwa [toNat_cast c0, shown_S] at this
        exact Ev.call (by walk_at "gl") (Evs.cons (Ev.call (by walk_at "gl") (Evs.cons (Ev.chr (by walk_at "gl") (Ev.name rfl) c0 (by omega)) Evs.nil) rfl (hu.mono (by decide))) Evs.nil) rfl ((fn_quoted (by have := shownL_len c; omega)).mono (by decide))
      · rw [outOf_all, List.map_map]; rfl
    · refine joinOk_of _ _ 16 (fun t ht => ?_) (by simp; omega)
      obtain ⟨c, hc', rfl⟩ := List.mem_map.mp ht
      have := hq c hc'
      rw [c_cs, S_len, S_len]; simp; omega
    · have : (macros.map fun c => S (quotedL (shownL c))) = (macros.map fun c => quotedL (shownL c)).map S := by rw [List.map_map]; rfl
      rw [this, c_cs, joinL_eq]; rfl
    · rw [shown_S, c_eq, S_cat, S_cat, S_len]; simp; omega

end
end Mine

namespace Mine
open PySem PySem.W PyProof.Rows

local macro_rules | `(tactic| walk_at "fn") => `(tactic| exact ⟨⟨_, _, _, rfl⟩, rfl, rfl, rfl, rfl, rfl, rfl, rfl, rfl⟩)
local macro_rules | `(tactic| walk_at "gl") => `(tactic| first | exact Gl.text rfl rfl | exact Gl.builtin rfl rfl rfl (by decide))

section
variable {w : World}
/-! ## _law_rule -/
def menu : List Int := [1, 92, 127, 129, 383, 65, 220, 28, 34, 44, 61, 32]
def menuAt (n m : Int) : Int := menu.getD (n.fmod m).toNat 0
def keyOf (n : Int) : Int := menuAt n 8 + 256 * ([0, 1, -1, 2] : List Int).getD ((n.fdiv 3456).fmod 4).toNat 0
def macroOf (n : Int) : List Int := [menuAt (n.fdiv 24) 12, menuAt (n.fdiv 288) 12].take ((n.fdiv 8).fmod 3).toNat

theorem sw_tuple (es : List Expr) (k : Nat) (p : Pos) (t : Expr) (line : Nat) (env : Env) : swapsWith (.Tuple es k p) (some t) line env = pure false := rfl
theorem sw_bin (a : Expr) (o : Operator) (b : Expr) (p : Pos) (t : Expr) (line : Nat) (env : Env) : swapsWith (.BinOp a o b p) (some t) line env = pure false := rfl
theorem Evs.int {n : Nat} {env : Env} {ρ : Mine.Ctx} {pos p : Pos} {i : Int} {k : Nat} {es : List Expr} {ds : List PyData} (hs : Evs w n env ρ pos es ds) : Evs w n env ρ pos (.Constant (.int i) k p :: es) (.int i :: ds) := Evs.cons Ev.int hs rfl
def menuD : List PyData := [.int 1, .int 92, .int 127, .int 129, .int 383, .int 65, .int 220, .int 28, .int 34, .int 44, .int 61, .int 32]
theorem fmod_b (a : Int) {b : Int} (hb : 0 < b) : 0 ≤ a.fmod b ∧ a.fmod b < b := ⟨Int.fmod_nonneg_of_pos a hb, Int.fmod_lt_of_pos a hb⟩
theorem getD_map {α : Type} (l : List α) (f : α → PyData) (d : α) (i : Nat) (h : i < l.length) : (l.map f)[i]? = some (f (l.getD i d)) := by
  simp [List.getElem?_map, h, List.getD]

theorem fn_rule {n : Int} : Fn w 1 68 [.int n] (.tuple [.int (keyOf n), .list ((macroOf n).map .int)]) := by
  refine Fn.of1 "number" (by walk_at "fn") (fun _ => rfl) rfl fun s h L => ?_
  refine Bx.assign (d1 := .tuple menuD) ?_ ?_ ?_ ?_ ?_ ?_
  · refine Ev.tuple ?_ ?_
    · exact Evs.int (Evs.int (Evs.int (Evs.int (Evs.int (Evs.int (Evs.int (Evs.int (Evs.int (Evs.int (Evs.int (Evs.int Evs.nil)))))))))))
    · decide
  · rfl
  · simp [flatCtx, flat, flats]
  · simp [flat, flats, menuD]
  · exact sw_tuple ..
  have item : ∀ {k : Nat} {env : Env} {ρ : Mine.Ctx} {slice : Expr} {p p' : Pos} (a m : Int), 0 < m → m ≤ 12 → List.lookup (Str.ofString "menu") ρ = some (PyData.tuple menuD) → Ev w k env ρ slice (.int (a.fmod m)) →
      (∀ o i, subscripted slice false o i = operate [o, i] (getItem o i)) → Ev w k env ρ (.Subscript (.Name (Str.ofString "menu") p) slice p') (.int (menuAt a m)) := by
    intro k env ρ slice p p' a m h0 h1 hl hs hsub
    obtain ⟨q1, q2⟩ := fmod_b a h0
    refine Ev.item_tuple (xs := menuD) (Ev.name hl) hs q1 ?_ (by decide) ?_ hsub
    · show _ < ((12 : Nat) : Int); omega
    · exact getD_map menu .int 0 _ (by show (a.fmod m).toNat < 12; omega)
  refine Bx.assign (d1 := .int (keyOf n)) ?_ ?_ ?_ ?_ ?_ ?_
  · refine Ev.bin (item n 8 (by decide) (by decide) rfl (Ev.bin (Ev.name rfl) Ev.int (op_mod (by decide))) (by intro _ _; with_unfolding_all rfl)) (Ev.bin Ev.int ?_ (op_mul (by decide))) op_add
    obtain ⟨q1, q2⟩ := fmod_b (n.fdiv 3456) (b := 4) (by decide)
    refine Ev.item_tuple (xs := ([0, 1, -1, 2] : List Int).map .int) (k := (n.fdiv 3456).fmod 4) (Ev.tuple (Evs.cons Ev.int (Evs.cons Ev.int (Evs.cons (Ev.un Ev.int op_neg) (Evs.cons Ev.int Evs.nil))))) (Ev.bin (Ev.bin (Ev.name rfl) Ev.int (op_div (by decide) (by decide))) Ev.int (op_mod (by decide))) q1 ?_ (by decide) ?_
    · show _ < ((4 : Nat) : Int); omega
    · exact getD_map ([0, 1, -1, 2] : List Int) .int 0 _ (by show _ < 4; omega)
  · rfl
  · simp [flatCtx, flat, flats, menuD]
  · simp [flat]
  · exact sw_bin ..
  · obtain ⟨q1, q2⟩ := fmod_b (n.fdiv 8) (b := 3) (by decide)
    refine Bx.ret (Ev.tuple (Evs.cons (Ev.name rfl) (Evs.cons (Ev.conv (d := .list ([PyData.int (menuAt (n.fdiv 24) 12), PyData.int (menuAt (n.fdiv 288) 12)].take ((n.fdiv 8).fmod 3).toNat)) ?_ ?_) Evs.nil)) (by simp))
    · refine Ev.slice_upto ?_ ?_ q1 (by simp)
      · refine Ev.list (Evs.cons ?_ (Evs.cons ?_ Evs.nil)) (by simp)
        · exact item (n.fdiv 24) 12 (by decide) (by decide) rfl (Ev.bin (Ev.bin (Ev.name rfl) Ev.int (op_div (by decide) (by decide))) Ev.int (op_mod (by decide))) (by intro _ _; with_unfolding_all rfl)
        · exact item (n.fdiv 288) 12 (by decide) (by decide) rfl (Ev.bin (Ev.bin (Ev.name rfl) Ev.int (op_div (by decide) (by decide))) Ev.int (op_mod (by decide))) (by intro _ _; with_unfolding_all rfl)
      · exact Ev.bin (Ev.bin (Ev.name rfl) Ev.int (op_div (by decide) (by decide))) Ev.int (op_mod (by decide))
    · unfold macroOf
      rw [List.map_take]; rfl
end
end Mine

namespace Mine
open PySem PySem.W PyProof.Rows

local macro_rules | `(tactic| walk_at "fn") => `(tactic| exact ⟨⟨_, _, _, rfl⟩, rfl, rfl, rfl, rfl, rfl, rfl, rfl, rfl⟩)
local macro_rules | `(tactic| walk_at "gl") => `(tactic| first | exact Gl.text rfl rfl | exact Gl.builtin rfl rfl rfl (by decide))

section
variable {w : World}

/-- {k1: v1, k2: v2}[x], all written but x -/
theorem Ev.dictItem {n : Nat} {env : Env} {ρ : Mine.Ctx} {k1 k2 x : Str} {v1 v2 v : Int} {a1 a2 a3 a4 : Nat} {p1 p2 p3 p4 p5 pos : Pos} {slice : Expr} (hs : Ev w n env ρ slice (.str x)) (hne : k1 ≠ k2) (hv : x = k1 ∧ v = v1 ∨ x = k2 ∧ v = v2)
    (hsub : ∀ o i, subscripted slice false o i = operate [o, i] (getItem o i)) :
    Ev w n env ρ (.Subscript (.Dict [some (.Constant (.str k1) a1 p1), some (.Constant (.str k2) a2 p2)] [.Constant (.int v1) a3 p3, .Constant (.int v2) a4 p4] p5) slice pos) (.int v) := by
  intro h F A s Q E R L hQ
  refine Subscript_ (wpAny_Dict_walk (knd := PySem.strKind PP w) rfl rfl (by simp) (by simp) ?_)
  have hdo : (s.heap.push { cls := .type "dict", data := .dict #[] }).DictOf (PySem.strKind PP w) s.heap.objs.size [] :=
    ⟨_, #[], 0, Heap.get?_push_size _ rfl, ⟨rfl, rfl, rfl⟩, rfl, (fun _ he => by simp at he), .nil, by simp⟩
  show wpAny _ A (do
    let kv ← eval (.Constant (.str k1) a1 p1) env
    let vv ← holding [kv] (do let x ← eval (.Constant (.int v1) a3 p3) env; standAt p5; pure x)
    return (kv, vv) :: (← holding [kv, vv] (do
      let kv ← eval (.Constant (.str k2) a2 p2) env
      let vv ← holding [kv] (do let x ← eval (.Constant (.int v2) a4 p4) env; standAt p5; pure x)
      return (kv, vv) :: (← holding [kv, vv] (pure []))))) _ _ _
  refine wpAny_bind (Calls.Constant_str ?_)
  refine wpAny_bind (wpAny_holding (wpAny_bind (wpAny_Constant_int (wpAny_bind (wpAny_standAt (wpAny_pure ?_))))))
  refine wpAny_bind (wpAny_holding ?_)
  refine wpAny_bind (Calls.Constant_str ?_)
  refine wpAny_bind (wpAny_holding (wpAny_bind (wpAny_Constant_int (wpAny_bind (wpAny_standAt (wpAny_pure ?_))))))
  refine wpAny_bind (wpAny_holding (wpAny_pure (wpAny_pure (wpAny_pure ?_))))
  refine ⟨[(k1, .int v1 (s.toks + 1)), (k2, .int v2 (s.toks + 1 + 1 + 1))], ⟨by simp [PySem.strKind, Value.isStrOf], rfl, by simp [PySem.strKind, Value.isStrOf], rfl, trivial⟩, hdo, fun h' hd sb => ?_⟩
  have hm : merged [] [(k1, Value.int v1 (s.toks + 1)), (k2, Value.int v2 (s.toks + 1 + 1 + 1))] = [(k1, Value.int v1 (s.toks + 1)), (k2, Value.int v2 (s.toks + 1 + 1 + 1))] := by
    simp [merged, stored, hne]
  rw [hm] at hd
  have kk : Keeps s { s with heap := h', toks := s.toks + 1 + 1 + 1 + 1 + 2 } := ⟨h', _, rfl, fun b o e => (sb.2 b (lt_ne e)).trans (Heap.get?_push_of_some _ e)⟩
  have g1 : Grow s h { s with heap := h', toks := s.toks + 1 + 1 + 1 + 1 + 2 } h := ⟨kk, by show 1 ≤ s.toks + 1 + 1 + 1 + 1 + 2; omega, Le.refl _, L.1.trans (Keeps.le kk), fun _ _ _ e => e⟩
  refine hs h F A _ _ E R g1.ok fun u s2 h2 g2 i2 => ?_
  obtain ⟨t, rfl⟩ := i2.isStr
  have hd2 : s2.heap.DictOf (PySem.strKind PP w) s.heap.objs.size [(k1, Value.int v1 (s.toks + 1)), (k2, Value.int v2 (s.toks + 1 + 1 + 1))] := by
    obtain ⟨o, es, ep, ho, r⟩ := hd
    exact ⟨o, es, ep, Keeps.le g2.keeps _ _ ho, r⟩
  have hval : ∃ tk, valueAt [(k1, Value.int v1 (s.toks + 1)), (k2, Value.int v2 (s.toks + 1 + 1 + 1))] x = some (.int v tk) := by
    rcases hv with ⟨rfl, rfl⟩ | ⟨rfl, rfl⟩
    · exact ⟨s.toks + 1, by simp [valueAt]⟩
    · exact ⟨s.toks + 1 + 1 + 1, by simp [valueAt, hne]⟩
  obtain ⟨tk, hval⟩ := hval
  exact tail_any hd2.typeIs slot_dict_getitem.lookup (wpAny_getItem_of (knd := PySem.strKind PP w) (k := x) (by simp [PySem.strKind, Value.isStrOf]) hd2.mapOf hval (hQ _ _ h2 ((g1.trans g2).trans (Grow.toks g2.ok)) (.int _ _))) (hsub _ _)

theorem c_bang : Str.ofString "!" = S [33] := by decide +kernel
theorem c_hat : Str.ofString "^" = S [94] := by decide +kernel
theorem c_qm : Str.ofString "?" = S [63] := by decide +kernel
theorem c_9f : Str.ofString "\x9f" = S [159] := by decide +kernel
theorem c_q9f : Str.ofString "?\x9f" = S [63, 159] := by decide +kernel

theorem number_one {c : Nat} : Fn w 1 87 [.str (S [c])] (.int c) := by
  refine Fn.of1 "word" (by walk_at "fn") (fun _ => rfl) rfl fun s h L => ?_
  refine Bx.ite (c := true) (Ts.cmp (Ev.len_str (x := S [c]) (by walk_at "gl") (Ev.name rfl) (by rw [S_len]; simp)) Ev.int ?_) (fun _ => ?_) fun h => by cases h
  · have := op_eq_int (w := w) (n := 0) (a := ((S [c]).length : Int)) (b := 1)
    rwa [S_len, show (((([c] : List Nat).length : Nat) : Int) == 1) = true from rfl] at this
  · exact Bx.ret (Ev.ord (c := c) (by walk_at "gl") (Ev.name rfl))

theorem seqIdx0 (l : List Nat) (c : Nat) (h : l[0]? = some c) : (seqIndex? 0 (S l).length).bind ((S l).cps[·]?) = some c := by
  have hl : 0 < l.length := by cases l with | nil => simp at h | cons _ _ => simp
  unfold seqIndex?
  rw [S_len]
  simp only [S]
  simp [hl]
  rw [List.getElem?_eq_getElem hl] at h
  injection h
theorem seqIdx1 (l : List Nat) (c : Nat) (h : l[1]? = some c) : (seqIndex? 1 (S l).length).bind ((S l).cps[·]?) = some c := by
  have hl : 1 < l.length := by
    rcases Nat.lt_or_ge 1 l.length with q | q
    · exact q
    · rw [List.getElem?_eq_none q] at h; cases h
  unfold seqIndex?
  rw [S_len]
  have : (1 : Int) < (l.length : Int) := by omega
  simp [this, S]
  simpa using h

theorem number_bang {m : List Nat} {k : Nat} {r : Int} (hm : 1 ≤ m.length) (hl : m.length ≤ 100) (hk : 2 ≤ k) (hr : Fn w k 87 [.str (S m)] (.int r)) : Fn w (k + 1) 87 [.str (S (33 :: m))] (.int (Builtin.bitOr r 128)) := by
  refine Fn.of1 "word" (by walk_at "fn") (fun _ => rfl) rfl fun s h L => ?_
  refine Bx.ite (c := false) (Ts.cmp (Ev.len_str (x := S (33 :: m)) (by walk_at "gl") (Ev.name rfl) (by rw [S_len]; simp; omega)) Ev.int ?_) (fun h => by cases h) fun _ => ?_
  · have := op_eq_int (w := w) (n := k) (a := ((S (33 :: m)).length : Int)) (b := 1)
    rwa [S_len, show ((((33 :: m).length : Nat) : Int) == 1) = false from by simp; omega, ← S_len (33 :: m)] at this
  refine Bx.ite (c := true) (Ts.cmp (Ev.conv (Ev.slice_str (x := S (33 :: m)) (Ev.name rfl) .none (.some Ev.int) (by rw [S_len]; simp; omega)) (d' := .str (S [33])) ?_) Ev.str ?_) (fun _ => ?_) fun h => by cases h
  · rw [slice_first _ (by simp)]; rfl
  · have := op_eq_str (w := w) (n := k) (x := S [33]) (y := Str.ofString "!")
    rwa [show decide (S [33] = Str.ofString "!") = true from by rw [c_bang]; simp] at this
  · refine Bx.ret (Ev.call (by walk_at "gl") (Evs.cons (Ev.call (by walk_at "gl") (Evs.cons (Ev.conv (Ev.slice_str (x := S (33 :: m)) (Ev.name rfl) (.some Ev.int) .none (by rw [S_len]; simp; omega)) (d' := .str (S m)) ?_) Evs.nil) rfl hr) Evs.nil) rfl (fn_alt.mono hk))
    rw [slice_rest _ (by simp)]; rfl

/-- ^c -/
theorem number_hat {c : Nat} {r : Int} (hr : c = 63 ∧ r = 127 ∨ c = 159 ∧ r = 383 ∨ (c ≠ 63 ∧ c ≠ 159) ∧ r = Builtin.bitAnd c 31) : Fn w 3 87 [.str (S [94, c])] (.int r) := by
  refine Fn.of1 "word" (by walk_at "fn") (fun _ => rfl) rfl fun s h L => ?_
  refine Bx.ite (c := false) (Ts.cmp (Ev.len_str (x := S [94, c]) (by walk_at "gl") (Ev.name rfl) (by rw [S_len]; simp)) Ev.int ?_) (fun h => by cases h) fun _ => ?_
  · have := op_eq_int (w := w) (n := 2) (a := ((S [94, c]).length : Int)) (b := 1)
    rwa [S_len, show (((([94, c] : List Nat).length : Nat) : Int) == 1) = false from rfl] at this
  refine Bx.ite (c := false) (Ts.cmp (Ev.conv (Ev.slice_str (x := S [94, c]) (Ev.name rfl) .none (.some Ev.int) (by rw [S_len]; simp)) (d' := .str (S [94])) ?_) Ev.str ?_) (fun h => by cases h) fun _ => ?_
  · rw [slice_first _ (by simp)]; rfl
  · have := op_eq_str (w := w) (n := 2) (x := S [94]) (y := Str.ofString "!")
    rwa [show decide (S [94] = Str.ofString "!") = false from by rw [c_bang]; simp [S]] at this
  have it0 : ∀ {ρ : Mine.Ctx} {env : Env} {p1 p2 p3 : Pos}, List.lookup (Str.ofString "word") ρ = some (PyData.str (S [94, c])) → Ev w 2 env ρ (.Subscript (.Name (Str.ofString "word") p1) (.Constant (.int 0) 0 p2) p3) (.str (S [94])) := fun hl =>
    Ev.item_str (x := S [94, c]) (k := 0) (c := 94) (Ev.name hl) Ev.int (by decide) (by decide) (seqIdx0 _ _ rfl)
  have it1 : ∀ {ρ : Mine.Ctx} {env : Env} {p1 p2 p3 : Pos}, List.lookup (Str.ofString "word") ρ = some (PyData.str (S [94, c])) → Ev w 2 env ρ (.Subscript (.Name (Str.ofString "word") p1) (.Constant (.int 1) 0 p2) p3) (.str (S [c])) := fun hl =>
    Ev.item_str (x := S [94, c]) (k := 1) (c := c) (Ev.name hl) Ev.int (by decide) (by decide) (seqIdx1 _ _ rfl)
  refine Bx.ite (c := false || false) (Ts.or (Ts.cmp (Ev.len_str (x := S [94, c]) (by walk_at "gl") (Ev.name rfl) (by rw [S_len]; simp)) Ev.int ?_) fun _ => Ts.cmp (it0 rfl) Ev.str ?_) (fun h => by cases h) fun _ => ?_
  · have := op_ne_int (w := w) (n := 2) (a := ((S [94, c]).length : Int)) (b := 2)
    rwa [S_len, show (((([94, c] : List Nat).length : Nat) : Int) != 2) = false from rfl] at this
  · have := op_ne_str (w := w) (n := 2) (x := S [94]) (y := Str.ofString "^")
    rwa [show (!decide (S [94] = Str.ofString "^")) = false from by rw [c_hat]; simp] at this
  refine Bx.ret (Ev.ite (c := decide (c ∈ [63, 159])) (Ts.cmp (it1 rfl) Ev.str ?_) (fun hc => ?_) fun hc => ?_)
  · have := op_in_str (w := w) (n := 2) (x := Str.ofString "?\x9f") (y := S [c])
    rwa [c_q9f, containsL, ← c_q9f] at this
  · refine Ev.dictItem (it1 rfl) (by rw [c_qm, c_9f]; simp [S]) ?_ (by intro _ _; with_unfolding_all rfl)
    rw [c_qm, c_9f]
    simp at hc
    rcases hc with rfl | rfl
    · left; refine ⟨rfl, ?_⟩
      rcases hr with ⟨_, h⟩ | ⟨h, _⟩ | ⟨⟨h, _⟩, _⟩
      · exact h
      · cases h
      · exact absurd rfl h
    · right; refine ⟨rfl, ?_⟩
      rcases hr with ⟨h, _⟩ | ⟨_, h⟩ | ⟨⟨_, h⟩, _⟩
      · cases h
      · exact h
      · exact absurd rfl h
  · simp at hc
    have : r = Builtin.bitAnd c 31 := by
      rcases hr with ⟨h, _⟩ | ⟨h, _⟩ | ⟨_, h⟩
      · exact absurd h hc.1
      · exact absurd h hc.2
      · exact h
    rw [this]
    exact Ev.call (by walk_at "gl") (Evs.cons (Ev.ord (c := c) (by walk_at "gl") (it1 rfl)) Evs.nil) rfl fn_ctrl
end
end Mine

namespace Mine
open PySem PySem.W PyProof.Rows

local macro_rules | `(tactic| walk_at "fn") => `(tactic| exact ⟨⟨_, _, _, rfl⟩, rfl, rfl, rfl, rfl, rfl, rfl, rfl, rfl⟩)
local macro_rules | `(tactic| walk_at "gl") => `(tactic| first | exact Gl.text rfl rfl | exact Gl.builtin rfl rfl rfl (by decide))

theorem flats_map {α : Type} (f : α → PyData) (hf : ∀ a, flat (f a) = true) : ∀ l : List α, flats (l.map f) = true
  | [] => by simp [flats]
  | a :: l => by simp [flats, hf a, flats_map f hf l]
theorem flat_ints (l : List Int) : flat (.list (l.map .int)) = true := by simp only [flat]; exact flats_map _ (fun _ => by simp [flat]) l

theorem lookup1 {n x : Str} {c c' : Addr} (h : List.lookup x [(n, c)] = some c') : x = n ∧ c' = c := by
  rw [List.lookup_cons] at h
  split at h
  · rename_i hx; cases h; exact ⟨beq_iff_eq.mp hx, rfl⟩
  · simp at h
theorem lookup2 {n n2 x : Str} {c c2 c' : Addr} (h : List.lookup x [(n, c), (n2, c2)] = some c') : x = n ∧ c' = c ∨ x = n2 ∧ c' = c2 := by
  rw [List.lookup_cons] at h
  split at h
  · rename_i hx; cases h; exact .inl ⟨beq_iff_eq.mp hx, rfl⟩
  · exact .inr (lookup1 h)

section
variable {w : World}

def pairD (q : Int × List Int) : PyData := .tuple [.int q.1, .list (q.2.map .int)]
def foundF (ps : List (Int × List Int)) (name : Int) : List (List Int) := (ps.filter fun q => q.1 == name).map (·.2)
def lastL : List (List Int) → List Int
  | [] => []
  | [a] => a
  | _ :: b :: r => lastL (b :: r)
theorem lastL_mem : ∀ l : List (List Int), l ≠ [] → lastL l ∈ l
  | [], h => absurd rfl h
  | [a], _ => by simp [lastL]
  | a :: b :: r, _ => List.mem_cons_of_mem _ (lastL_mem (b :: r) (by simp))
theorem lastL_get : ∀ l : List (List Int), l ≠ [] → l[l.length - 1]? = some (lastL l)
  | [], h => absurd rfl h
  | [a], _ => rfl
  | a :: b :: r, _ => by
    have := lastL_get (b :: r) (by simp)
    simpa [lastL] using this
def grownF (ps : List (Int × List Int)) : Nat → Int → List Int
  | 0, name => [name]
  | f + 1, name => if (foundF ps name).isEmpty then [name] else (lastL (foundF ps name)).flatMap (grownF ps f)

theorem grown_len (ps : List (Int × List Int)) (hm : ∀ q ∈ ps, q.2.length ≤ 2) : ∀ (f : Nat) (name : Int), (grownF ps f name).length ≤ 2 ^ f
  | 0, _ => by simp [grownF]
  | f + 1, name => by
    rw [grownF]
    split
    · simp; exact Nat.one_le_two_pow
    · rename_i hne
      have hl : (lastL (foundF ps name)).length ≤ 2 := by
        obtain ⟨q, hq, e⟩ := List.mem_map.mp (lastL_mem (foundF ps name) (by simpa using hne))
        rw [← e]
        exact hm q (List.mem_filter.mp hq).1
      have ih := grown_len ps hm f
      generalize lastL (foundF ps name) = l at hl
      have : (l.flatMap (grownF ps f)).length ≤ l.length * 2 ^ f := by
        induction l with
        | nil => simp
        | cons a r ihr =>
          rw [List.flatMap_cons, List.length_append, List.length_cons, Nat.succ_mul]
          have h1 := ihr (by simp at hl; omega)
          have h2 := ih a
          omega
      refine Nat.le_trans this ?_
      rw [Nat.pow_succ, Nat.mul_comm (2 ^ f) 2]
      exact Nat.mul_le_mul_right _ hl

theorem last_get (l : List (List Int)) (hne : l ≠ []) (f : List Int → PyData) : (l.map f)[((-1 : Int) + ((l.map f).length : Int)).toNat]? = some (f (lastL l)) := by
  have h1 : 0 < l.length := List.length_pos_iff.mpr hne
  have e : ((-1 : Int) + ((l.map f).length : Int)).toNat = l.length - 1 := by rw [List.length_map]; omega
  rw [e, List.getElem?_map, lastL_get l hne]; rfl

theorem Fn.of3c {n : Nat} {a : Addr} {fd : FuncData} {body : List Stmt} (x y z : Str) {d1 d2 d3 d : PyData} (D : DefAt w a fd body) (hbind : ∀ v u t, bindArgs fd ⟨[v, u, t], []⟩ = pure [(x, v), (y, u), (z, t)])
    (hnd : [x, y, z].Nodup) (hk : ∀ (L : Nat), ∀ k ∈ [x, y, z], fd.scope.names.lookup k = some .cell ∧ (k == ("__classdict__" : Str)) = false ∧ ((cellsFrom L fd.scope.names []).lookup k).isSome = true)
    (hB : ∀ (s : Shared) (h : Heap) (L : Nat), Bx w n s h (callEnvC fd L a) [(x, d1), (y, d2), (z, d3)] (execs body (callEnvC fd L a)) d) : Fn w (n + 1) a [d1, d2, d3] d := by
  refine Fn.of (names := [x, y, z]) D (fun vs hv => ?_) rfl hnd (fun L k hkm => .inr (hk L k hkm)) hB
  match vs, hv with
  | [v, u, t], _ => exact hbind v u t

def psD (ps : List (Int × List Int)) : PyData := .list (ps.map pairD)
theorem flat_ps (ps : List (Int × List Int)) : flat (psD ps) = true := by
  unfold psD; simp only [flat]
  exact flats_map _ (fun q => by simp only [pairD, flat, flats, Bool.true_and, Bool.and_true]; exact flats_map _ (fun _ => by simp [flat]) _) ps

theorem grown_step {ps : List (Int × List Int)} (hl : ps.length ≤ 1000) (hm : ∀ q ∈ ps, q.2.length ≤ 2) (f : Nat) (hf : f ≤ 10) (hrec : ∀ f', f = f' + 1 → ∀ name, Fn w f 99 [psD ps, .int name, .int f'] (.list ((grownF ps f' name).map .int)))
    (name : Int) : Fn w (f + 1) 99 [psD ps, .int name, .int f] (.list ((grownF ps f name).map .int)) := by
  refine Fn.of3c "pairs" "name" "floors" (by walk_at "fn") (fun _ _ _ => rfl) (by decide) (fun L k hk => ?_) fun s h L => ?_
  · simp only [List.mem_cons, List.not_mem_nil, or_false] at hk
    rcases hk with rfl | rfl | rfl <;> exact ⟨rfl, by decide, rfl⟩
  · refine Bx.assignComp (cl := [("name", L + 2)]) (ρb := [("name", .int name)]) (xs := ps.map pairD) (out := (foundF ps name).map fun m => .list (m.map .int)) ?_ ?_ ?_ ?_ ?_ ?_ ?_ ?_ ?_ ?_ ?_ ?_
    · exact EvI.list (Ev.name rfl)
    · rfl
    · rfl
    · decide
    · intro x c e
      obtain ⟨rfl, rfl⟩ := lookup1 e
      exact ⟨rfl, rfl⟩
    · exact ⟨rfl, .inl rfl, .inl rfl, by decide, ⟨_, rfl, fun _ => rfl⟩, trivial⟩
    · have e : (foundF ps name).map (fun m => PyData.list (m.map .int)) = outOf (fun q : Int × List Int => q.1 == name) (fun q => .list (q.2.map .int)) ps := by
        unfold foundF outOf; rw [List.map_map]; rfl
      rw [e]
      exact LoopOk.one ps pairD (fun q => [("macro", .list (q.2.map .int)), ("key", .int q.1)]) _ _ (fun C _ q hq => ⟨.pair rfl rfl, .inr ⟨_, rfl, Ts.cmp (Ev.name rfl) (Ev.name rfl) op_eq_int⟩, fun _ => Ev.name rfl, fun _ => flat_ints _⟩) (by omega)
    · rfl
    · simp only [flatCtx, List.all_cons, List.all_nil, flat_ps]; simp [flat]
    · exact flats_map _ (fun _ => flat_ints _) _
    · rfl
    · have hfl : (foundF ps name).length ≤ 1000 := by unfold foundF; rw [List.length_map]; exact Nat.le_trans (List.length_filter_le _ _) hl
      refine Bx.ite (c := ((f : Int) == 0) || !(!((foundF ps name).map fun m => PyData.list (m.map .int)).isEmpty)) (Ts.or (Ts.cmp (Ev.name rfl) Ev.int op_eq_int) fun _ => Ts.not (Ts.value (Ev.name rfl) (tr_list (by rw [List.length_map]; omega)))) (fun hc => ?_) fun hc => ?_
      · have e : grownF ps f name = [name] := by
          cases f with
          | zero => rfl
          | succ f' =>
            rw [grownF, if_pos]
            simp at hc
            rcases hc with hc | hc
            · omega
            · simp [hc]
        rw [e]
        exact Bx.ret (Ev.list (Evs.cons (Ev.name rfl) Evs.nil) (by simp))
      · cases f with
        | zero => simp at hc
        | succ f' =>
          have hne : foundF ps name ≠ [] := by
            intro q
            simp [q] at hc
          have hne' : (foundF ps name).isEmpty = false := by simpa using hne
          have e : grownF ps (f' + 1) name = (lastL (foundF ps name)).flatMap (grownF ps f') := by rw [grownF, if_neg (by simpa using hne)]
          have hglen := grown_len ps hm (f' + 1) name
          have h2 : 2 ^ (f' + 1) ≤ 2 ^ 10 := Nat.pow_le_pow_right (by decide) hf
          rw [e] at hglen ⊢
          refine Bx.ret (Ev.conv (Ev.comp (cl := [("pairs", L + 1), ("floors", L + 3)]) (ρb := [("pairs", psD ps), ("floors", .int ((f' + 1 : Nat) : Int))]) (xs := (lastL (foundF ps name)).map .int) (out := (lastL (foundF ps name)).flatMap fun y => (grownF ps f' y).map .int) ?_ ?_ ?_ ?_ ?_ ?_ ?_) ?_)
          · refine EvI.list (Ev.item_list_neg (k := -1) (d := .list ((lastL (foundF ps name)).map .int)) (Ev.name rfl) (Ev.un Ev.int op_neg) (by decide) ?_ (by decide) (last_get _ hne _))
            have : 0 < (foundF ps name).length := List.length_pos_iff.mpr hne
            rw [List.length_map]; omega
          · rfl
          · rfl
          · decide
          · intro x c e'
            rcases lookup2 e' with ⟨rfl, rfl⟩ | ⟨rfl, rfl⟩
            · exact ⟨rfl, rfl⟩
            · exact ⟨rfl, rfl⟩
          · exact ⟨rfl, .inl rfl, .inl rfl, by decide, ⟨_, rfl, fun _ => rfl⟩, rfl, .inl rfl, .inl rfl, by decide, ⟨_, rfl, fun _ => rfl⟩, trivial⟩
          · refine LoopOk.two (lastL (foundF ps name)) PyData.int (fun c => [("inner", .int c)]) (fun c => grownF ps f' c) PyData.int (fun z => [("last", .int z)]) (fun _ z => .int z) (fun _ _ => rfl) (fun C _ c hc' => ⟨.name rfl, ?_, fun z hz => ⟨.name rfl, Ev.name rfl⟩⟩) (fun c hc' => ⟨flats_map _ (fun _ => by simp [flat]) _, fun _ _ => by simp [flat]⟩) ?_ ?_
            · refine Ev.call (by walk_at "gl") (Evs.cons (Ev.name rfl) (Evs.cons (Ev.name rfl) (Evs.cons (d := .int f') ?_ Evs.nil))) rfl (hrec f' rfl c)
              refine Ev.conv (Ev.bin (Ev.name rfl) Ev.int op_sub) ?_
              congr 1
              omega
            · intro c _ z _ k d hk
              have hk' : k = Str.ofString "inner" := by
                rw [List.lookup_cons] at hk
                split at hk
                · rename_i hx; exact beq_iff_eq.mp hx
                · simp at hk
              subst hk'
              rfl
            · have e3 : ((lastL (foundF ps name)).flatMap fun y => (grownF ps f' y).map PyData.int).length = ((lastL (foundF ps name)).flatMap (grownF ps f')).length := by
                simp [List.length_flatMap]
              rw [e3]
              refine Nat.le_trans hglen (Nat.le_trans h2 (by decide))
          · rw [List.map_flatMap]
theorem fn_grown {ps : List (Int × List Int)} (hl : ps.length ≤ 1000) (hm : ∀ q ∈ ps, q.2.length ≤ 2) : ∀ (f : Nat) (_ : f ≤ 10) (name : Int), Fn w (f + 1) 99 [psD ps, .int name, .int f] (.list ((grownF ps f name).map .int))
  | 0, h, name => grown_step hl hm 0 h (fun f' e => by cases e) name
  | f + 1, h, name => grown_step hl hm (f + 1) h (fun f' e name => by cases e; exact fn_grown hl hm f (by omega) name) name
end
end Mine

namespace Mine
open PySem PySem.W PyProof.Rows

/-- a datum that is no object -/
def scalar : PyData → Bool
  | .none | .bool _ | .int _ | .str _ => true
  | _ => false
theorem scalar_flat {d : PyData} (h : scalar d = true) : flat d = true := by cases d <;> simp_all [scalar, flat]
theorem Is.scalar {w : World} {h h' : Heap} {v : Value} {d : PyData} (i : Is w h v d) (hd : Mine.scalar d = true) : Is w h' v d := by
  cases i with
  | none => exact .none
  | bool b => exact .bool b
  | int i t => exact .int i t
  | str x t => exact .str x t
  | list => simp [Mine.scalar] at hd
  | tuple => simp [Mine.scalar] at hd
  | dict => simp [Mine.scalar] at hd
def scalars (ρ : Mine.Ctx) : Bool := ρ.all fun p => scalar p.2
theorem scalar_of {ρ : Mine.Ctx} (hf : scalars ρ = true) {x : Str} {d : PyData} (e : ρ.lookup x = some d) : scalar d = true := by
  induction ρ with
  | nil => simp at e
  | cons p r ih =>
    simp only [scalars, List.all_cons, Bool.and_eq_true] at hf
    obtain ⟨y, d'⟩ := p
    rw [List.lookup_cons] at e
    split at e
    · cases e; exact hf.1
    · exact ih hf.2 e
theorem scalars_flat {ρ : Mine.Ctx} (hf : scalars ρ = true) : flatCtx ρ = true := by
  induction ρ with
  | nil => rfl
  | cons p r ih =>
    simp only [scalars, List.all_cons, Bool.and_eq_true] at hf
    simp only [flatCtx, List.all_cons, Bool.and_eq_true]
    exact ⟨scalar_flat hf.1, ih hf.2⟩

def Plain {δ : Type} (RO : δ → Obj → Prop) (ρ : Mine.Ctx) : Prop := scalars ρ = true ∨ (flatCtx ρ = true ∧ ∀ d o, RO d o → ∀ vs n, o.data ≠ .seq vs n)
theorem Plain.flat {δ : Type} {RO : δ → Obj → Prop} {ρ : Mine.Ctx} (p : Plain RO ρ) : flatCtx ρ = true := p.elim scalars_flat (·.1)
theorem Plain.cons {δ : Type} {RO : δ → Obj → Prop} {ρ : Mine.Ctx} (p : Plain RO ρ) {x : Str} {d : PyData} (hd : scalar d = true) : Plain RO ((x, d) :: ρ) := by
  rcases p with p | ⟨p, q⟩
  · left; simp only [scalars, List.all_cons, Bool.and_eq_true]; exact ⟨hd, p⟩
  · right; simp only [flatCtx, List.all_cons, Bool.and_eq_true]; exact ⟨⟨scalar_flat hd, p⟩, q⟩
theorem Plain.is {δ : Type} {RO : δ → Obj → Prop} {ρ : Mine.Ctx} (p : Plain RO ρ) {w : World} {h h' : Heap} {D : Addr} {x : Str} {e : PyData} {v : Value} {d : δ} {o : Obj} (q : ρ.lookup x = some e) (hD : h.get? D = some o) (hr : RO d o) (hl : Le (h.hide D) h') (i : Is w h v e) : Is w h' v e := by
  rcases p with p | ⟨p, r⟩
  · exact i.scalar (scalar_of p q)
  · exact (i.hide (fun o' e' => by rw [hD] at e'; cases e'; exact r d o hr) (flat_of p q)).le hl

/-- a frame that keeps one object D of its own, named x0; all else that it names is scalar -/
structure Ls {δ : Type} (w : World) (s : Shared) (h : Heap) (env : Env) (x0 : Str) (RO : δ → Obj → Prop) (D : Addr) (d : δ) (ρ : Mine.Ctx) (s1 : Shared) (h1 : Heap) : Prop where
  grow : Grow s h s1 h1
  own : Own s env h1
  fm : Fm w env ρ h1
  pin : ∃ m, h1.Ns env.locals m ∧ m x0 = some (.ref D)
  obj : ∃ o, h1.get? D = some o ∧ RO d o
  fresh : s.heap.get? D = none
  ne : D ≠ env.locals
  plain : Plain RO ρ
  nocell : env.cells = []

def Lx {δ : Type} (w : World) (n : Nat) (s : Shared) (h : Heap) (env : Env) (x0 : Str) (RO : δ → Obj → Prop) (D : Addr) (d : δ) (ρ : Mine.Ctx) (t : Sem Flow) (post : Flow → δ → Mine.Ctx → Shared → Heap → Prop) : Prop :=
  ∀ (A : Around) (s1 : Shared) (h1 : Heap) (Q : Flow → Shared → Prop) (E : Value → Shared → Prop), Room n A → Le h s.heap → Wd w h → Ls w s h env x0 RO D d ρ s1 h1 →
    (∀ f s' h' d' ρ', (∀ _ : f = .next ∨ f = .cont, Ls w s h env x0 RO D d' ρ' s' h') → post f d' ρ' s' h' → Q f s') → wpAny (model PP w) A t Q E s1

section
variable {δ : Type} {w : World} {n : Nat} {s : Shared} {h : Heap} {env : Env} {x0 : Str} {RO : δ → Obj → Prop} {D : Addr} {d : δ} {ρ : Mine.Ctx} {post : Flow → δ → Mine.Ctx → Shared → Heap → Prop}

theorem Ls.eval {s1 s2 : Shared} {h1 h2 : Heap} (X : Ls w s h env x0 RO D d ρ s1 h1) (g : Grow s1 h1 s2 h2) : Ls w s h env x0 RO D d ρ s2 h2 :=
  ⟨X.grow.trans g, X.own.le g.le, X.fm.le g.le, let ⟨m, a, b⟩ := X.pin; ⟨m, a.keeps g.le, b⟩, let ⟨o, a, b⟩ := X.obj; ⟨o, g.le _ _ a, b⟩, X.fresh, X.ne, X.plain, X.nocell⟩
theorem Ls.weak {ρ' : Mine.Ctx} {s1 : Shared} {h1 : Heap} (X : Ls w s h env x0 RO D d ρ s1 h1) (hw : ∀ x e, ρ'.lookup x = some e → ρ.lookup x = some e) (hp : Plain RO ρ') : Ls w s h env x0 RO D d ρ' s1 h1 :=
  ⟨X.grow, X.own, ⟨X.fm.wd, X.fm.kind, X.fm.glob, X.fm.blt, fun x e q => X.fm.nm x e (hw x e q)⟩, X.pin, X.obj, X.fresh, X.ne, hp, X.nocell⟩

theorem Ls.store {s1 : Shared} {h1 : Heap} {x : Str} {v : Value} {d1 : PyData} {A : Around} {Q : Unit → Shared → Prop} {E : Value → Shared → Prop} (L : Le h s.heap) (W : Wd w h) (X : Ls w s h env x0 RO D d ρ s1 h1) (i : Is w h1 v d1) (hd : scalar d1 = true)
    (hk : env.kindOf x = some .local) (hx : x0 ≠ x) (hQ : ∀ s2 h2, Ls w s h env x0 RO D d ((x, d1) :: ρ) s2 h2 → Q () s2) : wpAny (model PP w) A (storeName env x v) Q E s1 := by
  refine store_local L W X.grow X.own X.fm i X.plain.flat (scalar_flat hd) hk fun s2 h2 g2 O2 F2 _ hns hle => hQ s2 h2 ⟨g2, O2, F2, ?_, ?_, X.fresh, X.ne, ?_, X.nocell⟩
  · obtain ⟨m, a, b⟩ := X.pin
    exact ⟨_, hns m a, by simp [hx, b]⟩
  · obtain ⟨o, a, b⟩ := X.obj
    exact ⟨o, hle D o X.ne a, b⟩
  · exact X.plain.cons hd

theorem Lx.nil (hp : ∀ s' h', Ls w s h env x0 RO D d ρ s' h' → post .next d ρ s' h') : Lx w n s h env x0 RO D d ρ (execs [] env) post :=
  fun _ s1 h1 _ _ _ _ _ X hQ => wpAny_execs_nil (hQ _ s1 h1 d ρ (fun _ => X) (hp s1 h1 X))
theorem Lx.cont {pos : Pos} {rest : List Stmt} (hp : ∀ s' h', Ls w s h env x0 RO D d ρ s' h' → post .cont d ρ s' h') : Lx w n s h env x0 RO D d ρ (execs (.Continue pos :: rest) env) post :=
  fun _ s1 h1 _ _ _ _ _ X hQ => wpAny_execs_cons (wpAny_Continue (hQ _ s1 h1 d ρ (fun _ => X) (hp s1 h1 X)))
theorem Lx.assign {x : Str} {p pos : Pos} {e : Expr} {rest : List Stmt} {d1 : PyData} (he : Ev w n env ρ e d1) (hd : scalar d1 = true) (hk : env.kindOf x = some .local) (hx : x0 ≠ x) (hs : swapsWith e (some (.Name x p)) pos.line env = pure false)
    (hr : Lx w n s h env x0 RO D d ((x, d1) :: ρ) (execs rest env) post) : Lx w n s h env x0 RO D d ρ (execs (.Assign [.Name x p] e pos :: rest) env) post :=
  fun A s1 h1 _ E R L W X hQ => wpAny_execs_cons (wpAny_Assign_Name (he h1 X.fm A s1 _ E R X.grow.ok fun _ _ _ g2 i2 => (X.eval g2).store L W i2 hd hk hx fun s3 h3 X3 => hr A s3 h3 _ E R L W X3 hQ) hs)
theorem Lx.assign2 {x y : Str} {p q pos : Pos} {e : Expr} {rest : List Stmt} {d1 : PyData} (he : Ev w n env ρ e d1) (hd : scalar d1 = true) (hk : env.kindOf x = some .local) (hk2 : env.kindOf y = some .local) (hx : x0 ≠ x) (hy : x0 ≠ y)
    (hr : Lx w n s h env x0 RO D d ((y, d1) :: (x, d1) :: ρ) (execs rest env) post)
    (ha : (assignEach [.Name x p, .Name y q] env).map (·.2) = [PySem.assign (.Name x p) env, PySem.assign (.Name y q) env] := by rfl)
    (hw : swappedStores [.Name x p, .Name y q] e env = pure none := by rfl) : Lx w n s h env x0 RO D d ρ (execs (.Assign [.Name x p, .Name y q] e pos :: rest) env) post :=
  fun A s1 h1 _ E R L W X hQ => wpAny_execs_cons (wpAny_Assign_two (he h1 X.fm A s1 _ E R X.grow.ok fun _ _ _ g2 i2 => wpAny_assign_Name ((X.eval g2).store L W i2 hd hk hx fun s3 h3 X3 =>
    wpAny_assign_Name (X3.store L W (i2.scalar hd) hd hk2 hy fun s4 h4 X4 => hr A s4 h4 _ E R L W X4 hQ))) ha hw)
theorem Lx.aug {x : Str} {p pos : Pos} {e : Expr} {rest : List Stmt} {a b : Str} (hx1 : ρ.lookup x = some (.str a)) (he : Ev w n env ρ e (.str b)) (hk : env.kindOf x = some .local) (hx : x0 ≠ x) (hl : (a ++ b).length ≤ 1000000)
    (hr : Lx w n s h env x0 RO D d ((x, .str (a ++ b)) :: ρ) (execs rest env) post) : Lx w n s h env x0 RO D d ρ (execs (.AugAssign (.Name x p) .Add e pos :: rest) env) post :=
  fun A s1 h1 _ E R L W X hQ => wpAny_execs_cons (wpAny_AugAssign_Name (ev_loadName X.fm hx1 A s1 _ E R X.grow.ok fun u s2 h2 g2 i2 => he h2 (X.fm.le g2.le) A s2 _ E R g2.ok fun v s3 h3 g3 i3 =>
    op_icat hl h3 u v (X.fm.wd.le (g2.le.trans g3.le)) (i2.le g3.le) i3 A s3 _ E R g3.ok fun r s4 h4 g4 i4 => (X.eval ((g2.trans g3).trans g4)).store L W i4 rfl hk hx fun s5 h5 X5 => hr A s5 h5 _ E R L W X5 hQ))
theorem Lx.ite {t : Expr} {b o rest : List Stmt} {pos : Pos} {c : Bool} (ht : Ts w n env ρ t c) (hb : c = true → Lx w n s h env x0 RO D d ρ (execs (b ++ rest) env) post) (ho : c = false → Lx w n s h env x0 RO D d ρ (execs (o ++ rest) env) post) :
    Lx w n s h env x0 RO D d ρ (execs (.If t b o pos :: rest) env) post := by
  intro A s1 h1 Q E R L W X hQ Γ p hΓ
  have key : wpAny (model PP w) A (isTrue t env (eval t env)) (fun c' s' => ∀ Γ p, Γ.In A → Sem.wp (model PP w) Γ (if c' then execs b env else execs o env)
      (fun f p' s' => Sem.wp (model PP w) Γ (match f with | .next => execs rest env | f => pure f) (fun f _ s' => Q f s') (fun e _ s' => E e s') p' s') (fun e _ s' => E e s') p s') E s1 := by
    refine ht h1 X.fm A s1 _ E R X.grow.ok fun c' s2 h2 g2 i2 => ?_
    subst i2
    intro Γ p hΓ
    have fin : ∀ b : List Stmt, wpAny (model PP w) A (execs (b ++ rest) env) Q E s2 → Sem.wp (model PP w) Γ (execs b env) (fun f p' s' => Sem.wp (model PP w) Γ (match f with | .next => execs rest env | f => pure f) (fun f _ s' => Q f s') (fun e _ s' => E e s') p' s') (fun e _ s' => E e s') p s2 := fun b hx =>
      Sem.wp_mono _ Γ _ (fun f p' s' h' => by cases f <;> exact h') (fun _ _ _ h' => h') _ _ (wp_execs_append b p s2 (hx Γ p hΓ))
    cases c' with
    | true => simp only [if_true]; exact fin b (hb rfl A s2 h2 Q E R L W (X.eval g2) hQ)
    | false => simp only [Bool.false_eq_true, if_false]; exact fin o (ho rfl A s2 h2 Q E R L W (X.eval g2) hQ)
  rw [execs_cons, Sem.wp_bind', exec_If, Sem.wp_bind', Sem.wp_cmd_standAt, Sem.wp_bind']
  exact Sem.wp_mono _ Γ _ (fun c' p' s' h' => h' Γ p' hΓ) (fun _ _ _ h' => h') _ _ (key Γ _ hΓ)

/-- D alone is turned -/
theorem Ls.turnD {d' : δ} {s1 : Shared} {h1 : Heap} {h' : Heap} {tk : Nat} {o' : Obj} (X : Ls w s h env x0 RO D d ρ s1 h1) (L : Le h s.heap) (W : Wd w h) (sb : Heap.SameBut D s1.heap h') (ho : h'.get? D = some o') (hr : RO d' o') (hp : 1 ≤ tk) :
    Ls w s h env x0 RO D d' ρ { s1 with heap := h', toks := tk } (vis h1 s1.heap h') := by
  obtain ⟨o, hoD, hrD⟩ := X.obj
  have hv := vis_store X.grow.sub sb
  have g2 := grow_store (tk := tk) X.grow L X.fresh sb hp
  have hns : ∀ m, h1.Ns env.locals m → (vis h1 s1.heap h').Ns env.locals m := fun m y => by
    obtain ⟨o2, es, ep, ho2, r⟩ := y
    exact ⟨o2, es, ep, hv _ _ (by rw [Heap.hide_ne _ (Ne.symm X.ne)]; exact ho2), r⟩
  refine ⟨g2, ⟨X.own.fresh, let ⟨m, a⟩ := X.own.ns; ⟨m, hns m a⟩, fun y c e => by rw [X.nocell] at e; simp at e, X.own.apart⟩, ⟨W.le g2.le, X.fm.kind, X.fm.glob, X.fm.blt, fun y e q => ?_⟩, let ⟨m, a, b⟩ := X.pin; ⟨m, hns m a, b⟩, ⟨o', vis_store_at (s1 := s1) hoD ho, hr⟩, X.fresh, X.ne, X.plain, X.nocell⟩
  rcases X.fm.nm y e q with ⟨k, m, v, a, b, c⟩ | ⟨_, _, c, v, a, _⟩
  · exact .inl ⟨k, m, v, hns m a, b, X.plain.is q hoD hrD hv c⟩
  · rw [X.nocell] at a; simp at a

/-- another object, unseen, is turned -/
theorem Ls.turned {s1 s2 : Shared} {h1 : Heap} {I : Addr} (X : Ls w s h env x0 RO D d ρ s1 h1) (hI : h1.get? I = none) (hIs : s.heap.get? I = none) (k : KB (fun b => b = I) s1 s2) (hp : 1 ≤ s2.toks) : Ls w s h env x0 RO D d ρ s2 h1 := by
  refine ⟨⟨?_, hp, X.grow.le, fun b o e => k.at (fun q => by rw [q, hI] at e; cases e) (X.grow.sub _ _ e), X.grow.hid⟩, X.own, X.fm, X.pin, X.obj, X.fresh, X.ne, X.plain, X.nocell⟩
  obtain ⟨H, t, rfl, hk⟩ := X.grow.keeps
  obtain ⟨H2, t2, rfl, hk2⟩ := k
  exact ⟨H2, t2, rfl, fun b o e => hk2 b o (fun q => by rw [q, hIs] at e; cases e) (hk _ _ e)⟩

def LD (env : Env) (D : Addr) : Addr → Prop := fun b => b = env.locals ∨ b = D

/-- for x in <what is iterated>: body, by a state σ -/
theorem Lx.for {σ α : Type} {x : Str} {px pos : Pos} {iter : Expr} {body rest : List Stmt} {dI : PyData} (xs : List α) (toD : α → PyData) (dσ : σ → δ) (ρσ : σ → Mine.Ctx) (step : σ → α → σ) (σ0 : σ)
    (hd : d = dσ σ0) (hρ : ∀ y e, (ρσ σ0).lookup y = some e → ρ.lookup y = some e) (hsc : ∀ σ, scalars (ρσ σ) = true) (hsx : ∀ a, scalar (toD a) = true)
    (hiter : Ev w n env ρ iter dI)
    (hsrc : ∀ h v m, h.Ns env.locals m → (∀ o, h.get? D = some o → ∃ d, RO d o) → Is w h v dI → Src w (cut (LD env D) h) v (xs.map toD))
    (hfold : ∀ v, foldedSetIterable iter env v = pure v) (hk : env.kindOf x = some .local) (hx : x0 ≠ x)
    (hbody : ∀ (s' : Shared) (h' : Heap) (i : Nat) (a : α), xs[i]? = some a → Lx w n s' h' env x0 RO D (dσ ((xs.take i).foldl step σ0)) ((x, toD a) :: ρσ ((xs.take i).foldl step σ0)) (execs body env)
      (fun f d' ρ' _ _ => (f = .next ∨ f = .cont) ∧ d' = dσ (step ((xs.take i).foldl step σ0) a) ∧ ∀ y e, (ρσ (step ((xs.take i).foldl step σ0) a)).lookup y = some e → ρ'.lookup y = some e))
    (hr : Lx w n s h env x0 RO D (dσ (xs.foldl step σ0)) (ρσ (xs.foldl step σ0)) (execs rest env) post) : Lx w n s h env x0 RO D d ρ (execs (.For (.Name x px) iter body [] pos :: rest) env) post := by
  intro A s1 h1 Q E R L W X hQ
  refine wpAny_execs_cons (wpAny_For (hiter h1 X.fm A s1 _ E R X.grow.ok fun xv s2 h2 g2 i2 => ?_) hfold)
  have X2 := X.eval g2
  obtain ⟨mL, hnL, hmL⟩ := X2.pin
  obtain ⟨oD, hoD, hrD⟩ := X2.obj
  have src := hsrc h2 xv mL hnL (fun o e => ⟨d, by rw [hoD] at e; cases e; exact hrD⟩) i2
  refine src A s2 _ E (R.mono (Nat.zero_le _)) ⟨cut_sub.trans g2.sub, g2.pos⟩ fun I fp P St s3 it st k3 p3 hfp hI hfpb hPi => ?_
  have occL : ∃ o, s2.heap.get? env.locals = some o := by obtain ⟨o, _, _, ho, _⟩ := hnL; exact ⟨o, g2.sub _ _ ho⟩
  have hIL : I ≠ env.locals := fun q => by obtain ⟨o, ho⟩ := occL; rw [← q, hI] at ho; cases ho
  have hID : I ≠ D := fun q => by have := g2.sub _ _ hoD; rw [← q, hI] at this; cases this
  have hLD : ∀ b ∈ fp, ¬ LD env D b := fun b hb q => by
    by_cases hbI : b = I
    · subst hbI; exact q.elim hIL hID
    · obtain ⟨o, ho⟩ := hfpb b hb hbI
      exact (cut_of ho).1 q
  have hIh : h2.get? I = none := by
    cases e : h2.get? I with
    | none => rfl
    | some o => have := g2.sub _ _ e; rw [hI] at this; cases this
  have hIs : s.heap.get? I = none := by
    cases e : s.heap.get? I with
    | none => rfl
    | some o => have := Keeps.le X2.grow.keeps _ _ e; rw [hI] at this; cases this
  have X3 : Ls w s h env x0 RO D d ρ s3 h2 := ⟨⟨Keeps.trans X2.grow.keeps k3, p3, X2.grow.le, X2.grow.sub.trans (Keeps.le k3), X2.grow.hid⟩, X2.own, X2.fm, X2.pin, X2.obj, X2.fresh, X2.ne, X2.plain, X2.nocell⟩
  refine codeAny_forLoop (fun k s' => ∃ i h', i + k = xs.length + 1 ∧ i ≤ xs.length ∧ St i s'.heap ∧ h'.get? I = none ∧ Ls w s h env x0 RO D (dσ ((xs.take i).foldl step σ0)) (ρσ ((xs.take i).foldl step σ0)) s' h') ?_ (xs.length + 1)
    ⟨0, h2, by omega, Nat.zero_le _, st, hIh, by subst hd; simpa using X3.weak hρ (.inl (hsc _))⟩
  rintro k s4 ⟨i, h4, hik, hil, st4, hI4, X4⟩
  by_cases hlt : i < xs.length
  · obtain ⟨a, ha⟩ : ∃ a, xs[i]? = some a := ⟨xs[i], by simp [hlt]⟩
    refine wpAny_with_toks (n := 1) X4.grow.pos (it.walks.item i s4 _ _ (by rw [List.length_map]; exact hlt) st4 fun v h' tk hv st' hk' htk => ?_)
    have kk : KB (fun b => b = I) s4 { s4 with heap := h', toks := tk } := ⟨h', tk, rfl, fun b o nb e => hk' b o (by simpa using nb) e⟩
    have X5 := X4.turned hI4 hIs kk htk
    have iv : Is w h4 v (toD a) := (hPi i v (toD a) hv (by rw [List.getElem?_map, ha]; rfl)).scalar (hsx a)
    dsimp only
    generalize hs5 : ({ s4 with heap := h', toks := tk } : Shared) = s5 at X5 kk
    have hs5h : s5.heap = h' := by rw [← hs5]
    have hst5 : St (i + 1) s5.heap := hs5h ▸ st'
    let st_ : Shared := { s5 with heap := cut (LD env D) s5.heap }
    let ht_ : Heap := cut (LD env D) h4
    have hLo : s.heap.get? env.locals = none := X5.own.fresh
    have hnot : ∀ b o, s.heap.get? b = some o → ¬ LD env D b := fun b o e q => by
      rcases q with q | q
      · rw [q, hLo] at e; cases e
      · rw [q, X5.fresh] at e; cases e
    have Lt : Le ht_ st_.heap := cut_le fun b o _ e => X5.grow.sub _ _ e
    have lht : Le h ht_ := fun b o e => cut_some (X5.grow.le _ _ e) (hnot b o (L _ _ e))
    have Wt : Wd w ht_ := W.le lht
    have gt : Grow st_ ht_ s5 h4 := by
      refine ⟨⟨s5.heap, s5.toks, rfl, cut_sub⟩, X5.grow.pos, cut_sub, X5.grow.sub, fun b o e q => ?_⟩
      obtain ⟨n1, _⟩ := cut_of e
      cases e2 : h4.get? b with
      | none => rfl
      | some o2 => have : ht_.get? b = some o2 := cut_some e2 n1; rw [q] at this; cases this
    have Xt : Ls w st_ ht_ env x0 RO D (dσ ((xs.take i).foldl step σ0)) (ρσ ((xs.take i).foldl step σ0)) s5 h4 :=
      ⟨gt, ⟨cut_none (.inl rfl), X5.own.ns, fun y c e => by rw [X5.nocell] at e; simp at e, X5.own.apart⟩, X5.fm, X5.pin, X5.obj, cut_none (.inr rfl), X5.ne, X5.plain, X5.nocell⟩
    refine wpAny_assign_Name (Xt.store Lt Wt iv (hsx a) hk hx fun s6 h6 X6 => ?_)
    refine hbody st_ ht_ i a ha A s6 h6 _ _ R Lt Wt X6 fun f s7 h7 d' ρ' X7 hpost => ?_
    obtain ⟨hf, rfl, hρ'⟩ := hpost
    have X7 := X7 hf
    have hkeep : ∀ b o, ¬ LD env D b → s5.heap.get? b = some o → s7.heap.get? b = some o := fun b o nb e => Keeps.le X7.grow.keeps b o (cut_some e nb)
    have g7 : Grow s h s7 h7 := by
      refine ⟨?_, X7.grow.pos, lht.trans X7.grow.le, X7.grow.sub, fun b o e q => ?_⟩
      · obtain ⟨H7, t7, rfl, hk7⟩ := X7.grow.keeps
        obtain ⟨H5, t5, e5, hk5⟩ := X5.grow.keeps
        refine ⟨H7, t7, ?_, fun b o e => hk7 b o (cut_some (by rw [e5]; exact hk5 _ _ e) (hnot b o e))⟩
        show ({ s5 with heap := H7, toks := t7 } : Shared) = _
        rw [e5]
      · have e4 := X5.grow.hid b o e q
        have : ht_.get? b = none := by
          cases e2 : ht_.get? b with
          | none => rfl
          | some o2 => rw [(cut_of e2).2] at e4; cases e4
        exact X7.grow.hid b o (cut_some (Keeps.le X5.grow.keeps _ _ e) (hnot b o e)) this
    have hI7 : h7.get? I = none := by
      obtain ⟨o, _, ho, _⟩ := it.occ _ _ hst5
      have nI : ¬ LD env D I := fun q => q.elim hIL hID
      exact X7.grow.hid I o (cut_some ho nI) (by
        cases e2 : ht_.get? I with
        | none => rfl
        | some o2 => rw [(cut_of e2).2] at hI4; cases hI4)
    have htake : (xs.take (i + 1)).foldl step σ0 = step ((xs.take i).foldl step σ0) a := by
      rw [List.take_add_one, ha, List.foldl_append]; rfl
    have fin : ∃ m, m < k ∧ ∃ i' h'', i' + m = xs.length + 1 ∧ i' ≤ xs.length ∧ St i' s7.heap ∧ h''.get? I = none ∧ Ls w s h env x0 RO D (dσ ((xs.take i').foldl step σ0)) (ρσ ((xs.take i').foldl step σ0)) s7 h'' := by
      refine ⟨k - 1, by omega, i + 1, h7, by omega, by omega, it.walks.frame _ _ _ hst5 fun b hb o e => hkeep b o (hLD b hb) e, hI7, ?_⟩
      rw [htake]
      exact (⟨g7, ⟨hLo, X7.own.ns, fun y c e => by rw [X7.nocell] at e; simp at e, X7.own.apart⟩, X7.fm, X7.pin, X7.obj, X5.fresh, X7.ne, X7.plain, X7.nocell⟩ : Ls w s h env x0 RO D _ ρ' s7 h7).weak hρ' (.inl (hsc _))
    rcases hf with rfl | rfl <;> exact fin
  · have hin : i = xs.length := by omega
    refine wpAny_with_toks (n := 1) X4.grow.pos (it.walks.done s4 _ _ (by rw [List.length_map, ← hin]; exact st4) fun h' tk hk' htk => ?_)
    have kk : KB (fun b => b = I) s4 { s4 with heap := h', toks := tk } := ⟨h', tk, rfl, fun b o nb e => hk' b o (by simpa using nb) e⟩
    have X5 := X4.turned hI4 hIs kk htk
    rw [hin, List.take_length] at X5
    exact wpAny_execs_nil (hr A _ h4 Q E R L W X5 hQ)
end
end Mine

namespace Mine
open PySem PySem.W PyProof.Rows

local macro_rules | `(tactic| walk_at "fn") => `(tactic| exact ⟨⟨_, _, _, rfl⟩, rfl, rfl, rfl, rfl, rfl, rfl, rfl, rfl⟩)
local macro_rules | `(tactic| walk_at "gl") => `(tactic| first | exact Gl.text rfl rfl | exact Gl.builtin rfl rfl rfl (by decide))

theorem c_comma : Str.ofString "," = S [44] := by decide +kernel

/-- a list of texts -/
def ListO (ds : List (List Nat)) (o : Obj) : Prop := ∃ (l : List (Str × Tok)) (n : Nat), o = { cls := .type "list", data := .seq (strValues l).toArray n } ∧ l.map (·.1) = ds.map S
def listD (ds : List (List Nat)) : PyData := .list (ds.map fun l => .str (S l))
theorem ListO.is {w : World} {h : Heap} {D : Addr} {ds : List (List Nat)} {o : Obj} (e : h.get? D = some o) (r : ListO ds o) : Is w h (.ref D) (listD ds) := by
  obtain ⟨l, n, rfl, hl⟩ := r
  refine .list e rfl rfl ?_
  have := isAll_values (w := w) (h := h) l
  rw [hl, List.map_map] at this
  exact this

section
variable {w : World} {n : Nat} {s : Shared} {h : Heap} {env : Env} {x0 : Str} {ρ : Mine.Ctx}

theorem Lx.ret {δ : Type} {RO : δ → Obj → Prop} {D : Addr} {d : δ} {post : Flow → δ → Mine.Ctx → Shared → Heap → Prop} {e : Expr} {pos : Pos} {rest : List Stmt} {dat dres : PyData} (hk : env.kindOf x0 = some .local)
    (hdat : ∀ h1 o, h1.get? D = some o → RO d o → Is w h1 (.ref D) dat) (he : Ev w n env ((x0, dat) :: ρ) e dres) (hp : ∀ v s' h', Grow s h s' h' → Is w h' v dres → post (.ret v) d ρ s' h') :
    Lx w n s h env x0 RO D d ρ (execs (.Return (some e) pos :: rest) env) post := by
  intro A s1 h1 Q E R L W X hQ
  have F : Fm w env ((x0, dat) :: ρ) h1 := by
    refine ⟨X.fm.wd, X.fm.kind, X.fm.glob, X.fm.blt, fun y e' q => ?_⟩
    rw [List.lookup_cons] at q
    split at q
    · rename_i hy
      have hy := beq_iff_eq.mp hy
      cases q; subst hy
      obtain ⟨m, a, b⟩ := X.pin
      obtain ⟨o, c, r⟩ := X.obj
      exact .inl ⟨hk, m, _, a, b, hdat h1 o c r⟩
    · exact X.fm.nm y e' q
  exact wpAny_execs_cons (wpAny_Return_some (he h1 F A s1 _ E R X.grow.ok fun v s2 h2 g2 i2 => hQ _ s2 h2 d ρ (fun q => by rcases q with q | q <;> cases q) (hp v s2 h2 (X.grow.trans g2) i2)))

theorem Lx.append {D : Addr} {ds : List (List Nat)} {post : Flow → List (List Nat) → Mine.Ctx → Shared → Heap → Prop} {y : Str} {p1 p2 ap cp pos : Pos} {rest : List Stmt} {l : List Nat} (hk : env.kindOf x0 = some .local) (hy : ρ.lookup y = some (.str (S l))) (hl : ds.length ≤ 100000)
    (hline : (ap.endLine == cp.line) = true) (hd0 : (x0 == ("__debug__" : Str)) = false) (hdy : (y == ("__debug__" : Str)) = false) (hi : interactive env = false)
    (hr : Lx w n s h env x0 ListO D (ds ++ [l]) ρ (execs rest env) post) :
    Lx w n s h env x0 ListO D ds ρ (execs (.Expr (.Call (.Attribute (.Name x0 p1) "append" ap) [.Name y p2] [] cp) pos :: rest) env) post := by
  intro A s1 h1 Q E R L W X hQ
  refine wpAny_execs_cons (wpAny_Expr_any (wpAny_Call_method_lateS rfl rfl hline ?_) hi rfl)
  obtain ⟨m, hm, hx0⟩ := X.pin
  refine wpAny_Name (wpAny_loadName_local X.fm.kind hk (hm.keeps X.grow.sub) hx0 ?_) hd0
  obtain ⟨o, ho, us, k, rfl, hus⟩ := X.obj
  have ho1 := X.grow.sub _ _ ho
  refine ⟨"list", "list.append", PySem.F.plainAttrs_list, slot_list_append, ?_, ⟨_, ho1, rfl⟩, fun a e => by cases e; exact ⟨_, ho1, rfl⟩, ?_⟩
  · show builtinType _ = _; rw [builtinType_eq_fast]; kernel_rfl
  refine callWith_method1 (args_cons (Ev.name hy hdy h1 X.fm A s1 _ E R X.grow.ok fun v s2 h2 g2 i2 => args_nil ?_))
  obtain ⟨t, rfl⟩ := i2.isStr
  have X2 := X.eval g2
  have hlen : us.length = ds.length := by have := congrArg List.length hus; simpa using this
  refine wpAny_list_append_plain (items := (strValues us).toArray) ⟨k, X2.grow.sub _ _ (g2.le _ _ ho)⟩ (fun h' hp sb => ?_) (by rw [List.size_toArray]; show (us.map _).length ≤ _; rw [List.length_map, hlen]; exact sizeLine_big (by omega))
  obtain ⟨k', hk'⟩ := hp
  have X3 := X2.turnD (d' := ds ++ [l]) (tk := s2.toks) L W sb hk' ⟨us ++ [(S l, t)], k', by simp [strValues], by simp [hus]⟩ X2.grow.pos
  exact hr A _ _ Q E R L W X3 hQ

theorem Bx.pinList {p pos lp : Pos} {rest : List Stmt} {d : PyData} (hk : env.kindOf x0 = some .local) (hsc : scalars ρ = true) (hnc : env.cells = []) (hx0 : ρ.lookup x0 = none)
    (hr : ∀ D, Lx w n s h env x0 ListO D [] ρ (execs rest env) (fun f _ _ s' h' => ∃ v, f = .ret v ∧ Grow s h s' h' ∧ Is w h' v d)) : Bx w n s h env ρ (execs (.Assign [.Name x0 p] (.List [] lp) pos :: rest) env) d := by
  intro A s1 h1 Q E R L W g O F hQ
  refine wpAny_execs_cons (wpAny_Assign_Name ?_ rfl)
  refine List_ (args_nil (wpAny_newObj_type ?_ (by show 0 ≤ sizeLine; exact Nat.zero_le _)))
  have kk : Keeps s1 { s1 with heap := s1.heap.push { cls := .type "list", data := .seq ([] : List Value).toArray } } := push_keeps
  have g2 := Grow.vis kk g.ok g.pos
  have hD1 : (vis h1 s1.heap (s1.heap.push { cls := .type "list", data := .seq ([] : List Value).toArray })).get? s1.heap.objs.size = some { cls := .type "list", data := .seq ([] : List Value).toArray } := vis_some (Heap.get?_push_size _ rfl) (.inl fresh_none)
  have hne : s1.heap.objs.size ≠ env.locals := fun q => by
    obtain ⟨m, o, es, ep, ho, _⟩ := O.ns
    exact lt_ne (g.sub _ _ ho) q.symm
  have hfr : s.heap.get? s1.heap.objs.size = none := by
    cases e : s.heap.get? s1.heap.objs.size with
    | none => rfl
    | some o => exact absurd rfl (lt_ne (Keeps.le g.keeps _ _ e))
  have iD : Is w (vis h1 s1.heap (s1.heap.push { cls := .type "list", data := .seq ([] : List Value).toArray })) (.ref s1.heap.objs.size) (.list []) := .list hD1 rfl rfl .nil
  refine store_local L W (g.trans g2) (O.le g2.le) (F.le g2.le) iD (scalars_flat hsc) (by simp [flat, flats]) hk fun s3 h3 g3 O3 F3 _ hns hle => ?_
  obtain ⟨m, hm⟩ := O.ns
  have X3 : Ls w s h env x0 ListO s1.heap.objs.size [] ρ s3 h3 := by
    refine ⟨g3, O3, ⟨F3.wd, F3.kind, F3.glob, F3.blt, fun y e q => ?_⟩, ⟨_, hns m (hm.keeps g2.le), by simp⟩, ⟨_, hle _ _ hne hD1, [], 0, rfl, rfl⟩, hfr, hne, .inl hsc, hnc⟩
    rcases F.nm y e q with ⟨k, m', v, a, b, c⟩ | ⟨_, _, c, v, a, _⟩
    · by_cases hy : y = x0
      · rw [hy, hx0] at q; cases q
      · have := ns_unique a hm; subst this
        exact .inl ⟨k, _, v, hns _ (hm.keeps g2.le), by simp [hy, b], c.scalar (scalar_of hsc q)⟩
    · rw [hnc] at a; simp at a
  exact hr _ A s3 h3 Q E R L W X3 fun f s' h' _ _ _ ⟨v, e, g', i'⟩ => by subst e; exact hQ v s' h' g' i'
end

/-! ## parse_http_list -/
structure HS where
  res : List (List Nat)
  part : List Nat
  esc : Bool
  quo : Bool
def HS.step (σ : HS) (c : Nat) : HS :=
  if σ.esc then { σ with part := σ.part ++ [c], esc := false }
  else if σ.quo then (if c = 92 then { σ with esc := true } else if c = 34 then { σ with part := σ.part ++ [c], quo := false } else { σ with part := σ.part ++ [c] })
  else if c = 44 then { σ with res := σ.res ++ [σ.part], part := [] }
  else if c = 34 then { σ with part := σ.part ++ [c], quo := true } else { σ with part := σ.part ++ [c] }
def HS.init : HS := ⟨[], [], false, false⟩
def HS.out (σ : HS) : List (List Nat) := if σ.part.isEmpty then σ.res else σ.res ++ [σ.part]
def httpL (l : List Nat) : List (List Nat) := (l.foldl HS.step .init).out
def HS.ctx (σ : HS) : Mine.Ctx := [("part", .str (S σ.part)), ("escape", .bool σ.esc), ("quote", .bool σ.quo)]

theorem HS.step_len (σ : HS) (c : Nat) : (σ.step c).part.length ≤ σ.part.length + 1 ∧ (σ.step c).res.length ≤ σ.res.length + 1 := by
  unfold HS.step
  repeat' split
  all_goals simp
theorem HS.fold_len : ∀ (l : List Nat) (σ : HS), (l.foldl HS.step σ).part.length ≤ σ.part.length + l.length ∧ (l.foldl HS.step σ).res.length ≤ σ.res.length + l.length
  | [], σ => by simp
  | c :: l, σ => by
    have h1 := HS.step_len σ c
    have h2 := HS.fold_len l (σ.step c)
    simp only [List.foldl_cons, List.length_cons]
    omega
theorem HS.mem_len (N : Nat) : ∀ (l : List Nat) (σ : HS), (∀ p ∈ σ.res, p.length ≤ N) → σ.part.length + l.length ≤ N → ∀ p ∈ (l.foldl HS.step σ).res, p.length ≤ N
  | [], σ, h, _ => h
  | c :: l, σ, h, hl => by
    simp only [List.length_cons] at hl
    refine HS.mem_len N l (σ.step c) (fun p hp => ?_) ?_
    · unfold HS.step at hp
      repeat' split at hp
      all_goals first
        | exact h p hp
        | (simp only [List.mem_append, List.mem_singleton] at hp
           rcases hp with hp | rfl
           · exact h p hp
           · omega)
    · have := (HS.step_len σ c).1
      omega
theorem HS.out_len (l : List Nat) : ∀ p ∈ (l.foldl HS.step .init).out, p.length ≤ l.length := by
  intro p hp
  unfold HS.out at hp
  have h1 := HS.mem_len l.length l .init (by simp [HS.init]) (by simp [HS.init])
  have h2 := (HS.fold_len l .init).1
  split at hp
  · exact h1 p hp
  · simp only [List.mem_append, List.mem_singleton] at hp
    rcases hp with hp | rfl
    · exact h1 p hp
    · have : HS.init.part.length = 0 := rfl
      omega
theorem ctx3 {a b c : Str} {d1 d2 d3 : PyData} {ρ : Mine.Ctx} (h1 : ρ.lookup a = some d1) (h2 : ρ.lookup b = some d2) (h3 : ρ.lookup c = some d3) : ∀ y e, List.lookup y [(a, d1), (b, d2), (c, d3)] = some e → ρ.lookup y = some e := by
  intro y e q
  rw [List.lookup_cons] at q
  split at q
  · rename_i hy; cases q; rw [beq_iff_eq.mp hy]; exact h1
  · rw [List.lookup_cons] at q
    split at q
    · rename_i hy; cases q; rw [beq_iff_eq.mp hy]; exact h2
    · rw [List.lookup_cons] at q
      split at q
      · rename_i hy; cases q; rw [beq_iff_eq.mp hy]; exact h3
      · simp at q

theorem src_str {w : World} {h h' : Heap} {v : Value} {l : List Nat} (i : Is w h v (.str (S l))) : Src w h' v (l.map fun c => .str (S [c])) := by
  intro A s Q E R L hQ
  obtain ⟨t, rfl⟩ := i.isStr
  have hlen : (S l).cps.size = (l.map fun c => PyData.str (S [c])).length := by simp [S]
  have fin : ∀ (ty : String) (o : Obj), o = { cls := .type ty, data := .fields #[.str (S l) t, .int 0 0] } → ownedIters.contains ty = false →
      Walks PP w A s.heap.objs.size [s.heap.objs.size] [s.heap.objs.size] (S l).cps.size (SignAt (S l)) (fun i h => h.IsStrIter s.heap.objs.size ty (S l) t i) → Q (.ref s.heap.objs.size) { s with heap := s.heap.push o } := by
    rintro ty o rfl hty W
    refine hQ s.heap.objs.size [s.heap.objs.size] _ _ _ ⟨hlen ▸ W, ?_⟩ ⟨_, Heap.get?_push_size _ rfl, rfl, rfl⟩ push_keeps L.2 ?_ fresh_none ?_ ?_
    · rintro i h ⟨o, ho, hc, _⟩; exact ⟨o, ty, ho, hc, hty⟩
    · intro b hb; simp at hb; subst hb; exact ⟨_, Heap.get?_push_size _ rfl⟩
    · intro b hb hne; simp at hb; exact absurd hb hne
    · rintro j v x ⟨c, u, hc, rfl⟩ hx
      have hc' : l[j]? = some c := by simpa [S] using hc
      rw [List.getElem?_map, hc'] at hx
      cases hx
      exact .str _ _
  cases ha : (S l).cps.all (· < 128)
  · exact wpAny_pyIter_wide ha (fin "str_iterator" _ rfl (by decide) (Walks.strWide R.handled _ _ t))
  · exact wpAny_pyIter_ascii ha (fin "str_ascii_iterator" _ rfl (by decide) (Walks.strAscii R.handled _ _ t))

theorem fn_http {w : World} {l : List Nat} (hl : l.length ≤ 50000) : Fn w 1 26 [.str (S l)] (.list ((httpL l).map fun p => .str (Txt.strip (S p)))) := by
  refine Fn.of1 "s" (by walk_at "fn") (fun _ => rfl) rfl fun s h L => ?_
  refine Bx.pinList ?_ ?_ ?_ ?_ fun D => ?_
  · rfl
  · rfl
  · rfl
  · rfl
  refine Lx.assign (d1 := .str (Str.ofString "")) ?_ ?_ ?_ ?_ ?_ ?_
  · exact Ev.str
  · rfl
  · rfl
  · decide
  · rfl
  refine Lx.assign2 (d1 := .bool false) ?_ ?_ ?_ ?_ ?_ ?_ ?_
  · exact Ev.bool
  · rfl
  · rfl
  · rfl
  · decide
  · decide
  refine Lx.for (dI := .str (S l)) l (fun c => .str (S [c])) HS.res HS.ctx HS.step .init rfl ?_ (fun _ => rfl) (fun _ => rfl) (Ev.name rfl) (fun h v m _ _ i => src_str i) (fun _ => rfl) rfl (by decide) (fun s' h' i c hc => ?_) ?_
  · refine ctx3 ?_ rfl rfl
    show some (PyData.str (Str.ofString "")) = some (PyData.str (S []))
    rfl
  · have hb := HS.fold_len (l.take i) .init
    have hil : (l.take i).length ≤ 50000 := Nat.le_trans (List.length_take_le' _ _) hl
    generalize (l.take i).foldl HS.step .init = σ at hb
    obtain ⟨hb1, hb2⟩ := hb
    have hp0 : HS.init.part.length = 0 := rfl
    have hr0 : HS.init.res.length = 0 := rfl
    have hcat : (S σ.part ++ S [c]).length ≤ 1000000 := by rw [S_cat, S_len]; simp; omega
    have ecat : S σ.part ++ S [c] = S (σ.part ++ [c]) := S_cat _ _
    have eq1 : ∀ k : Nat, decide (S [c] = S [k]) = decide (c = k) := fun k => by
      by_cases hck : c = k
      · subst hck; simp
      · have : S [c] ≠ S [k] := fun e => hck (by have := S_inj e; simpa using this)
        simp [hck, this]
    refine Lx.ite (c := σ.esc) (Ts.value (Ev.name rfl) tr_bool) (fun he => ?_) fun he => ?_
    · refine Lx.aug (a := S σ.part) (b := S [c]) rfl (Ev.name rfl) rfl (by decide) hcat ?_
      refine Lx.assign (d1 := .bool false) Ev.bool rfl rfl (by decide) rfl ?_
      refine Lx.cont fun _ _ _ => ⟨.inr rfl, ?_, ?_⟩
      · simp [HS.step, he]
      · rw [show σ.step c = { σ with part := σ.part ++ [c], esc := false } from by simp [HS.step, he]]
        exact ctx3 (by rw [← ecat]; rfl) rfl rfl
    refine Lx.ite (c := σ.quo) (Ts.value (Ev.name rfl) tr_bool) (fun hq => ?_) fun hq => ?_
    · refine Lx.ite (c := decide (c = 92)) (Ts.cmp (Ev.name rfl) Ev.str ?_) (fun h1 => ?_) fun h1 => ?_
      · have := op_eq_str (w := w) (n := 0) (x := S [c]) (y := Str.ofString "\\")
        rwa [c_bs, eq1, ← c_bs] at this
      · have h1 : c = 92 := by simpa using h1
        refine Lx.assign (d1 := .bool true) Ev.bool rfl rfl (by decide) rfl ?_
        refine Lx.cont fun _ _ _ => ⟨.inr rfl, ?_, ?_⟩
        · simp [HS.step, he, hq, h1]
        · rw [show σ.step c = { σ with esc := true } from by simp [HS.step, he, hq, h1]]
          exact ctx3 rfl rfl rfl
      · have h1 : ¬ c = 92 := by simpa using h1
        refine Lx.ite (c := decide (c = 34)) (Ts.cmp (Ev.name rfl) Ev.str ?_) (fun h2 => ?_) fun h2 => ?_
        · have := op_eq_str (w := w) (n := 0) (x := S [c]) (y := Str.ofString "\"")
          rwa [c_q, eq1, ← c_q] at this
        · have h2 : c = 34 := by simpa using h2
          refine Lx.assign (d1 := .bool false) Ev.bool rfl rfl (by decide) rfl ?_
          refine Lx.aug (a := S σ.part) (b := S [c]) rfl (Ev.name rfl) rfl (by decide) hcat ?_
          refine Lx.cont fun _ _ _ => ⟨.inr rfl, ?_, ?_⟩
          · simp [HS.step, he, hq, h2]
          · rw [show σ.step c = { σ with part := σ.part ++ [c], quo := false } from by simp [HS.step, he, hq, h2]]
            exact ctx3 (by rw [← ecat]; rfl) rfl rfl
        · have h2 : ¬ c = 34 := by simpa using h2
          refine Lx.aug (a := S σ.part) (b := S [c]) rfl (Ev.name rfl) rfl (by decide) hcat ?_
          refine Lx.cont fun _ _ _ => ⟨.inr rfl, ?_, ?_⟩
          · simp [HS.step, he, hq, h1, h2]
          · rw [show σ.step c = { σ with part := σ.part ++ [c] } from by simp [HS.step, he, hq, h1, h2]]
            exact ctx3 (by rw [← ecat]; rfl) rfl rfl
    refine Lx.ite (c := decide (c = 44)) (Ts.cmp (Ev.name rfl) Ev.str ?_) (fun h1 => ?_) fun h1 => ?_
    · have := op_eq_str (w := w) (n := 0) (x := S [c]) (y := Str.ofString ",")
      rwa [c_comma, eq1, ← c_comma] at this
    · have h1 : c = 44 := by simpa using h1
      refine Lx.append (l := σ.part) rfl rfl (by omega) rfl (by decide) (by decide) rfl ?_
      refine Lx.assign (d1 := .str (Str.ofString "")) Ev.str rfl rfl (by decide) rfl ?_
      refine Lx.cont fun _ _ _ => ⟨.inr rfl, ?_, ?_⟩
      · simp [HS.step, he, hq, h1]
      · rw [show σ.step c = { σ with res := σ.res ++ [σ.part], part := [] } from by simp [HS.step, he, hq, h1]]
        exact ctx3 rfl rfl rfl
    have h1 : ¬ c = 44 := by simpa using h1
    refine Lx.ite (c := decide (c = 34)) (Ts.cmp (Ev.name rfl) Ev.str ?_) (fun h2 => ?_) fun h2 => ?_
    · have := op_eq_str (w := w) (n := 0) (x := S [c]) (y := Str.ofString "\"")
      rwa [c_q, eq1, ← c_q] at this
    · have h2 : c = 34 := by simpa using h2
      refine Lx.assign (d1 := .bool true) Ev.bool rfl rfl (by decide) rfl ?_
      refine Lx.aug (a := S σ.part) (b := S [c]) rfl (Ev.name rfl) rfl (by decide) hcat ?_
      refine Lx.nil fun _ _ _ => ⟨.inl rfl, ?_, ?_⟩
      · simp [HS.step, he, hq, h2]
      · rw [show σ.step c = { σ with part := σ.part ++ [c], quo := true } from by simp [HS.step, he, hq, h2]]
        exact ctx3 (by rw [← ecat]; rfl) rfl rfl
    · have h2 : ¬ c = 34 := by simpa using h2
      refine Lx.aug (a := S σ.part) (b := S [c]) rfl (Ev.name rfl) rfl (by decide) hcat ?_
      refine Lx.nil fun _ _ _ => ⟨.inl rfl, ?_, ?_⟩
      · simp [HS.step, he, hq, h1, h2]
      · rw [show σ.step c = { σ with part := σ.part ++ [c] } from by simp [HS.step, he, hq, h1, h2]]
        exact ctx3 (by rw [← ecat]; rfl) rfl rfl
  · have hb := HS.fold_len l .init
    have eo : httpL l = (l.foldl HS.step .init).out := rfl
    rw [eo]
    have hmem0 : ∀ p ∈ (l.foldl HS.step .init).out, p.length ≤ 50000 := fun p hp => Nat.le_trans (HS.out_len l p hp) hl
    generalize l.foldl HS.step .init = σ at hb hmem0
    obtain ⟨hb1, hb2⟩ := hb
    have hp0 : HS.init.part.length = 0 := rfl
    have hr0 : HS.init.res.length = 0 := rfl
    refine Lx.ite (c := (S σ.part).length != 0) (Ts.value (Ev.name rfl) (tr_str (by rw [S_len]; omega))) (fun hc => ?_) fun hc => ?_
    · refine Lx.append (l := σ.part) rfl rfl (by omega) rfl (by decide) (by decide) rfl ?_
      have hds : σ.res ++ [σ.part] = σ.out := by unfold HS.out; rw [if_neg]; rw [S_len] at hc; simpa using hc
      refine Lx.ret (dat := listD (σ.res ++ [σ.part])) (dres := .list (σ.out.map fun p => .str (Txt.strip (S p)))) ?_ (fun _ _ e r => ListO.is e r) ?_ fun v s' h' g i => ⟨v, rfl, g, i⟩
      · rfl
      · refine Ev.conv (Ev.comp (cl := []) (ρb := []) (xs := (σ.res ++ [σ.part]).map fun p => .str (S p)) (out := outOf (fun _ => true) (fun p => .str (Txt.strip (S p))) (σ.res ++ [σ.part])) (EvI.list (Ev.name rfl)) rfl rfl (by decide) nocl trivial
          (LoopOk.one (σ.res ++ [σ.part]) (fun p => .str (S p)) (fun p => [("part", .str (S p))]) (fun _ => true) (fun p => .str (Txt.strip (S p))) (fun C _ p hp => ⟨.name rfl, .inl ⟨rfl, rfl⟩, fun _ => ?_, fun _ => rfl⟩) (by simp; omega))) (by rw [outOf_all, hds])
        exact Ev.strip (Ev.name rfl) (by rw [S_len]; have := hmem0 p (hds ▸ hp); omega)
    · have hc' : σ.part = [] := by rw [S_len] at hc; simpa using hc
      have hds : σ.res = σ.out := by unfold HS.out; rw [if_pos]; simp [hc']
      refine Lx.ret (dat := listD (σ.res)) (dres := .list (σ.out.map fun p => .str (Txt.strip (S p)))) ?_ (fun _ _ e r => ListO.is e r) ?_ fun v s' h' g i => ⟨v, rfl, g, i⟩
      · rfl
      · refine Ev.conv (Ev.comp (cl := []) (ρb := []) (xs := (σ.res).map fun p => .str (S p)) (out := outOf (fun _ => true) (fun p => .str (Txt.strip (S p))) (σ.res)) (EvI.list (Ev.name rfl)) rfl rfl (by decide) nocl trivial
          (LoopOk.one (σ.res) (fun p => .str (S p)) (fun p => [("part", .str (S p))]) (fun _ => true) (fun p => .str (Txt.strip (S p))) (fun C _ p hp => ⟨.name rfl, .inl ⟨rfl, rfl⟩, fun _ => ?_, fun _ => rfl⟩) (by omega))) (by rw [outOf_all, hds])
        exact Ev.strip (Ev.name rfl) (by rw [S_len]; have := hmem0 p (hds ▸ hp); omega)
end Mine

namespace Mine
open PySem PySem.W PyProof.Rows

local macro_rules | `(tactic| walk_at "fn") => `(tactic| exact ⟨⟨_, _, _, rfl⟩, rfl, rfl, rfl, rfl, rfl, rfl, rfl, rfl⟩)
local macro_rules | `(tactic| walk_at "gl") => `(tactic| first | exact Gl.text rfl rfl | exact Gl.builtin rfl rfl rfl (by decide))

theorem unpack_list2 {w : World} {A : Around} {E : Value → Shared → Prop} {s : Shared} {l : Addr} {v1 v2 : Value} {Q : List Value → Shared → Prop} (hh : A.handled = none) (hl : s.heap.IsList l #[v1, v2])
    (hQ : ∀ h', Le s.heap h' → Q [v1, v2] { s with heap := h' }) : wpAny (model PP w) A (unpackItems (.ref l) 2 none) Q E s := by
  have hlt : l ≠ s.heap.objs.size := by obtain ⟨o, ho, _⟩ := hl; exact lt_ne ho
  unfold unpackItems
  refine wpAny_bind ?_
  unfold notIterableAtAll
  refine wpAny_bind (wpAny_specialOf hl.typeIs slot_list_iter.lookup ?_)
  refine wpAny_pure ?_
  simp only [Bool.false_eq_true, if_false]
  refine wpAny_bind (wpAny_holding (wpAny_pyIter_list hl ?_))
  refine wpAny_bind (wpAny_holding ?_)
  have hl0 : (s.heap.push { cls := .type "list_iterator", data := .fields #[.ref l, .int 0 0] }).IsList l #[v1, v2] := by
    obtain ⟨o, ho, r⟩ := hl; exact ⟨o, Heap.get?_push_of_some _ ho, r⟩
  show wpAny _ _ (pyNext (.ref s.heap.objs.size) >>= _) _ _ _
  refine wpAny_bind (wpAny_pyNext_list_item (i := 0) (x := v1) ⟨_, Heap.get?_push_size _ rfl, rfl, rfl⟩ hl0 rfl fun h1 it1 sb1 => ?_)
  have hl1 := hl0.extBut sb1.extBut hlt
  refine wpAny_bind (wpAny_holding ?_)
  show wpAny _ _ (pyNext (.ref s.heap.objs.size) >>= _) _ _ _
  refine wpAny_bind (wpAny_pyNext_list_item (i := 1) (x := v2) it1 hl1 rfl fun h2 it2 sb2 => ?_)
  have hl2 := hl1.extBut sb2.extBut hlt
  refine wpAny_bind (wpAny_holding ?_)
  show wpAny _ _ (pure []) _ _ _
  refine wpAny_pure (wpAny_pure (wpAny_pure ?_))
  rw [if_neg (by simp)]
  refine wpAny_bind (wpAny_holding (wpAny_pyNext_list_end hh it2 hl2 rfl fun h3 he3 => ?_))
  simp only [Option.isSome_none, Bool.false_eq_true, if_false]
  refine wpAny_pure (hQ h3 fun b o e => ?_)
  have hb := lt_ne e
  exact he3 b o hb (sb2.extBut b o hb (sb1.extBut b o hb (Heap.get?_push_of_some _ e)))

/-- a table of texts -/
def TabO (w : World) (kvs : List (Str × Str)) (o : Obj) : Prop := ∃ (l : List (Str × Str × Tok)) (es : Array DictEntry) (ep : Nat), o.ExactDict ∧ o.data = .dict es ep ∧ KeysOf (PySem.strKind PP w) es ∧
  Pairs (PySem.strKind PP w) es.toList (l.map fun p => (p.1, Value.str p.2.1 p.2.2)) ∧ ((l.map fun p => (p.1, Value.str p.2.1 p.2.2)).map (·.1)).Nodup ∧ l.map (fun p => (p.1, p.2.1)) = kvs
def tabD (kvs : List (Str × Str)) : PyData := .dict (kvs.map fun p => (.str p.1, .str p.2))
theorem TabO.is {w : World} {h : Heap} {D : Addr} {kvs : List (Str × Str)} {o : Obj} (hD : (D == sysModules) = false) (e : h.get? D = some o) (r : TabO w kvs o) : Is w h (.ref D) (tabD kvs) := by
  obtain ⟨l, es, ep, h1, h2, h3, h4, h5, rfl⟩ := r
  unfold tabD
  rw [List.map_map]
  exact .dict hD ⟨o, es, e, h1, h2, h3, h4, h5⟩

/-- d[k] = v -/
def ins (kvs : List (Str × Str)) (k v : Str) : List (Str × Str) := if kvs.any (fun p => decide (p.1 = k)) then kvs.map (fun p => if p.1 = k then (p.1, v) else p) else kvs ++ [(k, v)]

section
variable {w : World} {n : Nat} {s : Shared} {h : Heap} {env : Env} {x0 : Str} {ρ : Mine.Ctx}

theorem Lx.setitem {D : Addr} {kvs : List (Str × Str)} {post : Flow → List (Str × Str) → Mine.Ctx → Shared → Heap → Prop} {x y : Str} {p1 p2 p3 p4 pos : Pos} {rest : List Stmt} {k v : Str} (hk : env.kindOf x0 = some .local) (hx : ρ.lookup x = some (.str k)) (hy : ρ.lookup y = some (.str v)) (hl : kvs.length ≤ 100000)
    (hd0 : (x0 == ("__debug__" : Str)) = false) (hdx : (x == ("__debug__" : Str)) = false) (hdy : (y == ("__debug__" : Str)) = false)
    (hr : Lx w n s h env x0 (TabO w) D (ins kvs k v) ρ (execs rest env) post) :
    Lx w n s h env x0 (TabO w) D kvs ρ (execs (.Assign [.Subscript (.Name x0 p1) (.Name x p2) p3] (.Name y p4) pos :: rest) env) post := by
  intro A s1 h1 Q E R L W X hQ
  refine wpAny_execs_cons (wpAny_Assign_Subscript (Ev.name hy hdy h1 X.fm A s1 _ E R X.grow.ok fun vv s2 h2 g2 i2 => ?_) rfl)
  have X2 := X.eval g2
  obtain ⟨m, hm, hx0⟩ := X2.pin
  refine wpAny_Name (wpAny_loadName_local X.fm.kind hk (hm.keeps X2.grow.sub) hx0 ?_) hd0
  refine Ev.name hx hdx h2 X2.fm A s2 _ E R g2.ok fun kv s3 h3 g3 i3 => ?_
  have X3 := X2.eval g3
  obtain ⟨t, rfl⟩ := i2.isStr
  obtain ⟨t2, rfl⟩ := i3.isStr
  obtain ⟨o, ho, l, es, ep, e1, e2, e3, e4, e5, hkv⟩ := X3.obj
  have ho3 := X3.grow.sub _ _ ho
  have hd3 : s3.heap.DictOf (PySem.strKind PP w) D (l.map fun p => (p.1, Value.str p.2.1 p.2.2)) := ⟨o, es, ep, ho3, e1, e2, e3, e4, e5⟩
  have hll : l.length = kvs.length := by have := congrArg List.length hkv; simpa using this
  have hes : es.size = l.length := by have := e4.length; simpa using this
  refine wpAny_setItem_pairs (k := k) (by simp [PySem.strKind, Value.isStrOf]) hd3 (fun h' hd' sb => ?_) ?_
  · obtain ⟨o', es', ep', ho', r1, r2, r3, r4, r5⟩ := hd'
    have hst : stored (l.map fun p => (p.1, Value.str p.2.1 p.2.2)) k (Value.str v t) = (if l.any (fun p => decide (p.1 = k)) then l.map (fun p => if p.1 = k then (p.1, v, t) else p) else l ++ [(k, v, t)]).map fun p => (p.1, Value.str p.2.1 p.2.2) := by
      unfold stored
      rw [List.any_map]
      have : ((fun kv : Str × Value => decide (kv.1 = k)) ∘ fun p : Str × Str × Tok => (p.1, Value.str p.2.1 p.2.2)) = fun p => decide (p.1 = k) := rfl
      rw [this]
      split
      · rw [List.map_map, List.map_map]
        apply List.map_congr_left
        intro p _
        simp only [Function.comp]
        split <;> rfl
      · simp
    rw [hst] at r4 r5
    have X4 := X3.turnD (d' := ins kvs k v) (tk := s3.toks + 1) L W sb ho' ⟨_, es', ep', r1, r2, r3, r4, r5, ?_⟩ (Nat.succ_pos _)
    · exact hr A _ _ Q E R L W X4 hQ
    · subst hkv
      unfold ins
      rw [List.any_map]
      have : ((fun p : Str × Str => decide (p.1 = k)) ∘ fun p : Str × Str × Tok => (p.1, p.2.1)) = fun p => decide (p.1 = k) := rfl
      rw [this]
      split
      · rw [List.map_map, List.map_map]
        apply List.map_congr_left
        intro p _
        simp only [Function.comp]
        split <;> rfl
      · simp
  · rw [List.length_map, hll]; exact sizeLine_big (by omega)

theorem tab_nonseq {w : World} : ∀ d o, TabO w d o → ∀ vs n, o.data ≠ .seq vs n := by
  rintro d o ⟨l, es, ep, _, h2, _⟩ vs n q
  rw [h2] at q; cases q

theorem Bx.pinDict {p pos lp : Pos} {rest : List Stmt} {d : PyData} (hk : env.kindOf x0 = some .local) (hfl : flatCtx ρ = true) (hnc : env.cells = []) (hx0 : ρ.lookup x0 = none)
    (hr : ∀ D, (D == sysModules) = false → Lx w n s h env x0 (TabO w) D [] ρ (execs rest env) (fun f _ _ s' h' => ∃ v, f = .ret v ∧ Grow s h s' h' ∧ Is w h' v d)) : Bx w n s h env ρ (execs (.Assign [.Name x0 p] (.Dict [] [] lp) pos :: rest) env) d := by
  intro A s1 h1 Q E R L W g O F hQ
  refine wpAny_execs_cons (wpAny_Assign_Name ?_ rfl)
  refine wpAny_Dict_empty ?_
  have kk : Keeps s1 { s1 with heap := s1.heap.push { cls := .type "dict", data := .dict #[] } } := push_keeps
  have g2 := Grow.vis kk g.ok g.pos
  have hD1 : (vis h1 s1.heap (s1.heap.push { cls := .type "dict", data := .dict #[] })).get? s1.heap.objs.size = some { cls := .type "dict", data := .dict #[] } := vis_some (Heap.get?_push_size _ rfl) (.inl fresh_none)
  have hne : s1.heap.objs.size ≠ env.locals := fun q => by
    obtain ⟨m, o, es, ep, ho, _⟩ := O.ns
    exact lt_ne (g.sub _ _ ho) q.symm
  have hfr : s.heap.get? s1.heap.objs.size = none := by
    cases e : s.heap.get? s1.heap.objs.size with
    | none => rfl
    | some o => exact absurd rfl (lt_ne (Keeps.le g.keeps _ _ e))
  have hsys : ((s1.heap.objs.size : Addr) == sysModules) = false := by
    obtain ⟨mg, mb, hg, _⟩ := F.wd.ns
    obtain ⟨o, _, _, ho, _⟩ := hg
    have := lt_nat (g.sub _ _ ho)
    have h3 : (3 : Nat) < s1.heap.objs.size := this
    exact beq_eq_false_iff_ne.mpr (ne_nat (a := s1.heap.objs.size) (b := 1) (by omega))
  have t0 : TabO w [] ({ cls := .type "dict", data := .dict #[] } : Obj) := ⟨[], #[], 0, ⟨rfl, rfl, rfl⟩, rfl, (fun _ he => by simp at he), .nil, by simp, rfl⟩
  have iD : Is w (vis h1 s1.heap (s1.heap.push { cls := .type "dict", data := .dict #[] })) (.ref s1.heap.objs.size) (tabD []) := TabO.is hsys hD1 t0
  obtain ⟨m, hm⟩ := O.ns
  refine wpAny_storeName_local hk ((hm.keeps g2.le).keeps g2.sub) (fun h' hn' hs => ?_) (by rw [F.kind]; rfl)
  have g12 := g.trans g2
  have hv := vis_store g2.sub hs
  obtain ⟨o, es, ep, ho, hd, r⟩ := id (hm.keeps g2.le)
  obtain ⟨o', es', ep', ho', hd', r'⟩ := id hn'
  have hL' : (vis (vis h1 s1.heap (s1.heap.push { cls := .type "dict", data := .dict #[] })) (s1.heap.push { cls := .type "dict", data := .dict #[] }) h').Ns env.locals (fun y => if y = x0 then some (.ref s1.heap.objs.size) else m y) :=
    ⟨o', es', ep', vis_store_at (s1 := { s1 with heap := s1.heap.push { cls := .type "dict", data := .dict #[] } }) ho ho', hd', r'⟩
  have g3 := grow_store (tk := s1.toks + 1) g12 L O.fresh hs (Nat.succ_pos _)
  refine hr _ hsys A _ _ Q E R L W ⟨g3, ⟨O.fresh, ⟨_, hL'⟩, fun y c e => by rw [hnc] at e; simp at e, O.apart⟩, ⟨W.le g3.le, F.kind, F.glob, F.blt, fun y e q => ?_⟩, ⟨_, hL', by simp⟩, ⟨_, hv _ _ (by rw [Heap.hide_ne _ hne]; exact hD1), t0⟩, hfr, hne, .inr ⟨hfl, tab_nonseq⟩, hnc⟩ fun f s' h' _ _ _ ⟨v, e, g', i'⟩ => by subst e; exact hQ v s' h' g' i'
  rcases (F.le g2.le).nm y e q with ⟨k, m', v, a, b, c⟩ | ⟨_, _, c, v, a, _⟩
  · by_cases hy : y = x0
    · rw [hy, hx0] at q; cases q
    · have := ns_unique a (hm.keeps g2.le); subst this
      exact .inl ⟨k, _, v, hL', by simp [hy, b], (c.hide (ns_data (hm.keeps g2.le)) (flat_of hfl q)).le hv⟩
  · rw [hnc] at a; simp at a

theorem Lx.unpack2 {δ : Type} {RO : δ → Obj → Prop} {D : Addr} {d : δ} {post : Flow → δ → Mine.Ctx → Shared → Heap → Prop} {a b : Str} {pa pb tp pos : Pos} {k : Nat} {value : Expr} {rest : List Stmt} {x y : Str} (he : Ev w n env ρ value (.list [.str x, .str y]))
    (ha : env.kindOf a = some .local) (hb : env.kindOf b = some .local) (hax : x0 ≠ a) (hbx : x0 ≠ b) (hsw : swapsWithSole [.Tuple [.Name a pa, .Name b pb] k tp] value pos.line env = pure false) (hw : swappedStores [.Tuple [.Name a pa, .Name b pb] k tp] value env = pure none)
    (hr : Lx w n s h env x0 RO D d ((b, .str y) :: (a, .str x) :: ρ) (execs rest env) post) : Lx w n s h env x0 RO D d ρ (execs (.Assign [.Tuple [.Name a pa, .Name b pb] k tp] value pos :: rest) env) post := by
  intro A s1 h1 Q E R L W X hQ
  refine wpAny_execs_cons (Assign_Tuple (he h1 X.fm A s1 _ E R X.grow.ok fun v s2 h2 g2 i2 => ?_) hsw hw)
  obtain ⟨l, us, rfl, hL, hall⟩ := i2.isList
  obtain ⟨v1, v2, hus, i1, i2'⟩ := hall.two
  obtain ⟨o, ho, hc, kk, hd⟩ := hL
  have hus' : us = #[v1, v2] := by rw [← Array.toList_inj, hus]
  subst hus'
  have X2 := X.eval g2
  rw [arm_assign_Tuple]
  refine wpAny_bind (wpAny_standAt ?_)
  unfold unpack
  refine wpAny_bind (wpAny_holding (unpack_list2 R.handled ⟨o, g2.sub _ _ ho, hc, kk, hd⟩ fun h' hle => ?_))
  have g3 : Grow s2 h2 { s2 with heap := h' } h2 := ⟨⟨h', s2.toks, rfl, hle⟩, g2.pos, Le.refl _, g2.sub.trans hle, fun _ _ _ e => e⟩
  have X3 := X2.eval g3
  refine wpAny_assignInOrder_more (wpAny_assign_Name (X3.store L W i1 rfl ha hax fun s4 h4 X4 => ?_))
  exact wpAny_assignInOrder_more (wpAny_assign_Name (X4.store L W (i2'.scalar rfl) rfl hb hbx fun s5 h5 X5 => wpAny_assignInOrder_none (hr A s5 h5 Q E R L W X5 hQ)))
end

def unq (v : List Nat) : List Nat := if v.head? = some 34 ∧ v.getLast? = some 34 then (v.drop 1).dropLast else v
def KvOk (e : List Nat × List Nat) : Prop := 61 ∉ e.1 ∧ 2 ≤ e.2.length ∧ e.1.length ≤ 1000 ∧ e.2.length ≤ 10000
def elt (e : List Nat × List Nat) : PyData := .str (S (e.1 ++ 61 :: e.2))
def insE (t : List (Str × Str)) (e : List Nat × List Nat) : List (Str × Str) := ins t (S e.1) (S (unq e.2))
theorem ins_len (t : List (Str × Str)) (k v : Str) : (ins t k v).length ≤ t.length + 1 := by
  unfold ins
  split <;> simp
theorem insE_len : ∀ (es : List (List Nat × List Nat)) (t : List (Str × Str)), (es.foldl insE t).length ≤ t.length + es.length
  | [], t => by simp
  | e :: es, t => by
    have h1 := ins_len t (S e.1) (S (unq e.2))
    have h2 := insE_len es (insE t e)
    simp only [List.foldl_cons, List.length_cons]
    unfold insE at h2 ⊢
    omega

theorem seqFirst (l : List Nat) (c : Nat) (h : l.head? = some c) : (seqIndex? 0 (S l).length).bind ((S l).cps[·]?) = some c := by
  cases l with
  | nil => simp at h
  | cons a r => simp only [List.head?_cons, Option.some.injEq] at h; subst h; simp [seqIndex?, S, Str.length]
theorem seqLast (l : List Nat) (c : Nat) (h : l.getLast? = some c) : (seqIndex? (-1) (S l).length).bind ((S l).cps[·]?) = some c := by
  have hl : 0 < l.length := by cases l with | nil => simp at h | cons _ _ => simp
  rw [List.getLast?_eq_getElem?] at h
  unfold seqIndex?
  rw [S_len]
  have : (-1 : Int) < 0 := by omega
  simp only [this, if_true]
  have e : (-1 : Int) + (l.length : Int) = ((l.length - 1 : Nat) : Int) := by omega
  rw [e]
  have h1 : ((l.length - 1 : Nat) : Int) ≥ 0 := by omega
  have h2 : ((l.length - 1 : Nat) : Int) < (l.length : Int) := by omega
  simp [h1, h2, h]

theorem c_eqs : Str.ofString "=" = S [61] := by decide +kernel
theorem kind_eqs : PySem.Builtin.Str.strKind (S [61]) = 1 := by decide +kernel
theorem decS (c k : Nat) : decide (S [c] = S [k]) = decide (c = k) := by
  by_cases hck : c = k
  · subst hck; simp
  · have : S [c] ≠ S [k] := fun e => hck (by have := S_inj e; simpa using this)
    simp [hck, this]
theorem flat_elts (es : List (List Nat × List Nat)) : flat (.list (es.map elt)) = true := by
  simp only [flat]
  exact flats_map _ (fun _ => by simp [elt, flat]) es

theorem fn_keqv {w : World} {es : List (List Nat × List Nat)} (hl : es.length ≤ 10000) (hok : ∀ e ∈ es, KvOk e) : Fn w 1 21 [.list (es.map elt)] (tabD (es.foldl insE [])) := by
  refine Fn.of1 "l" (by walk_at "fn") (fun _ => rfl) rfl fun s h L => ?_
  refine Bx.pinDict ?_ ?_ ?_ ?_ fun D hD => ?_
  · rfl
  · simp only [flatCtx, List.all_cons, List.all_nil, Bool.and_true]
    exact flat_elts es
  · rfl
  · rfl
  refine Lx.for (dI := .list (es.map elt)) es elt id (fun _ => []) insE [] rfl (fun y e q => by simp at q) (fun _ => rfl) (fun _ => rfl) (Ev.name rfl) (fun h v m hn hR i => ?_) (fun _ => rfl) rfl (by decide) (fun s' h' i e he => ?_) ?_
  · refine src_list (Is.cut (fun b o q e => ?_) (flat_elts es) i)
    rcases q with q | q
    · subst q; exact ns_data hn o e
    · subst q
      obtain ⟨d, r⟩ := hR o e
      exact tab_nonseq d o r
  · have hmem : e ∈ es := List.mem_of_getElem? he
    obtain ⟨k1, k2, k3, k4⟩ := hok e hmem
    have hlen := insE_len (es.take i) []
    have hil : (es.take i).length ≤ 10000 := Nat.le_trans (List.length_take_le' _ _) hl
    generalize (es.take i).foldl insE [] = t at hlen
    obtain ⟨k, v⟩ := e
    simp only at k1 k2 k3 k4
    simp only [List.length_nil, Nat.zero_add] at hlen
    have hsp : (Txt.splitMax (S (k ++ 61 :: v)) (Str.ofString "=") 1).map PyData.str = [.str (S k), .str (S v)] := by rw [c_eqs, splitL k1 kind_eqs]; rfl
    refine Lx.unpack2 (x := S k) (y := S v) ?_ ?_ ?_ ?_ ?_ ?_ ?_ ?_
    · refine Ev.meth (x := S (k ++ 61 :: v)) (ds := [.str (Str.ofString "="), .int 1]) (Ev.name rfl) PySem.F.slot_str_split PySem.F.type_str_split (Evs.cons Ev.str (Evs.cons Ev.int Evs.nil)) (fun h1 u vs W i j => ?_)
      obtain ⟨tt, rfl⟩ := i.isStr
      obtain ⟨a, b, rfl, ia, ib⟩ := j.two
      obtain ⟨ta, rfl⟩ := ia.isStr
      obtain ⟨tb, rfl⟩ := ib.isInt
      have := run_split (w := w) (n := 0) (h := h1) (x := S (k ++ 61 :: v)) (y := Str.ofString "=") (t := tt) (u := ta) (v := tb) (k := 1) (by decide +kernel) (by omega) (by rw [S_len]; simp; omega)
      rw [hsp] at this
      exact this
    · rfl
    · rfl
    · decide
    · decide
    · rfl
    · rfl
    obtain ⟨c1, hc1⟩ : ∃ c, v.head? = some c := by cases v with | nil => simp at k2 | cons a r => exact ⟨a, rfl⟩
    obtain ⟨c2, hc2⟩ : ∃ c, v.getLast? = some c := by
      cases h : v.getLast? with
      | none => rw [List.getLast?_eq_none_iff] at h; subst h; simp at k2
      | some c => exact ⟨c, rfl⟩
    refine Lx.ite (c := decide (c1 = 34) && decide (c2 = 34)) (Ts.and (Ts.cmp (Ev.item_str (c := c1) (x := S v) (k := 0) (Ev.name rfl) Ev.int (by omega) (by omega) (seqFirst v c1 hc1)) Ev.str ?_) fun _ =>
        Ts.cmp (Ev.item_str (c := c2) (x := S v) (k := -1) (Ev.name rfl) (Ev.un Ev.int op_neg) (by omega) (by omega) (seqLast v c2 hc2)) Ev.str ?_) (fun hq => ?_) fun hq => ?_
    · have := op_eq_str (w := w) (n := 0) (x := S [c1]) (y := Str.ofString "\"")
      rw [c_q, decS, ← c_q] at this
      exact this
    · have := op_eq_str (w := w) (n := 0) (x := S [c2]) (y := Str.ofString "\"")
      rw [c_q, decS, ← c_q] at this
      exact this
    · have hu : unq v = (v.drop 1).dropLast := by
        unfold unq
        rw [if_pos]
        rw [hc1, hc2]
        simpa using hq
      refine Lx.assign (d1 := .str (S (unq v))) ?_ ?_ ?_ ?_ ?_ ?_
      · rw [hu, ← slice_mid v k2]
        exact Ev.slice_str (Ev.name rfl) (.some Ev.int) (.some (Ev.un Ev.int op_neg)) (by rw [S_len]; omega)
      · rfl
      · rfl
      · decide
      · rfl
      refine Lx.setitem (k := S k) (v := S (unq v)) ?_ ?_ ?_ ?_ ?_ ?_ ?_ ?_
      · rfl
      · rfl
      · rfl
      · simp only [id]; omega
      · decide
      · decide
      · decide
      exact Lx.nil fun _ _ _ => ⟨.inl rfl, rfl, fun y e q => by simp at q⟩
    · have hu : unq v = v := by
        unfold unq
        rw [if_neg]
        rw [hc1, hc2]
        simpa using hq
      refine Lx.setitem (k := S k) (v := S v) ?_ ?_ ?_ ?_ ?_ ?_ ?_ ?_
      · rfl
      · rfl
      · rfl
      · simp only [id]; omega
      · decide
      · decide
      · decide
      refine Lx.nil fun _ _ _ => ⟨.inl rfl, ?_, fun y e q => by simp at q⟩
      simp only [id, insE, hu]
  · refine Lx.ret (dat := tabD (es.foldl insE [])) ?_ (fun _ _ e r => TabO.is hD e r) (Ev.name rfl) fun v s' h' g i => ⟨v, rfl, g, i⟩
    rfl
end Mine

namespace Mine
open PySem PySem.W PyProof.Rows

section
variable {w : World} {n : Nat} {env : Env} {ρ : Mine.Ctx}

/-- table[key] -/
theorem Ev.item_dict {value slice : Expr} {pos : Pos} {kvs : List (Str × Str)} {k v : Str} (hv : Ev w n env ρ value (tabD kvs)) (hi : Ev w n env ρ slice (.str k)) (hx : kvs.lookup k = some v)
    (hs : ∀ o i, subscripted slice false o i = operate [o, i] (getItem o i) := by intro _ _; with_unfolding_all rfl) : Ev w n env ρ (.Subscript value slice pos) (.str v) := by
  refine Ev.sub hv hi fun h a b W i j A s Q E R L hQ => ?_
  obtain ⟨t, rfl⟩ := j.isStr
  unfold tabD at i
  generalize hd : (kvs.map fun p => (PyData.str p.1, PyData.str p.2)) = dd at i
  cases i with
  | @dict a ep l hm hd' =>
    have hl : l.map (fun p => (p.1, p.2.1)) = kvs := by
      have := congrArg (List.map fun p : PyData × PyData => (match p.1, p.2 with | .str x, .str y => (x, y) | _, _ => (⟨#[]⟩, ⟨#[]⟩))) hd
      simp only [List.map_map] at this
      have e1 : (kvs.map ((fun p : PyData × PyData => (match p.1, p.2 with | .str x, .str y => (x, y) | _, _ => ((⟨#[]⟩ : Str), (⟨#[]⟩ : Str)))) ∘ fun p : Str × Str => (PyData.str p.1, PyData.str p.2))) = kvs := by
        conv => rhs; rw [← List.map_id kvs]
        rfl
      rw [e1] at this
      rw [this]; rfl
    have hdo : s.heap.DictOf (PySem.strKind PP w) a (l.map fun p => (p.1, Value.str p.2.1 p.2.2)) := by
      obtain ⟨o, es, ho, r⟩ := hd'
      exact ⟨o, es, ep, L.1 _ _ ho, r⟩
    have hval : ∃ tk, valueAt (l.map fun p => (p.1, Value.str p.2.1 p.2.2)) k = some (.str v tk) := by
      rw [← hl] at hx
      clear hd hm hd' hdo hl
      induction l with
      | nil => simp at hx
      | cons p r ih =>
        simp only [List.map_cons, List.lookup_cons] at hx
        unfold valueAt at ih ⊢
        simp only [List.map_cons, List.find?_cons]
        split at hx
        · rename_i hk
          have hk := beq_iff_eq.mp hk
          cases hx
          exact ⟨p.2.2, by simp [hk]⟩
        · rename_i hk
          have hk : p.1 ≠ k := fun e => by subst e; simp at hk
          obtain ⟨tk, h2⟩ := ih hx
          exact ⟨tk, by simpa [hk] using h2⟩
    obtain ⟨tk, hval⟩ := hval
    exact tail_any hdo.typeIs slot_dict_getitem.lookup (wpAny_getItem_of (knd := PySem.strKind PP w) (k := k) (by simp [PySem.strKind, Value.isStrOf]) hdo.mapOf hval (hQ _ _ h (Grow.toks L) (.str _ _))) (hs _ _)

theorem src_range {h : Heap} {r : Addr} {k : Nat} {t u v : Tok} (hr : IsRange h r 0 (k : Int) 1 t u v) (hk : k ≤ 1000000) : Src w h (.ref r) ((List.range k).map fun i => .int (i : Nat)) := by
  intro A s Q E R L hQ
  have hsz : Builtin.Range.rangeSize 0 (k : Int) 1 = (k : Int) := by rw [rangeSize_one]; split <;> omega
  have hlen : k = ((List.range k).map fun i => PyData.int (i : Nat)).length := by simp
  have W := Walks.range (prog := PP) (w := w) R.handled s.heap.objs.size 0 1 k
  refine wpAny_pyIter_range (L.1 _ _ hr) (small_one (by omega) (by omega) (by omega) (by omega)) (hQ s.heap.objs.size [s.heap.objs.size] _ _ _ ⟨hlen ▸ W, ?_⟩ ?_ push_keeps L.2 ?_ fresh_none ?_ ?_)
  · intro i h st; exact ⟨_, _, st, rfl, by decide⟩
  · show Heap.get? _ _ = _
    rw [Heap.get?_push_size _ rfl, hsz]
    simp
  · intro b hb; simp at hb; subst hb; exact ⟨_, Heap.get?_push_size _ rfl⟩
  · intro b hb hne; simp at hb; exact absurd hb hne
  · rintro j v x ⟨t, rfl⟩ hx
    rw [List.getElem?_map] at hx
    cases hg : (List.range k)[j]? with
    | none => rw [hg] at hx; simp at hx
    | some i =>
      rw [hg] at hx
      have := List.getElem?_eq_some_iff.mp hg
      obtain ⟨hj, e⟩ := this
      simp at e
      subst e
      cases hx
      have : (0 : Int) + (j : Int) * 1 = (j : Int) := by omega
      rw [this]
      exact .int _ _

theorem EvI.range {f e : Expr} {pos : Pos} {k : Nat} (hf : Gl w n env ρ f (.type "range")) (he1 : Ev w n env ρ e (.int (k : Nat))) (hk : k ≤ 1000000)
    (he : eval (.Call f [e] [] pos) env = (do callWith pos (← eval f env) [] (backTo pos (starEach [e] env)) (backToKw pos (keywordEach [] env))) := by rfl)
    (hst : starEach [e] env = [(false, eval e env)] := by rfl) : EvI w n env ρ (.Call f [e] [] pos) ((List.range k).map fun i => .int (i : Nat)) := by
  intro h F
  refine Ev.typeCall hf (Evs.cons he1 Evs.nil hst) (fun h vs W i A s Q E R L hQ => ?_) he hst rfl F
  obtain ⟨v, rfl, a⟩ := i.one
  obtain ⟨t, rfl⟩ := a.isInt
  refine call_range_1 (hQ _ _ _ (Grow.vis (s' := { s with heap := s.heap.push { cls := .type "range", data := .fields #[.int 0 s.toks, .int k t, .int 1 (s.toks + 1)] }, toks := s.toks + 1 + 1 }) ⟨_, _, rfl, fun b o e => Heap.get?_push_of_some _ e⟩ L (by show 1 ≤ s.toks + 1 + 1; omega)) ?_)
  exact src_range (vis_some (Heap.get?_push_size _ rfl) (.inl fresh_none)) hk
end

/-- statements that end, and leave the names ρ' -/
def Sx (w : World) (n : Nat) (s : Shared) (h : Heap) (env : Env) (ρ : Mine.Ctx) (t : Sem Flow) (ρ' : Mine.Ctx) : Prop :=
  ∀ (A : Around) (s1 : Shared) (h1 : Heap) (Q : Flow → Shared → Prop) (E : Value → Shared → Prop), Room n A → Le h s.heap → Wd w h → Grow s h s1 h1 → Own s env h1 → Fm w env ρ h1 →
    (∀ s' h', Grow s h s' h' → Own s env h' → Fm w env ρ' h' → Q .next s') → wpAny (model PP w) A t Q E s1

section
variable {w : World} {n : Nat} {env : Env} {ρ ρb : Mine.Ctx} {scope : Scope} {cl : List (Str × Addr)}

theorem Sx.assignComp {s : Shared} {h : Heap} {x : Str} {p pos lpos : Pos} {elt target iter : Expr} {ifs : List Expr} {gs : List Comprehension} {rest : List Stmt} {xs out : List PyData} {ρ' : Mine.Ctx}
    (hiter : EvI w n env ρ iter xs) (hclos : closureFor scope env = pure cl) (hkind : scope.kind = .function) (hnames : ∀ x ∈ scope.names, x.2 = .local → scope.names.lookup x.1 = some .local)
    (hcl : ∀ x c, cl.lookup x = some c → (ρb.lookup x).isSome = true ∧ env.cells.lookup x = some c) (hρb : CbOk env scope cl ρ ρb) (hloop : LoopOk w n env scope cl ρb (.ListComp elt (⟨target, iter, ifs, 0⟩ :: gs) scope lpos) xs out)
    (hk : env.kindOf x = some .local) (hfl : flatCtx ρ = true) (hfd : flats out = true)
    (hsw : swapsWith (.ListComp elt (⟨target, iter, ifs, 0⟩ :: gs) scope lpos) (some (.Name x p)) pos.line env = pure true)
    (hr : Sx w n s h env ((x, .list out) :: ρ) (execs rest env) ρ')
    (hfold : ∀ x, foldedSetIterable iter env x = pure x := by intro _; rfl) :
    Sx w n s h env ρ (execs (.Assign [.Name x p] (.ListComp elt (⟨target, iter, ifs, 0⟩ :: gs) scope lpos) pos :: rest) env) ρ' := by
  intro A s1 h1 Q E R L W g O F hQ
  refine wpAny_execs_cons ?_
  rw [exec_Assign_Name_used _ _ _ _ hsw]
  refine wpAny_bind (wpAny_standAt (wpAny_bind ?_))
  show wpAny _ A (do let _ ← comprehension (.ListComp elt (⟨target, iter, ifs, 0⟩ :: gs) scope lpos) scope env _ (newList []) false (eval iter env) (some (PySem.assign (.Name x p) env))) _ _ s1
  refine wpAny_bind (wpAny_mono (comp_core (use := some (PySem.assign (.Name x p) env)) (Q := fun _ s' => wpAny (model PP w) A (execs rest env) Q E s') rfl hiter hclos hkind hnames hcl hρb hloop hfold F R g.ok fun C D s2 ce => ?_) (fun _ s' hq => wpAny_pure (wpAny_pure hq)) fun _ _ e => e)
  show wpAny _ A (PySem.assign (.Name x p) env (.ref D)) _ _ s2
  obtain ⟨g2, i2⟩ := ce.value (h' := s2.heap) g.ok (.refl _ _)
  obtain ⟨mL, hnL⟩ := O.ns
  have hLs : ∃ o, s1.heap.get? env.locals = some o := by
    obtain ⟨o, es, ep, ho, _⟩ := hnL
    exact ⟨o, g.sub _ _ ho⟩
  have hCL : C ≠ env.locals := fun q => by
    obtain ⟨o, ho⟩ := hLs
    have := ce.c
    rw [q, ho] at this; cases this
  obtain ⟨mC, hnC⟩ := ce.ns
  refine wpAny_assign_Name (store_local L W (g.trans g2) (O.le g2.le) (F.le g2.le) i2 hfl (by simpa [flat] using hfd) hk fun s3 h3 g3 O3 F3 kb _ _ => ?_)
  have hn3 : s3.heap.Ns C mC := hnC.at' fun o e => kb C o hCL e
  refine ⟨mC, hn3, fun h4 sb => ?_⟩
  have hCs : s.heap.get? C = none := by
    cases e : s.heap.get? C with
    | none => rfl
    | some o => have := Keeps.le g.keeps _ _ e; rw [ce.c] at this; cases this
  have hCh : h.get? C = none := by
    cases e : h.get? C with
    | none => rfl
    | some o => have := L _ _ e; rw [hCs] at this; cases this
  have hdat : ∀ o, h3.get? C = some o → ∀ vs n, o.data ≠ .seq vs n := fun o e => ns_data hn3 o (g3.sub _ _ e)
  have g4 : Grow s h { s3 with heap := h4 } (h3.hide C) := by
    refine ⟨?_, g3.pos, fun b o e => ?_, fun b o e => ?_, fun b o e q => ?_⟩
    · obtain ⟨H, tk, rfl, hk'⟩ := g3.keeps
      exact ⟨h4, tk, rfl, fun b o e => (sb.2 b (by rintro rfl; rw [hCs] at e; cases e)).trans (hk' _ _ e)⟩
    · rw [Heap.hide_ne _ (by rintro rfl; rw [hCh] at e; cases e)]; exact g3.le _ _ e
    · have hb : b ≠ C := by rintro rfl; rw [Heap.hide_self] at e; cases e
      exact (sb.2 b hb).trans (g3.sub _ _ (Heap.of_hide e))
    · cases e2 : (h3.hide C).get? b with
      | none => rfl
      | some o2 => have := Heap.of_hide e2; rw [g3.hid b o e q] at this; cases this
  have hcell : ∀ c u, h3.IsCell c u → (h3.hide C).IsCell c u := fun c u y => by
    obtain ⟨oc, hoc, hdc⟩ := id y
    refine ⟨oc, ?_, hdc⟩
    rw [Heap.hide_ne _ (fun q => ?_)]; exact hoc
    subst q
    exact cell_ne_ns (y.keeps g3.sub) hn3 rfl
  have hnsL : ∀ m, h3.Ns env.locals m → (h3.hide C).Ns env.locals m := fun m y => by
    obtain ⟨o, es, ep, ho, r⟩ := y
    exact ⟨o, es, ep, by rw [Heap.hide_ne _ (Ne.symm hCL)]; exact ho, r⟩
  have hfl' : flatCtx ((x, PyData.list out) :: ρ) = true := by simp [flatCtx, flat, hfd]; simpa [flatCtx] using hfl
  refine hr A _ (h3.hide C) Q E R L W g4 ⟨O3.fresh, let ⟨m, y⟩ := O3.ns; ⟨m, hnsL m y⟩, fun y c e => let ⟨a, v, b⟩ := O3.cell y c e; ⟨a, v, hcell c v b⟩, O3.apart⟩ ⟨W.le g4.le, F3.kind, F3.glob, F3.blt, fun y d' e => ?_⟩ hQ
  rcases F3.nm y d' e with ⟨k, m', v', a, b, c⟩ | ⟨k, q, c, v', a, b, c'⟩
  · exact .inl ⟨k, m', v', hnsL m' a, b, c.hide hdat (flat_of hfl' e)⟩
  · exact .inr ⟨k, q, c, v', a, hcell c _ b, c'.hide hdat (flat_of hfl' e)⟩
theorem Sx.nil {s : Shared} {h : Heap} : Sx w n s h env ρ (execs [] env) ρ := fun _ s1 h1 _ _ _ _ _ g O F hQ => wpAny_execs_nil (hQ s1 h1 g O F)
theorem Sx.weak {s : Shared} {h : Heap} {ρ' ρ'' : Mine.Ctx} {t : Sem Flow} (hw : ∀ x e, ρ''.lookup x = some e → ρ'.lookup x = some e) (hr : Sx w n s h env ρ t ρ') : Sx w n s h env ρ t ρ'' :=
  fun A s1 h1 Q E R L W g O F hQ => hr A s1 h1 Q E R L W g O F fun s' h' g' O' F' => hQ s' h' g' O' ⟨F'.wd, F'.kind, F'.glob, F'.blt, fun x e q => F'.nm x e (hw x e q)⟩

def LC (env : Env) : Addr → Prop := fun b => b = env.locals ∨ ∃ x, env.cells.lookup x = some b

theorem Bx.forRange {s : Shared} {h : Heap} {x : Str} {px pos ipos : Pos} {f e : Expr} {body rest : List Stmt} {d : PyData} (k : Nat) (ρσ : Nat → Mine.Ctx) (hρ : ∀ y e, (ρσ 0).lookup y = some e → ρ.lookup y = some e) (hfl : ∀ i, flatCtx (ρσ i) = true)
    (hf : Gl w n env ρ f (.type "range")) (he1 : Ev w n env ρ e (.int (k : Nat))) (hk1 : k ≤ 1000000) (hk : env.kindOf x = some .local)
    (hbody : ∀ (s' : Shared) (h' : Heap) (i : Nat), i < k → Sx w n s' h' env ((x, .int (i : Nat)) :: ρσ i) (execs body env) (ρσ (i + 1)))
    (hr : Bx w n s h env (ρσ k) (execs rest env) d)
    (he : eval (.Call f [e] [] ipos) env = (do callWith ipos (← eval f env) [] (backTo ipos (starEach [e] env)) (backToKw ipos (keywordEach [] env))) := by rfl)
    (hst : starEach [e] env = [(false, eval e env)] := by rfl) (hfold : ∀ v, foldedSetIterable (.Call f [e] [] ipos) env v = pure v := by intro _; rfl) :
    Bx w n s h env ρ (execs (.For (.Name x px) (.Call f [e] [] ipos) body [] pos :: rest) env) d := by
  intro A s1 h1 Q E R L W g O F hQ
  have hrun : Run w n h1 (eval (.Call f [e] [] ipos) env) (fun h v => ∃ r t u v', v = .ref r ∧ IsRange h r 0 (k : Nat) 1 t u v') := by
    refine Ev.typeCall hf (Evs.cons he1 Evs.nil hst) (fun h vs W i A s Q E R L hQ => ?_) he hst rfl F
    obtain ⟨v, rfl, a⟩ := i.one
    obtain ⟨t, rfl⟩ := a.isInt
    refine call_range_1 (hQ _ _ _ (Grow.vis (s' := { s with heap := s.heap.push { cls := .type "range", data := .fields #[.int 0 s.toks, .int k t, .int 1 (s.toks + 1)] }, toks := s.toks + 1 + 1 }) ⟨_, _, rfl, fun b o e => Heap.get?_push_of_some _ e⟩ L (by show 1 ≤ s.toks + 1 + 1; omega)) ?_)
    exact ⟨_, _, _, _, rfl, vis_some (Heap.get?_push_size _ rfl) (.inl fresh_none)⟩
  refine wpAny_execs_cons (wpAny_For (hrun A s1 _ E R g.ok fun xv s2 h2 g2 i2 => ?_) hfold)
  obtain ⟨r, t, u, v', rfl, hrg⟩ := i2
  have g12 := g.trans g2
  have O2 := O.le g2.le
  have F2 := F.le g2.le
  have nLC : ∀ b, LC env b → ∀ o, h2.get? b = some o → ∀ fs, o.data ≠ .fields fs := by
    intro b q o ho fs hd
    rcases q with q | ⟨y, q⟩
    · obtain ⟨m, o', es, ep, ho', hd', _⟩ := O2.ns
      subst q; rw [ho] at ho'; cases ho'; rw [hd] at hd'; cases hd'
    · obtain ⟨_, v, o', ho', hd'⟩ := O2.cell y b q
      rw [ho] at ho'; cases ho'; rw [hd] at hd'; cases hd'
  have src := src_range (w := w) (h := cut (LC env) h2) (cut_some hrg fun q => nLC r q _ hrg _ rfl) hk1
  refine src A s2 _ E (R.mono (Nat.zero_le _)) ⟨cut_sub.trans g2.sub, g2.pos⟩ fun I fp P St s3 it st k3 p3 hfp hI hfpb hPi => ?_
  have occ : ∀ b, LC env b → ∃ o, s2.heap.get? b = some o := by
    rintro b (q | ⟨y, q⟩)
    · obtain ⟨m, o, es, ep, ho, _⟩ := O2.ns
      subst q; exact ⟨o, g2.sub _ _ ho⟩
    · obtain ⟨_, v, o, ho, _⟩ := O2.cell y b q
      exact ⟨o, g2.sub _ _ ho⟩
  have hIL : ¬ LC env I := fun q => by obtain ⟨o, ho⟩ := occ I q; rw [hI] at ho; cases ho
  have hLD : ∀ b ∈ fp, ¬ LC env b := fun b hb q => by
    by_cases hbI : b = I
    · subst hbI; exact hIL q
    · obtain ⟨o, ho⟩ := hfpb b hb hbI
      exact (cut_of ho).1 q
  have hIh : h2.get? I = none := by
    cases e : h2.get? I with
    | none => rfl
    | some o => have := g2.sub _ _ e; rw [hI] at this; cases this
  have hIs : s.heap.get? I = none := by
    cases e : s.heap.get? I with
    | none => rfl
    | some o => have := Keeps.le g12.keeps _ _ e; rw [hI] at this; cases this
  have hLo : ∀ b, LC env b → s.heap.get? b = none := by
    rintro b (q | ⟨y, q⟩)
    · subst q; exact O2.fresh
    · exact (O2.cell y b q).1
  have hnot : ∀ b o, s.heap.get? b = some o → ¬ LC env b := fun b o e q => by rw [hLo b q] at e; cases e
  have g3 : Grow s h s3 h2 := ⟨Keeps.trans g12.keeps k3, p3, g12.le, g12.sub.trans (Keeps.le k3), g12.hid⟩
  have F3 : Fm w env (ρσ 0) h2 := ⟨F2.wd, F2.kind, F2.glob, F2.blt, fun y e q => F2.nm y e (hρ y e q)⟩
  have turned : ∀ (s1 s2 : Shared) (h1 : Heap), Grow s h s1 h1 → h1.get? I = none → KB (fun b => b = I) s1 s2 → 1 ≤ s2.toks → Grow s h s2 h1 := by
    intro s1 s2 h1 g hI1 k hp
    refine ⟨?_, hp, g.le, fun b o e => k.at (fun q => by rw [q, hI1] at e; cases e) (g.sub _ _ e), g.hid⟩
    obtain ⟨H, t, rfl, hk⟩ := g.keeps
    obtain ⟨H2, t2, rfl, hk2⟩ := k
    exact ⟨H2, t2, rfl, fun b o e => hk2 b o (fun q => by rw [q, hIs] at e; cases e) (hk _ _ e)⟩
  have hxs : ((List.range k).map fun i => PyData.int (i : Nat)).length = k := by simp
  refine codeAny_forLoop (fun j s' => ∃ i h', i + j = k + 1 ∧ i ≤ k ∧ St i s'.heap ∧ h'.get? I = none ∧ Grow s h s' h' ∧ Own s env h' ∧ Fm w env (ρσ i) h') ?_ (k + 1) ⟨0, h2, by omega, Nat.zero_le _, st, hIh, g3, O2, F3⟩
  rintro j s4 ⟨i, h4, hik, hil, st4, hI4, g4, O4, F4⟩
  by_cases hlt : i < k
  · refine wpAny_with_toks (n := 1) g4.pos (it.walks.item i s4 _ _ (by rw [hxs]; exact hlt) st4 fun v h' tk hv st' hk' htk => ?_)
    have kk : KB (fun b => b = I) s4 { s4 with heap := h', toks := tk } := ⟨h', tk, rfl, fun b o nb e => hk' b o (by simpa using nb) e⟩
    have g5 := turned _ _ _ g4 hI4 kk htk
    have iv : Is w h4 v (.int (i : Nat)) := (hPi i v (.int (i : Nat)) hv (by rw [List.getElem?_map, List.getElem?_range hlt]; rfl)).scalar rfl
    dsimp only
    generalize hs5 : ({ s4 with heap := h', toks := tk } : Shared) = s5 at g5 kk
    have hs5h : s5.heap = h' := by rw [← hs5]
    have hst5 : St (i + 1) s5.heap := hs5h ▸ st'
    let st_ : Shared := { s5 with heap := cut (LC env) s5.heap }
    let ht_ : Heap := cut (LC env) h4
    have Lt : Le ht_ st_.heap := cut_le fun b o _ e => g5.sub _ _ e
    have lht : Le h ht_ := fun b o e => cut_some (g5.le _ _ e) (hnot b o (L _ _ e))
    have Wt : Wd w ht_ := W.le lht
    have gt : Grow st_ ht_ s5 h4 := by
      refine ⟨⟨s5.heap, s5.toks, rfl, cut_sub⟩, g5.pos, cut_sub, g5.sub, fun b o e q => ?_⟩
      obtain ⟨n1, _⟩ := cut_of e
      cases e2 : h4.get? b with
      | none => rfl
      | some o2 => have : ht_.get? b = some o2 := cut_some e2 n1; rw [q] at this; cases this
    have Ot : Own st_ env h4 := ⟨cut_none (.inl rfl), O4.ns, fun y c e => ⟨cut_none (.inr ⟨y, e⟩), (O4.cell y c e).2⟩, O4.apart⟩
    refine wpAny_assign_Name (store_local Lt Wt gt Ot F4 iv (hfl i) rfl hk fun s6 h6 g6 O6 F6 _ _ _ => ?_)
    refine hbody st_ ht_ i hlt A s6 h6 _ _ R Lt Wt g6 O6 F6 fun s7 h7 g7t O7 F7 => ?_
    have hkeep : ∀ b o, ¬ LC env b → s5.heap.get? b = some o → s7.heap.get? b = some o := fun b o nb e => Keeps.le g7t.keeps b o (cut_some e nb)
    have g7 : Grow s h s7 h7 := by
      refine ⟨?_, g7t.pos, lht.trans g7t.le, g7t.sub, fun b o e q => ?_⟩
      · obtain ⟨H7, t7, rfl, hk7⟩ := g7t.keeps
        obtain ⟨H5, t5, e5, hk5⟩ := g5.keeps
        refine ⟨H7, t7, ?_, fun b o e => hk7 b o (cut_some (by rw [e5]; exact hk5 _ _ e) (hnot b o e))⟩
        show ({ s5 with heap := H7, toks := t7 } : Shared) = _
        rw [e5]
      · have e4 := g5.hid b o e q
        have : ht_.get? b = none := by
          cases e2 : ht_.get? b with
          | none => rfl
          | some o2 => rw [(cut_of e2).2] at e4; cases e4
        exact g7t.hid b o (cut_some (Keeps.le g5.keeps _ _ e) (hnot b o e)) this
    have hI7 : h7.get? I = none := by
      obtain ⟨o, _, ho, _⟩ := it.occ _ _ hst5
      exact g7t.hid I o (cut_some ho hIL) (by
        cases e2 : ht_.get? I with
        | none => rfl
        | some o2 => rw [(cut_of e2).2] at hI4; cases hI4)
    exact ⟨j - 1, by omega, i + 1, h7, by omega, by omega, it.walks.frame _ _ _ hst5 fun b hb o e => hkeep b o (hLD b hb) e, hI7, g7, ⟨O2.fresh, O7.ns, fun y c e => ⟨(O2.cell y c e).1, (O7.cell y c e).2⟩, O7.apart⟩, F7⟩
  · have hin : i = k := by omega
    refine wpAny_with_toks (n := 1) g4.pos (it.walks.done s4 _ _ (by rw [hxs, ← hin]; exact st4) fun h' tk hk' htk => ?_)
    have kk : KB (fun b => b = I) s4 { s4 with heap := h', toks := tk } := ⟨h', tk, rfl, fun b o nb e => hk' b o (by simpa using nb) e⟩
    have g5 := turned _ _ _ g4 hI4 kk htk
    rw [hin] at F4
    exact wpAny_execs_nil (hr A _ h4 Q E R L W g5 O4 F4 hQ)
end
end Mine

namespace Mine
open PySem PySem.W PyProof.Rows

/-! ## the codes and the keys: finite facts -/
abbrev Rule := Int × List Int
def keys32 : List Int := [1, 92, 127, 129, 383, 65, 220, 28].flatMap fun m => [m + 256 * 0, m + 256 * 1, m + 256 * -1, m + 256 * 2]
def codes : List Int := menu ++ keys32

theorem bits_keys : ∀ k ∈ keys32, BitsOk k := by unfold BitsOk; decide +kernel
theorem code_menu : ∀ c ∈ menu, CodeOk c := by unfold CodeOk BitsOk; decide +kernel
theorem shown_same : ∀ a ∈ codes, ∀ b ∈ codes, (shownL a = shownL b ↔ same a = same b) := by decide +kernel
theorem key_free : ∀ k ∈ keys32, 61 ∉ shownL k ∧ 34 ∉ shownL k ∧ 44 ∉ shownL k := by decide +kernel
theorem key_head : ∀ k ∈ keys32, (shownL k).head?.any (fun a => !Unicode.isSpace a) = true := by decide +kernel

def numberV : List Nat → Option Int
  | [a] => some a
  | [94, c] => some (if c = 63 then 127 else if c = 159 then 383 else Builtin.bitAnd c 31)
  | [33, a] => some (Builtin.bitOr a 128)
  | [33, 94, c] => some (Builtin.bitOr (if c = 63 then 127 else if c = 159 then 383 else Builtin.bitAnd c 31) 128)
  | _ => none
theorem number_codes : ∀ c ∈ codes, numberV (shownL c) = some (same c) := by decide +kernel

section
variable {w : World}
theorem number_hat' (c : Nat) : Fn w 3 87 [.str (S [94, c])] (.int (if c = 63 then 127 else if c = 159 then 383 else Builtin.bitAnd c 31)) := by
  refine number_hat ?_
  by_cases h1 : c = 63
  · exact .inl ⟨h1, by rw [if_pos h1]⟩
  · by_cases h2 : c = 159
    · exact .inr (.inl ⟨h2, by rw [if_neg h1, if_pos h2]⟩)
    · exact .inr (.inr ⟨⟨h1, h2⟩, by rw [if_neg h1, if_neg h2]⟩)
theorem fn_numberV {l : List Nat} {r : Int} (h : numberV l = some r) : Fn w 4 87 [.str (S l)] (.int r) := by
  unfold numberV at h
  split at h
  · cases h; exact number_one.mono (by decide)
  · cases h; exact (number_hat' _).mono (by decide)
  · cases h; exact (number_bang (m := [_]) (k := 2) (by simp) (by simp) (by decide) (number_one.mono (by decide))).mono (by decide)
  · cases h; exact number_bang (m := [94, _]) (k := 3) (by simp) (by simp) (by decide) (number_hat' _)
  · cases h
theorem fn_number {c : Int} (h : c ∈ codes) : Fn w 4 87 [.str (shown c)] (.int (same c)) := by
  rw [shown_S]; exact fn_numberV (number_codes c h)
end

/-! ## the rules -/
def RuleOk (q : Rule) : Prop := q.1 ∈ keys32 ∧ q.2.length ≤ 2 ∧ ∀ c ∈ q.2, c ∈ menu
theorem menuAt_mem (n m : Int) (hm : 0 < m) (h12 : m ≤ 12) : menuAt n m ∈ menu := by
  obtain ⟨q1, q2⟩ := fmod_b n hm
  unfold menuAt
  have hl : (n.fmod m).toNat < menu.length := by show _ < 12; omega
  rw [List.getD_eq_getElem?_getD, List.getElem?_eq_getElem hl]
  exact List.getElem_mem hl
theorem menuAt_8 (n : Int) : menuAt n 8 ∈ menu.take 8 := by
  obtain ⟨q1, q2⟩ := fmod_b n (b := 8) (by decide)
  unfold menuAt
  have hl : (n.fmod 8).toNat < menu.length := by show _ < 12; omega
  rw [List.getD_eq_getElem?_getD, List.getElem?_eq_getElem hl]
  rw [List.mem_take_iff_getElem]
  exact ⟨(n.fmod 8).toNat, by show _ < min 8 12; omega, rfl⟩
theorem four_mem (i : Nat) : ([0, 1, -1, 2] : List Int).getD i 0 ∈ ([0, 1, -1, 2] : List Int) := by
  rcases Nat.lt_or_ge i 4 with h | h
  · rw [List.getD_eq_getElem?_getD, List.getElem?_eq_getElem (by exact h)]
    exact List.getElem_mem _
  · rw [List.getD_eq_getElem?_getD, List.getElem?_eq_none (by exact h)]; decide
theorem key_sum : ∀ a ∈ menu.take 8, ∀ b ∈ ([0, 1, -1, 2] : List Int), a + 256 * b ∈ keys32 := by decide +kernel
theorem ruleOk_of (n : Int) : RuleOk (keyOf n, macroOf n) := by
  refine ⟨key_sum _ (menuAt_8 n) _ (four_mem _), ?_, ?_⟩
  · unfold macroOf; exact Nat.le_trans (List.length_take_le' _ _) (by simp)
  · intro c hc
    unfold macroOf at hc
    have := List.mem_of_mem_take hc
    simp only [List.mem_cons, List.not_mem_nil, or_false] at this
    rcases this with rfl | rfl <;> exact menuAt_mem _ _ (by decide) (by decide)
def rulesOf (script : List Int) : List Rule := [(1, [92, 34]), (92, [127, 1])] ++ (script.take 6).map fun x => (keyOf (x.fmod 1000000), macroOf (x.fmod 1000000))
theorem rules_ok (script : List Int) : ∀ q ∈ rulesOf script, RuleOk q := by
  intro q hq
  unfold rulesOf at hq
  simp only [List.mem_append, List.mem_cons, List.not_mem_nil, or_false, List.mem_map] at hq
  rcases hq with (rfl | rfl) | ⟨x, _, rfl⟩
  · exact ⟨by decide +kernel, by decide, by decide +kernel⟩
  · exact ⟨by decide +kernel, by decide, by decide +kernel⟩
  · exact ruleOk_of _
theorem rules_len (script : List Int) : (rulesOf script).length ≤ 8 ∧ 2 ≤ (rulesOf script).length := by
  unfold rulesOf
  have := List.length_take_le 6 script
  simp only [List.length_append, List.length_map, List.length_cons, List.length_nil]
  omega
theorem ruleOk_key {q : Rule} (h : RuleOk q) : q.1 ∈ codes := List.mem_append_right _ h.1
theorem menu_codes {c : Int} (h : c ∈ menu) : c ∈ codes := List.mem_append_left _ h
end Mine

namespace Mine
open PySem PySem.W PyProof.Rows

/-! ## the automaton of parse_http_list -/
theorem HS.res_grow (σ : HS) (c : Nat) : ∃ r, (σ.step c).res = σ.res ++ r := by
  unfold HS.step
  repeat' split
  all_goals first | exact ⟨[], (List.append_nil _).symm⟩ | exact ⟨_, rfl⟩
theorem HS.fold_res : ∀ (l : List Nat) (σ : HS), ∃ r, (l.foldl HS.step σ).res = σ.res ++ r
  | [], σ => ⟨[], by simp⟩
  | c :: l, σ => by
    obtain ⟨r1, h1⟩ := HS.res_grow σ c
    obtain ⟨r2, h2⟩ := HS.fold_res l (σ.step c)
    exact ⟨r1 ++ r2, by rw [List.foldl_cons, h2, h1, List.append_assoc]⟩
def HS.lift (R : List (List Nat)) (P : List Nat) (σ : HS) : HS := ⟨R, P ++ σ.part, σ.esc, σ.quo⟩
theorem HS.lift_step (R : List (List Nat)) (P : List Nat) (σ : HS) (c : Nat) (h : (σ.step c).res = σ.res) : (σ.lift R P).step c = (σ.step c).lift R P := by
  obtain ⟨res, part, e, q⟩ := σ
  cases e
  · cases q
    · by_cases h1 : c = 44
      · subst h1; simp [HS.step] at h
      · by_cases h2 : c = 34
        · subst h2; simp [HS.step, HS.lift]
        · simp [HS.step, HS.lift, h1, h2]
    · by_cases h1 : c = 92
      · subst h1; simp [HS.step, HS.lift]
      · by_cases h2 : c = 34
        · subst h2; simp [HS.step, HS.lift]
        · simp [HS.step, HS.lift, h1, h2]
  · simp [HS.step, HS.lift]
theorem HS.lift_fold (R : List (List Nat)) (P : List Nat) : ∀ (l : List Nat) (σ : HS), (l.foldl HS.step σ).res = σ.res → l.foldl HS.step (σ.lift R P) = (l.foldl HS.step σ).lift R P
  | [], _, _ => rfl
  | c :: l, σ, h => by
    obtain ⟨r1, h1⟩ := HS.res_grow σ c
    obtain ⟨r2, h2⟩ := HS.fold_res l (σ.step c)
    rw [List.foldl_cons] at h
    have e : r1 = [] ∧ r2 = [] := by
      rw [h2, h1, List.append_assoc] at h
      simpa using h
    have hs : (σ.step c).res = σ.res := by rw [h1, e.1, List.append_nil]
    rw [List.foldl_cons, List.foldl_cons, HS.lift_step R P σ c hs]
    exact HS.lift_fold R P l (σ.step c) (by rw [h2, e.2, List.append_nil])
/-- a text that ends outside quotes, with no comma of its own -/
def Whole (l m : List Nat) : Prop := l.foldl HS.step .init = ⟨[], m, false, false⟩
theorem Whole.run {l m : List Nat} (h : Whole l m) (R : List (List Nat)) (P : List Nat) : l.foldl HS.step ⟨R, P, false, false⟩ = ⟨R, P ++ m, false, false⟩ := by
  have := HS.lift_fold R P l .init (by rw [h]; rfl)
  rw [h] at this
  have e : HS.init.lift R P = ⟨R, P, false, false⟩ := by simp [HS.lift, HS.init]
  rw [e] at this
  exact this
theorem Whole.append {l m l' m' : List Nat} (h : Whole l m) (h' : Whole l' m') : Whole (l ++ l') (m ++ m') := by
  unfold Whole
  rw [List.foldl_append, h]
  exact h'.run [] m
theorem Whole.plain : ∀ {l : List Nat}, 34 ∉ l → 44 ∉ l → Whole l l := by
  intro l h1 h2
  have : ∀ (l : List Nat) (P : List Nat), 34 ∉ l → 44 ∉ l → l.foldl HS.step ⟨[], P, false, false⟩ = ⟨[], P ++ l, false, false⟩ := by
    intro l
    induction l with
    | nil => intro P _ _; simp
    | cons a l ih =>
      intro P h1 h2
      simp only [List.mem_cons, not_or] at h1 h2
      rw [List.foldl_cons]
      have : HS.step ⟨[], P, false, false⟩ a = ⟨[], P ++ [a], false, false⟩ := by
        unfold HS.step
        simp [Ne.symm h1.1, Ne.symm h2.1]
      rw [this, ih _ h1.2 h2.2, List.append_assoc]; rfl
  simpa [Whole, HS.init] using this l [] h1 h2

/-- the texts, commas and blanks between -/
theorem fold_join (R : List (List Nat)) (P : List Nat) : ∀ (ls : List (List Nat × List Nat)) (l m : List Nat), (∀ p ∈ ls, Whole p.1 p.2) → Whole l m →
    ((joinL [44, 32] (l :: ls.map (·.1))).foldl HS.step ⟨R, P, false, false⟩).out = if (P ++ m).isEmpty ∧ ls = [] then R else R ++ (P ++ m) :: ls.map fun p => 32 :: p.2
  | [], l, m, _, h => by
    show (l.foldl HS.step _).out = _
    rw [h.run]
    unfold HS.out
    simp
  | p :: ls, l, m, hs, h => by
    have e : joinL [44, 32] (l :: (p :: ls).map (·.1)) = l ++ ([44, 32] ++ joinL [44, 32] (p.1 :: ls.map (·.1))) := by
      show l ++ [44, 32] ++ _ = _
      rw [List.append_assoc]; rfl
    rw [e, List.foldl_append, h.run, List.foldl_append]
    have e2 : [44, 32].foldl HS.step ⟨R, P ++ m, false, false⟩ = ⟨R ++ [P ++ m], [32], false, false⟩ := rfl
    rw [e2, fold_join (R ++ [P ++ m]) [32] ls p.1 p.2 (fun q hq => hs q (List.mem_cons_of_mem _ hq)) (hs p List.mem_cons_self)]
    rw [if_neg (by simp), if_neg (by simp)]
    simp
theorem http_join (ls : List (List Nat × List Nat)) (l m : List Nat) (hs : ∀ p ∈ ls, Whole p.1 p.2) (h : Whole l m) (hm : m ≠ []) : httpL (joinL [44, 32] (l :: ls.map (·.1))) = m :: ls.map fun p => 32 :: p.2 := by
  have := fold_join [] [] ls l m hs h
  unfold httpL
  rw [show HS.init = ⟨[], [], false, false⟩ from rfl, this, if_neg (by simp [hm])]
  simp

/-- no blank at its ends -/
def Tidy (m : List Nat) : Bool := match m.head?, m.getLast? with | some a, some b => !Unicode.isSpace a && !Unicode.isSpace b | _, _ => false
theorem Tidy.ends {m : List Nat} (h : Tidy m = true) : ∃ hne : m ≠ [], Unicode.isSpace (m.head hne) = false ∧ Unicode.isSpace (m.getLast hne) = false := by
  cases m with
  | nil => simp [Tidy] at h
  | cons a r =>
    refine ⟨by simp, ?_⟩
    unfold Tidy at h
    rw [List.head?_cons, List.getLast?_eq_some_getLast (by simp)] at h
    simpa using h
theorem Tidy.strip {m : List Nat} (h : Tidy m = true) : Txt.strip (S m) = S m ∧ Txt.strip (S (32 :: m)) = S m := by
  obtain ⟨hne, h1, h2⟩ := Tidy.ends h
  exact ⟨strip_none hne h1 h2, strip_sp hne h1 h2⟩
theorem http_strip (ps : List (List Nat × List Nat)) (hne : ps ≠ []) (hs : ∀ p ∈ ps, Whole p.1 p.2 ∧ Tidy p.2 = true) : (httpL (joinL [44, 32] (ps.map (·.1)))).map (fun p => Txt.strip (S p)) = ps.map fun p => S p.2 := by
  cases ps with
  | nil => exact absurd rfl hne
  | cons p ls =>
    rw [List.map_cons, http_join ls p.1 p.2 (fun q hq => (hs q (List.mem_cons_of_mem _ hq)).1) (hs p List.mem_cons_self).1 (by obtain ⟨hn, _⟩ := Tidy.ends (hs p List.mem_cons_self).2; exact hn)]
    rw [List.map_cons, List.map_cons, (Tidy.strip (hs p List.mem_cons_self).2).1, List.map_map]
    congr 1
    apply List.map_congr_left
    intro q hq
    exact (Tidy.strip (hs q (List.mem_cons_of_mem _ hq)).2).2

/-! ## quoting -/
theorem quoted_whole : ∀ l : List Nat, Whole (quotedL l) (34 :: l ++ [34]) := by
  have key : ∀ (l : List Nat) (P : List Nat), (esc l).foldl HS.step ⟨[], P, false, true⟩ = ⟨[], P ++ l, false, true⟩ := by
    intro l
    induction l with
    | nil => intro P; simp [esc, sub1]
    | cons a l ih =>
      intro P
      have e : esc (a :: l) = (if a = 92 then [92, 92] else if a = 34 then [92, 34] else [a]) ++ esc l := by
        unfold esc
        have : sub1 92 [92, 92] (a :: l) = (if a = 92 then [92, 92] else [a]) ++ sub1 92 [92, 92] l := rfl
        rw [this, sub1_append]
        congr 1
        by_cases h1 : a = 92
        · subst h1; rfl
        · rw [if_neg h1, if_neg h1]
          show (if a = 34 then [92, 34] else [a]) ++ [] = _
          rw [List.append_nil]
      rw [e, List.foldl_append]
      have : (if a = 92 then [92, 92] else if a = 34 then [92, 34] else [a]).foldl HS.step ⟨[], P, false, true⟩ = ⟨[], P ++ [a], false, true⟩ := by
        by_cases h1 : a = 92
        · subst h1; rfl
        · rw [if_neg h1]
          by_cases h2 : a = 34
          · subst h2; rfl
          · rw [if_neg h2]
            simp [HS.step, h1, h2]
      rw [this, ih, List.append_assoc]; rfl
  intro l
  unfold Whole quotedL
  rw [List.foldl_append, List.foldl_append]
  have e1 : [34].foldl HS.step .init = ⟨[], [34], false, true⟩ := rfl
  rw [e1, key]
  rfl
theorem quoted_tidy (l : List Nat) : Tidy (34 :: l ++ [34]) = true := by
  unfold Tidy
  rw [List.getLast?_append]
  simp
  decide +kernel

/-! ## the header -/
def bareL (k : Int) : List Nat := (noKeys k).drop 1
def valL (q : Rule) : List Nat := if q.2.isEmpty then bareL q.1 else 34 :: innerL q.2 ++ [34]
def entL (q : Rule) : List Nat × List Nat := (shownL q.1, valL q)
def vv (q : Rule) : List Nat := if q.2.isEmpty then bareL q.1 else innerL q.2
def hdr (rules : List Rule) : List Nat := joinL [44, 32] (rules.map fun q => writtenL q.1 q.2)
theorem noKeys_bare (k : Int) : noKeys k = 61 :: bareL k := by unfold bareL noKeys; split <;> rfl
theorem bare_whole (k : Int) : Whole (bareL k) (bareL k) := by
  unfold bareL noKeys Whole
  split <;> rfl
theorem written_whole {q : Rule} (h : RuleOk q) : Whole (writtenL q.1 q.2) (shownL q.1 ++ 61 :: valL q) := by
  obtain ⟨h1, h2, h3⟩ := key_free q.1 h.1
  have w1 := Whole.plain h2 h3
  have w2 : Whole [61] [61] := rfl
  unfold writtenL valL
  by_cases he : q.2.isEmpty
  · rw [if_pos he, if_pos he, noKeys_bare]
    exact w1.append (w2.append (bare_whole q.1))
  · rw [if_neg he, if_neg he, List.append_assoc]
    exact w1.append (w2.append (quoted_whole (innerL q.2)))
theorem tidy_end {a b : List Nat} (ha : a.head?.any (fun c => !Unicode.isSpace c) = true) (hb : b.getLast?.any (fun c => !Unicode.isSpace c) = true) : Tidy (a ++ b) = true := by
  unfold Tidy
  cases a with
  | nil => simp at ha
  | cons x r =>
    cases hl : b.getLast? with
    | none => rw [hl] at hb; simp at hb
    | some y =>
      rw [hl] at hb
      rw [List.getLast?_append, hl]
      simp at ha hb ⊢
      exact ⟨ha, hb⟩
theorem val_last (q : Rule) : (61 :: valL q).getLast?.any (fun c => !Unicode.isSpace c) = true := by
  unfold valL
  split
  · unfold bareL noKeys
    split <;> decide +kernel
  · have e : (61 :: (34 :: innerL q.2 ++ [34])) = (61 :: 34 :: innerL q.2) ++ [34] := rfl
    rw [e, List.getLast?_append]
    simp
    decide +kernel
theorem written_tidy {q : Rule} (h : RuleOk q) : Tidy (shownL q.1 ++ 61 :: valL q) = true := tidy_end (key_head q.1 h.1) (val_last q)

theorem header_items {rules : List Rule} (hne : rules ≠ []) (hok : ∀ q ∈ rules, RuleOk q) : (httpL (hdr rules)).map (fun p => PyData.str (Txt.strip (S p))) = (rules.map entL).map elt := by
  have := http_strip (rules.map fun q => (writtenL q.1 q.2, shownL q.1 ++ 61 :: valL q)) (by simpa using hne) (by
    intro p hp
    obtain ⟨q, hq, rfl⟩ := List.mem_map.mp hp
    exact ⟨written_whole (hok q hq), written_tidy (hok q hq)⟩)
  rw [List.map_map, List.map_map] at this
  have e : hdr rules = joinL [44, 32] (rules.map ((fun x : List Nat × List Nat => x.1) ∘ fun q => (writtenL q.1 q.2, shownL q.1 ++ 61 :: valL q))) := rfl
  rw [e]
  have h2 := congrArg (List.map PyData.str) this
  rw [List.map_map, List.map_map] at h2
  rw [List.map_map]
  exact h2

/-! ## the words of a value -/
def bares : List Str := [Str.ofString "\"no\" keys", Str.ofString "no \"keys\""]
theorem bare_in (k : Int) : S (bareL k) ∈ bares := by
  unfold bareL noKeys
  split <;> decide +kernel
theorem vv_items (q : Rule) : (httpL (vv q)).map (fun p => Txt.strip (S p)) = if q.2.isEmpty then [S (bareL q.1)] else q.2.map fun c => S (34 :: shownL c ++ [34]) := by
  unfold vv
  by_cases he : q.2.isEmpty
  · rw [if_pos he, if_pos he]
    unfold bareL noKeys
    split <;> decide +kernel
  · rw [if_neg he, if_neg he]
    have := http_strip (q.2.map fun c => (quotedL (shownL c), 34 :: shownL c ++ [34])) (by simpa using he) (by
      intro p hp
      obtain ⟨c, hc, rfl⟩ := List.mem_map.mp hp
      exact ⟨quoted_whole _, quoted_tidy _⟩)
    rw [List.map_map, List.map_map] at this
    exact this
theorem quoted_not_bare (c : Int) : S (34 :: shownL c ++ [34]) ∉ bares := by
  intro h
  have hl := shownL_len c
  have : ∀ x ∈ bares, x.length = 9 := by decide +kernel
  have := this _ h
  rw [S_len] at this
  simp at this
  omega
theorem unq_val (q : Rule) : unq (valL q) = vv q := by
  unfold valL vv
  by_cases he : q.2.isEmpty
  · rw [if_pos he, if_pos he]
    unfold bareL noKeys
    split <;> decide +kernel
  · rw [if_neg he, if_neg he]
    unfold unq
    rw [if_pos]
    · simp
    · refine ⟨rfl, ?_⟩
      rw [List.getLast?_append]; simp
end Mine

namespace Mine
open PySem PySem.W PyProof.Rows

theorem snoc_ind {α : Type} {P : List α → Prop} (h0 : P []) (hs : ∀ l a, P l → P (l ++ [a])) (l : List α) : P l := by
  have : ∀ r : List α, P r.reverse := by
    intro r
    induction r with
    | nil => exact h0
    | cons a r ih => rw [List.reverse_cons]; exact hs _ _ ih
  simpa using this l.reverse

/-! ## the table: each key's last rule, in the order of first coming -/
def insR (t : List Rule) (q : Rule) : List Rule := if t.any (fun p => decide (same p.1 = same q.1)) then t.map (fun p => if same p.1 = same q.1 then q else p) else t ++ [q]
def dictR (rules : List Rule) : List Rule := rules.foldl insR []
theorem insR_mem {t : List Rule} {q p : Rule} (h : p ∈ insR t q) : p ∈ t ∨ p = q := by
  unfold insR at h
  split at h
  · obtain ⟨x, hx, e⟩ := List.mem_map.mp h
    split at e
    · exact .inr e.symm
    · exact .inl (e ▸ hx)
  · rcases List.mem_append.mp h with h | h
    · exact .inl h
    · exact .inr (List.mem_singleton.mp h)
theorem dictR_mem (rules : List Rule) : ∀ p ∈ dictR rules, p ∈ rules := by
  have : ∀ (rules t : List Rule), ∀ p ∈ rules.foldl insR t, p ∈ t ∨ p ∈ rules := by
    intro rules
    induction rules with
    | nil => intro t p h; exact .inl h
    | cons q r ih =>
      intro t p h
      rcases ih (insR t q) p h with h | h
      · rcases insR_mem h with h | h
        · exact .inl h
        · exact .inr (h ▸ List.mem_cons_self)
      · exact .inr (List.mem_cons_of_mem _ h)
  intro p h
  rcases this rules [] p h with h | h
  · simp at h
  · exact h
def tabE (q : Rule) : Str × Str := (S (shownL q.1), S (vv q))
theorem S_shown {a b : Int} (ha : a ∈ codes) (hb : b ∈ codes) : S (shownL a) = S (shownL b) ↔ same a = same b :=
  ⟨fun h => (shown_same a ha b hb).mp (S_inj h), fun h => congrArg S ((shown_same a ha b hb).mpr h)⟩
theorem insE_tab {t : List Rule} {q : Rule} (ht : ∀ p ∈ t, p.1 ∈ codes) (hq : q.1 ∈ codes) : insE (t.map tabE) (entL q) = (insR t q).map tabE := by
  show ins (t.map tabE) (S (shownL q.1)) (S (unq (valL q))) = _
  rw [unq_val]
  unfold ins insR
  rw [List.any_map]
  have e : t.any ((fun p : Str × Str => decide (p.1 = S (shownL q.1))) ∘ tabE) = t.any (fun p => decide (same p.1 = same q.1)) := by
    rw [Bool.eq_iff_iff, List.any_eq_true, List.any_eq_true]
    constructor
    · rintro ⟨p, hp, h⟩; exact ⟨p, hp, decide_eq_true ((S_shown (ht p hp) hq).mp (of_decide_eq_true h))⟩
    · rintro ⟨p, hp, h⟩; exact ⟨p, hp, decide_eq_true ((S_shown (ht p hp) hq).mpr (of_decide_eq_true h))⟩
  rw [e]
  split
  · rw [List.map_map, List.map_map]
    apply List.map_congr_left
    intro p hp
    simp only [Function.comp]
    by_cases h : same p.1 = same q.1
    · have h' := (S_shown (ht p hp) hq).mpr h
      rw [if_pos h, if_pos (show (tabE p).1 = S (shownL q.1) from h')]
      show (S (shownL p.1), S (vv q)) = (S (shownL q.1), S (vv q))
      rw [h']
    · have h' := fun x => h ((S_shown (ht p hp) hq).mp x)
      rw [if_neg h, if_neg (show ¬ (tabE p).1 = S (shownL q.1) from h')]
  · rw [List.map_append]; rfl
theorem table_eq {rules : List Rule} (hok : ∀ q ∈ rules, RuleOk q) : (rules.map entL).foldl insE [] = (dictR rules).map tabE := by
  have : ∀ (rules t : List Rule), (∀ p ∈ t, p.1 ∈ codes) → (∀ q ∈ rules, q.1 ∈ codes) → (rules.map entL).foldl insE (t.map tabE) = (rules.foldl insR t).map tabE := by
    intro rules
    induction rules with
    | nil => intro t _ _; rfl
    | cons q r ih =>
      intro t ht hr
      rw [List.map_cons, List.foldl_cons, List.foldl_cons, insE_tab ht (hr q List.mem_cons_self)]
      refine ih (insR t q) (fun p hp => ?_) fun p hp => hr p (List.mem_cons_of_mem _ hp)
      rcases insR_mem hp with h | h
      · exact ht p h
      · rw [h]; exact hr q List.mem_cons_self
  exact this rules [] (by simp) fun q hq => ruleOk_key (hok q hq)

/-! ## what is meant -/
def sm (q : Rule) : Rule := (same q.1, q.2.map same)
def keyAt (ps : List Rule) (i : Nat) : Int := (ps.getD i (0, [])).1
def isNew (ps : List Rule) (i : Nat) : Bool := !((ps.take i).map (·.1)).any fun y => y == keyAt ps i
def namesF (ps : List Rule) : List Int := ((List.range ps.length).filter (isNew ps)).map (keyAt ps)
def meantF (ps : List Rule) : List Rule := (namesF ps).map fun n => (n, lastL (foundF ps n))

theorem keyAt_lt (ps : List Rule) (p : Rule) {i : Nat} (h : i < ps.length) : keyAt (ps ++ [p]) i = keyAt ps i := by
  unfold keyAt
  rw [List.getD_eq_getElem?_getD, List.getD_eq_getElem?_getD, List.getElem?_append_left h]
theorem keyAt_eq (ps : List Rule) (p : Rule) : keyAt (ps ++ [p]) ps.length = p.1 := by
  unfold keyAt
  rw [List.getD_eq_getElem?_getD, List.getElem?_append_right (Nat.le_refl _)]; simp
theorem namesF_snoc (ps : List Rule) (p : Rule) : namesF (ps ++ [p]) = namesF ps ++ if p.1 ∈ ps.map (·.1) then [] else [p.1] := by
  unfold namesF
  rw [List.length_append, List.length_singleton, List.range_succ, List.filter_append, List.map_append]
  congr 1
  · have e : (List.range ps.length).filter (isNew (ps ++ [p])) = (List.range ps.length).filter (isNew ps) := by
      apply List.filter_congr
      intro i hi
      have hi : i < ps.length := by simpa using hi
      unfold isNew
      rw [keyAt_lt ps p hi, List.take_append_of_le_length (Nat.le_of_lt hi)]
    rw [e]
    apply List.map_congr_left
    intro i hi
    have hi := (List.mem_filter.mp hi).1
    exact keyAt_lt ps p (by simpa using hi)
  · have hn : isNew (ps ++ [p]) ps.length = !decide (p.1 ∈ ps.map (·.1)) := by
      unfold isNew
      rw [keyAt_eq, List.take_append_of_le_length (Nat.le_refl _), List.take_length]
      congr 1
      rw [Bool.eq_iff_iff, List.any_eq_true, decide_eq_true_iff]
      constructor
      · rintro ⟨y, hy, h⟩; rw [← beq_iff_eq.mp h]; exact hy
      · intro h; exact ⟨_, h, by simp⟩
    rw [List.filter_cons, hn]
    by_cases h : p.1 ∈ ps.map (·.1)
    · rw [if_pos h]; simp [h]
    · rw [if_neg h]; simp only [h, decide_false, Bool.not_false, if_true, List.filter_nil, List.map_cons, List.map_nil, keyAt_eq]
theorem namesF_mem (ps : List Rule) : ∀ n, n ∈ namesF ps ↔ n ∈ ps.map (·.1) := by
  induction ps using snoc_ind with
  | h0 => intro n; simp [namesF]
  | hs ps p ih =>
    intro n
    rw [namesF_snoc, List.map_append, List.mem_append, List.mem_append, ih n]
    by_cases h : p.1 ∈ ps.map (·.1)
    · rw [if_pos h]
      constructor
      · rintro (h1 | h1)
        · exact .inl h1
        · simp at h1
      · rintro (h1 | h1)
        · exact .inl h1
        · left; have : n = p.1 := by simpa using h1
          rw [this]; exact h
    · rw [if_neg h]; simp
theorem namesF_nodup (ps : List Rule) : (namesF ps).Nodup := by
  induction ps using snoc_ind with
  | h0 => simp [namesF]
  | hs ps p ih =>
    rw [namesF_snoc]
    by_cases h : p.1 ∈ ps.map (·.1)
    · rw [if_pos h, List.append_nil]; exact ih
    · rw [if_neg h, List.nodup_append]
      refine ⟨ih, by simp, ?_⟩
      intro a ha b hb e
      have : b = p.1 := by simpa using hb
      rw [e, this] at ha
      exact h ((namesF_mem ps _).mp ha)
theorem foundF_snoc (ps : List Rule) (p : Rule) (n : Int) : foundF (ps ++ [p]) n = foundF ps n ++ if p.1 = n then [p.2] else [] := by
  unfold foundF
  rw [List.filter_append, List.map_append]
  congr 1
  rw [List.filter_cons]
  by_cases h : p.1 = n
  · simp [h]
  · have : (p.1 == n) = false := by simpa using h
    simp [h, this]
theorem lastL_snoc : ∀ (l : List (List Int)) (x : List Int), lastL (l ++ [x]) = x
  | [], _ => rfl
  | [a], _ => rfl
  | a :: b :: r, x => lastL_snoc (b :: r) x
theorem meant_snoc (ps : List Rule) (p : Rule) : meantF (ps ++ [p]) = (meantF ps).map (fun x => if x.1 = p.1 then p else x) ++ if p.1 ∈ ps.map (·.1) then [] else [p] := by
  unfold meantF
  rw [namesF_snoc, List.map_append, List.map_map]
  congr 1
  · apply List.map_congr_left
    intro n _
    simp only [Function.comp]
    rw [foundF_snoc]
    by_cases h : n = p.1
    · rw [if_pos h, if_pos h.symm, lastL_snoc, h]
    · rw [if_neg h, if_neg (Ne.symm h), List.append_nil]
  · by_cases h : p.1 ∈ ps.map (·.1)
    · rw [if_pos h, if_pos h]; rfl
    · rw [if_neg h, if_neg h]
      rw [List.map_cons, List.map_nil, foundF_snoc, if_pos rfl, lastL_snoc]
theorem meant_keys (ps : List Rule) : (meantF ps).map (·.1) = namesF ps := by
  unfold meantF
  rw [List.map_map]
  conv => rhs; rw [← List.map_id (namesF ps)]
  rfl
/-- the table is what is meant -/
theorem dict_meant (rules : List Rule) : (dictR rules).map sm = meantF (rules.map sm) := by
  induction rules using snoc_ind with
  | h0 => rfl
  | hs rules q ih =>
    unfold dictR at ih ⊢
    rw [List.foldl_append, List.map_append, List.map_cons, List.map_nil, meant_snoc, ← ih]
    generalize ht : rules.foldl insR [] = t at ih ⊢
    show (insR t q).map sm = _
    have hany : t.any (fun p => decide (same p.1 = same q.1)) = decide ((sm q).1 ∈ (rules.map sm).map (·.1)) := by
      rw [Bool.eq_iff_iff, List.any_eq_true, decide_eq_true_iff, ← namesF_mem, ← meant_keys, ← ih, List.map_map]
      constructor
      · rintro ⟨p, hp, h⟩; exact List.mem_map.mpr ⟨p, hp, of_decide_eq_true h⟩
      · intro h
        obtain ⟨p, hp, e⟩ := List.mem_map.mp h
        exact ⟨p, hp, decide_eq_true e⟩
    unfold insR
    rw [hany]
    by_cases h : (sm q).1 ∈ (rules.map sm).map (·.1)
    · rw [if_pos (decide_eq_true h), if_pos h, List.append_nil, List.map_map, List.map_map]
      apply List.map_congr_left
      intro p _
      simp only [Function.comp]
      by_cases h2 : same p.1 = same q.1
      · rw [if_pos h2, if_pos (show (sm p).1 = (sm q).1 from h2)]
      · rw [if_neg h2, if_neg (show ¬ (sm p).1 = (sm q).1 from h2)]
    · rw [if_neg (by simpa using h), if_neg h, List.map_append]
      congr 1
      rw [List.map_map]
      apply List.map_congr_left
      intro p hp
      simp only [Function.comp]
      rw [if_neg]
      intro e
      apply h
      rw [← namesF_mem, ← meant_keys, ← ih, List.map_map]
      exact List.mem_map.mpr ⟨p, hp, e⟩
theorem dict_nodup (rules : List Rule) : ((dictR rules).map fun q => same q.1).Nodup := by
  have e : ((dictR rules).map fun q => same q.1) = namesF (rules.map sm) := by
    rw [← meant_keys, ← dict_meant, List.map_map]; rfl
  rw [e]; exact namesF_nodup _
theorem dict_lookup {t : List Rule} (hc : ∀ p ∈ t, p.1 ∈ codes) (hn : (t.map fun q => same q.1).Nodup) : ∀ q ∈ t, (t.map tabE).lookup (S (shownL q.1)) = some (S (vv q)) := by
  induction t with
  | nil => intro q h; simp at h
  | cons p r ih =>
    intro q hq
    rw [List.map_cons, List.lookup_cons]
    rw [List.map_cons, List.nodup_cons] at hn
    have hqc := hc q hq
    have hpc := hc p List.mem_cons_self
    split
    · rename_i h
      have h := (S_shown hqc hpc).mp (beq_iff_eq.mp h)
      rcases List.mem_cons.mp hq with e | e
      · rw [e]; rfl
      · exact absurd (List.mem_map.mpr ⟨q, e, h⟩) hn.1
    · rename_i h
      rcases List.mem_cons.mp hq with e | e
      · subst e; exact absurd (rfl : S (shownL q.1) = (tabE q).1) (beq_eq_false_iff_ne.mp h)
      · exact ih (fun x hx => hc x (List.mem_cons_of_mem _ hx)) hn.2 q e

/-! ## the pressing -/
def stepC (t : List Rule) (c : Int) : List Int := (((t.filter fun q => decide (same q.1 = same c)).map (·.2)) ++ [[c]]).headD []
theorem filter_key (l : List Int) (F : Int → List Int) (m : Int) (hn : l.Nodup) : foundF (l.map fun n => (n, F n)) m = if m ∈ l then [F m] else [] := by
  induction l with
  | nil => rfl
  | cons a r ih =>
    rw [List.nodup_cons] at hn
    unfold foundF at ih ⊢
    rw [List.map_cons, List.filter_cons]
    by_cases h : a = m
    · subst h
      have : (a == a) = true := by simp
      rw [if_pos this, List.map_cons, ih hn.2, if_neg hn.1, if_pos List.mem_cons_self]
    · have : (a == m) = false := by simpa using h
      rw [if_neg (by simp [this]), ih hn.2]
      by_cases h2 : m ∈ r
      · rw [if_pos h2, if_pos (List.mem_cons_of_mem _ h2)]
      · rw [if_neg h2, if_neg]
        intro q
        rcases List.mem_cons.mp q with e | e
        · exact h e.symm
        · exact h2 e
theorem found_empty (ps : List Rule) (n : Int) : foundF ps n = [] ↔ n ∉ ps.map (·.1) := by
  unfold foundF
  rw [List.map_eq_nil_iff, List.filter_eq_nil_iff]
  constructor
  · intro h q
    obtain ⟨p, hp, e⟩ := List.mem_map.mp q
    exact h p hp (by simpa using e)
  · intro h p hp e
    exact h (List.mem_map.mpr ⟨p, hp, by simpa using e⟩)
theorem step_same (rules : List Rule) (c : Int) : (stepC (dictR rules) c).map same = if (foundF (rules.map sm) (same c)).isEmpty then [same c] else lastL (foundF (rules.map sm) (same c)) := by
  have h1 : ((dictR rules).filter fun q => decide (same q.1 = same c)).map (fun q => q.2.map same) = foundF ((dictR rules).map sm) (same c) := by
    unfold foundF
    rw [List.filter_map, List.map_map]
    rfl
  rw [dict_meant] at h1
  unfold meantF at h1
  rw [filter_key _ _ _ (namesF_nodup _)] at h1
  unfold stepC
  generalize ((dictR rules).filter fun q => decide (same q.1 = same c)) = l at h1
  by_cases hm : same c ∈ namesF (rules.map sm)
  · rw [if_pos hm] at h1
    have hne : ¬ (foundF (rules.map sm) (same c)).isEmpty = true := by
      rw [List.isEmpty_iff, found_empty, ← namesF_mem]
      exact fun h => h hm
    rw [if_neg hne]
    cases l with
    | nil => simp at h1
    | cons q r =>
      simp only [List.map_cons, List.cons.injEq] at h1
      show q.2.map same = _
      exact h1.1
  · rw [if_neg hm] at h1
    have he : (foundF (rules.map sm) (same c)).isEmpty = true := by
      rw [List.isEmpty_iff, found_empty, ← namesF_mem]; exact hm
    rw [if_pos he]
    have : l = [] := by simpa using h1
    subst this
    rfl
theorem step_menu {rules : List Rule} (hok : ∀ q ∈ rules, RuleOk q) {c : Int} (hc : c ∈ menu) : ∀ x ∈ stepC (dictR rules) c, x ∈ menu := by
  intro x hx
  unfold stepC at hx
  cases hl : ((dictR rules).filter fun q => decide (same q.1 = same c)) with
  | nil => rw [hl] at hx; have : x = c := by simpa using hx
           rw [this]; exact hc
  | cons q r =>
    rw [hl] at hx
    have hq : q ∈ dictR rules := (List.mem_filter.mp (hl ▸ List.mem_cons_self : q ∈ (dictR rules).filter _)).1
    exact (hok q (dictR_mem rules q hq)).2.2 x (by simpa using hx)
theorem step_len {rules : List Rule} (hok : ∀ q ∈ rules, RuleOk q) (c : Int) : (stepC (dictR rules) c).length ≤ 2 := by
  unfold stepC
  cases hl : ((dictR rules).filter fun q => decide (same q.1 = same c)) with
  | nil => simp
  | cons q r =>
    have hq : q ∈ dictR rules := (List.mem_filter.mp (hl ▸ List.mem_cons_self : q ∈ (dictR rules).filter _)).1
    exact (hok q (dictR_mem rules q hq)).2.1
def iterC (t : List Rule) : Nat → Int → List Int
  | 0, c => [c]
  | f + 1, c => (stepC t c).flatMap (iterC t f)
theorem grown_empty (ps : List Rule) (n : Int) (h : (foundF ps n).isEmpty = true) : ∀ f, grownF ps f n = [n]
  | 0 => rfl
  | f + 1 => by rw [grownF, if_pos h]
theorem flatMap_congr' {α β : Type} {f g : α → List β} : ∀ {l : List α}, (∀ a ∈ l, f a = g a) → l.flatMap f = l.flatMap g
  | [], _ => rfl
  | a :: l, h => by rw [List.flatMap_cons, List.flatMap_cons, h a List.mem_cons_self, flatMap_congr' fun b hb => h b (List.mem_cons_of_mem _ hb)]
theorem iter_grown (rules : List Rule) : ∀ (f : Nat) (c : Int), (iterC (dictR rules) f c).map same = grownF (rules.map sm) f (same c)
  | 0, c => rfl
  | f + 1, c => by
    have hs := step_same rules c
    rw [iterC, List.map_flatMap, flatMap_congr' (fun a _ => iter_grown rules f a)]
    have e : (stepC (dictR rules) c).flatMap (fun a => grownF (rules.map sm) f (same a)) = ((stepC (dictR rules) c).map same).flatMap (grownF (rules.map sm) f) := by
      rw [List.flatMap_map]
    rw [e, hs, grownF]
    split
    · rename_i h
      rw [List.flatMap_cons, List.flatMap_nil, List.append_nil, grown_empty _ _ h]
    · rfl
def turnC (t : List Rule) : Nat → List Int
  | 0 => [1, 383, 129]
  | i + 1 => (turnC t i).flatMap (stepC t)
theorem turn_menu {rules : List Rule} (hok : ∀ q ∈ rules, RuleOk q) : ∀ i, ∀ c ∈ turnC (dictR rules) i, c ∈ menu
  | 0 => (by decide +kernel : ∀ c ∈ ([1, 383, 129] : List Int), c ∈ menu)
  | i + 1 => by
    intro c hc
    obtain ⟨d, hd, h⟩ := List.mem_flatMap.mp hc
    exact step_menu hok (turn_menu hok i d hd) c h
theorem flatMap_len {α β : Type} {f : α → List β} {k : Nat} : ∀ {l : List α}, (∀ a ∈ l, (f a).length ≤ k) → (l.flatMap f).length ≤ l.length * k
  | [], _ => by simp
  | a :: l, h => by
    have h1 := h a List.mem_cons_self
    have h2 := flatMap_len (l := l) fun b hb => h b (List.mem_cons_of_mem _ hb)
    rw [List.flatMap_cons, List.length_append, List.length_cons, Nat.succ_mul]
    omega
theorem turn_len {rules : List Rule} (hok : ∀ q ∈ rules, RuleOk q) : ∀ i, (turnC (dictR rules) i).length ≤ 3 * 2 ^ i
  | 0 => by simp [turnC]
  | i + 1 => by
    have h1 := turn_len hok i
    have h2 := flatMap_len (l := turnC (dictR rules) i) (f := stepC (dictR rules)) (k := 2) fun a _ => step_len hok a
    rw [turnC, Nat.pow_succ]
    omega
theorem turn3 (rules : List Rule) : (turnC (dictR rules) 3).map same = ([1, 383, 129] : List Int).flatMap (grownF (rules.map sm) 3) := by
  have e : turnC (dictR rules) 3 = ([1, 383, 129] : List Int).flatMap (iterC (dictR rules) 3) := by
    show (((([1, 383, 129] : List Int).flatMap (stepC (dictR rules))).flatMap (stepC (dictR rules))).flatMap (stepC (dictR rules))) = _
    rw [List.flatMap_assoc, List.flatMap_assoc]
    apply flatMap_congr'
    intro a _
    show _ = (stepC (dictR rules) a).flatMap fun b => (stepC (dictR rules) b).flatMap fun c => (stepC (dictR rules) c).flatMap fun d => [d]
    apply flatMap_congr'
    intro b _
    apply flatMap_congr'
    intro c _
    simp
  rw [e, List.map_flatMap, flatMap_congr' (fun a _ => iter_grown rules 3 a)]
  apply flatMap_congr'
  intro a ha
  have : ∀ a ∈ ([1, 383, 129] : List Int), same a = a := by decide +kernel
  rw [this a ha]
end Mine

namespace Mine
open PySem PySem.W PyProof.Rows

/-! ## the first steps: the tokens may be noughts yet -/
structure Grow0 (s : Shared) (h : Heap) (s' : Shared) (h' : Heap) : Prop where
  keeps : Keeps s s'
  le : Le h h'
  sub : Le h' s'.heap
  hid : ∀ b o, s.heap.get? b = some o → h.get? b = none → h'.get? b = none
theorem Grow0.trans {s s' s'' : Shared} {h h' h'' : Heap} (a : Grow0 s h s' h') (b : Grow s' h' s'' h'') : Grow s h s'' h'' :=
  ⟨Keeps.trans a.keeps b.keeps, b.pos, a.le.trans b.le, b.sub, fun x o e n => b.hid x o (Keeps.le a.keeps _ _ e) (a.hid x o e n)⟩

def Ev0 (w : World) (n : Nat) (env : Env) (ρ : Mine.Ctx) (e : Expr) (d : PyData) : Prop :=
  ∀ h, Fm w env ρ h → ∀ (A : Around) (s : Shared) (Q : Value → Shared → Prop) (E : Value → Shared → Prop), Room n A → Le h s.heap →
    (∀ a s' h', Grow s h s' h' → Is w h' a d → Q a s') → wpAny (model PP w) A (eval e env) Q E s
def Evs0 (w : World) (n : Nat) (env : Env) (ρ : Mine.Ctx) (pos : Pos) (es : List Expr) (ds : List PyData) : Prop :=
  ∀ h, Fm w env ρ h → ∀ (A : Around) (s : Shared) (Q : List Value → Shared → Prop) (E : Value → Shared → Prop), Room n A → Le h s.heap →
    (∀ a s' h', Grow s h s' h' → IsAll w h' a ds → Q a s') → wpAny (model PP w) A (spliced (backTo pos (starEach es env))) Q E s
def Bx0 (w : World) (n : Nat) (s : Shared) (h : Heap) (env : Env) (ρ : Mine.Ctx) (t : Sem Flow) (d : PyData) : Prop :=
  ∀ (A : Around) (s1 : Shared) (h1 : Heap) (Q : Flow → Shared → Prop) (E : Value → Shared → Prop), Room n A → Le h s.heap → Wd w h → Grow0 s h s1 h1 → Own s env h1 → Fm w env ρ h1 →
    (∀ v s' h', Grow s h s' h' → Is w h' v d → Q (.ret v) s') → wpAny (model PP w) A t Q E s1
def Fn0 (w : World) (n : Nat) (a : Addr) (ds : List PyData) (d : PyData) : Prop :=
  ∀ (A : Around) (s : Shared) (h : Heap) (R : Result → Shared → Prop) (vs : List Value), Room n A → Wd w h → Le h s.heap → IsAll w h vs ds →
    (∀ v s' h', Grow s h s' h' → Is w h' v d → R (.ok (.ret v)) s') → codeAny (model PP w) A (.call (.ref a) ⟨vs, []⟩) R s

section
variable {w : World} {n : Nat} {env : Env} {ρ : Mine.Ctx}
theorem Ev0.int {i : Int} {k : Nat} {pos : Pos} : Ev0 w n env ρ (.Constant (.int i) k pos) (.int i) :=
  fun h _ _ s _ _ _ L hQ => wpAny_Constant_int (hQ _ { s with toks := s.toks + 1 } h ⟨⟨s.heap, s.toks + 1, rfl, fun _ _ e => e⟩, Nat.succ_pos _, Le.refl h, L, fun _ _ _ e => e⟩ (.int _ _))
theorem Evs0.cons {pos : Pos} {e : Expr} {es : List Expr} {d : PyData} {ds : List PyData} (he : Ev0 w n env ρ e d) (hs : Evs w n env ρ pos es ds)
    (hst : starEach (e :: es) env = (false, eval e env) :: starEach es env := by rfl) : Evs0 w n env ρ pos (e :: es) (d :: ds) :=
  fun h F A s _ E R L hQ => args_cons (he h F A s _ E R L fun a s1 h1 g1 i1 => hs h1 (F.le g1.le) A s1 _ E R g1.ok fun b s2 h2 g2 i2 => hQ _ s2 h2 (g1.trans g2) (.cons (i1.le g2.le) i2)) hst
theorem Ev0.list {es : List Expr} {pos : Pos} {ds : List PyData} (hs : Evs0 w n env ρ pos es ds) (hsz : ds.length ≤ 1000000 := by decide) : Ev0 w n env ρ (.List es pos) (.list ds) :=
  fun h F A s _ E R L hQ => List_ (hs h F A s _ E R L fun vs s1 h1 g1 i1 => run_newList i1 (by rw [i1.length]; exact sizeLine_big hsz) A s1 _ E R g1.ok fun v s2 h2 g2 i2 => hQ v s2 h2 (g1.trans g2) i2)
theorem Ev0.tuple {es : List Expr} {k : Nat} {pos : Pos} {ds : List PyData} (hs : Evs0 w n env ρ pos es ds) (hsz : ds.length ≤ 1000000 := by decide) : Ev0 w n env ρ (.Tuple es k pos) (.tuple ds) :=
  fun h F A s _ E R L hQ => Tuple_ (hs h F A s _ E R L fun vs s1 h1 g1 i1 => run_newTuple i1 (by rw [i1.length]; exact sizeLine_big hsz) A s1 _ E R g1.ok fun v s2 h2 g2 i2 => hQ v s2 h2 (g1.trans g2) i2)
theorem Ev0.bin {l r : Expr} {op : Operator} {pos : Pos} {d1 d2 d : PyData} (hl : Ev0 w n env ρ l d1) (hr : Ev w n env ρ r d2) (ho : Op2 w n (binaryOp op) d1 d2 d) : Ev0 w n env ρ (.BinOp l op r pos) d :=
  fun h F A s _ E R L hQ => wpAny_BinOp (hl h F A s _ E R L fun a s1 h1 g1 i1 => hr h1 (F.le g1.le) A s1 _ E R g1.ok fun b s2 h2 g2 i2 =>
    ho h2 a b (F.wd.le (g1.le.trans g2.le)) (i1.le g2.le) i2 A s2 _ E R g2.ok fun v s3 h3 g3 i3 => hQ v s3 h3 ((g1.trans g2).trans g3) i3)
theorem Ev0.conv {e : Expr} {d d' : PyData} (x : Ev0 w n env ρ e d) (h : d = d') : Ev0 w n env ρ e d' := h ▸ x
theorem Bx0.assign {s : Shared} {h : Heap} {x : Str} {p pos : Pos} {e : Expr} {rest : List Stmt} {d1 d : PyData} (he : Ev0 w n env ρ e d1) (hk : env.kindOf x = some .local) (hfl : flatCtx ρ = true) (hfd : flat d1 = true)
    (hs : swapsWith e (some (.Name x p)) pos.line env = pure false) (hr : Bx w n s h env ((x, d1) :: ρ) (execs rest env) d) : Bx0 w n s h env ρ (execs (.Assign [.Name x p] e pos :: rest) env) d :=
  fun A s1 h1 _ E R L W g O F hQ => wpAny_execs_cons (wpAny_Assign_Name (he h1 F A s1 _ E R g.sub fun _ _ _ g2 i2 =>
    store_local L W (g.trans g2) (O.le g2.le) (F.le g2.le) i2 hfl hfd hk fun s3 h3 g3 O3 F3 _ _ _ => hr A s3 h3 _ E R L W g3 O3 F3 hQ) hs)
end

theorem Fn0.of {w : World} {n : Nat} {a : Addr} {fd : FuncData} {body : List Stmt} {names : List Str} {ds : List PyData} {d : PyData} (D : DefAt w a fd body)
    (hbind : ∀ vs : List Value, vs.length = ds.length → bindArgs fd ⟨vs, []⟩ = pure (names.zip vs)) (hlen : names.length = ds.length) (hnd : names.Nodup)
    (hkind : ∀ (L : Nat), ∀ x ∈ names, fd.scope.names.lookup x = some .local ∨ (fd.scope.names.lookup x = some .cell ∧ (x == ("__classdict__" : Str)) = false ∧ ((cellsFrom L fd.scope.names []).lookup x).isSome = true))
    (hB : ∀ (s : Shared) (h : Heap) (L : Nat), Bx0 w n s h (callEnvC fd L a) (names.zip ds) (execs body (callEnvC fd L a)) d) : Fn0 w (n + 1) a ds d := by
  intro A s h R vs r W l i hR
  obtain ⟨oc, od, osl, hK⟩ := D.at_
  have hvl : vs.length = ds.length := i.length
  have hfst : (names.zip vs).map (·.1) = names := zip_map_fst _ _ (by rw [hlen, hvl])
  refine codeAny_call_function (o := ⟨oc, od, .func fd, osl⟩) (fd := fd) (by have := r.depth; omega) (l _ _ (W.K _ _ hK)) rfl D.co D.gen D.body (codeRec_of (W.K.keeps l) D.code) ?_
  rw [hbind vs hvl, D.clo]
  refine wpAny_pure (wpAny_newFunctionEnv_cells D.kind (fun x hx => ?_) fun env he s1 x => ?_)
  · have hx' : x.1 ∈ names := by have := List.mem_map_of_mem (f := (·.1)) hx; rwa [hfst] at this
    rcases hkind (s.heap.objs.size + 1) x.1 hx' with q | ⟨q, _, q'⟩
    · exact .inl q
    · exact .inr ⟨q, q'⟩
  subst he
  refine ⟨(W.lim.keeps l).keeps x.toInCall.keep, codeAny_func ?_⟩
  replace x : InCallC s (callEnvC fd s.heap.objs.size a).locals (bindL (callEnvC fd s.heap.objs.size a).kindOf (names.zip vs) fun _ => none) (callEnvC fd s.heap.objs.size a).cells (bindC (callEnvC fd s.heap.objs.size a).kindOf (names.zip vs) fun _ => none) s1 := x
  show wpAny _ (A.deeper (callEnvC fd s.heap.objs.size a)) (execs body (callEnvC fd s.heap.objs.size a)) _ _ s1
  have hLs : s.heap.get? s.heap.objs.size = none := Heap.get?_none_of_le (Nat.le_refl _)
  have kp : Keeps s s1 := by
    obtain ⟨H, tk, rfl⟩ := x.toInCall.same
    exact ⟨H, tk, rfl, x.toInCall.keep⟩
  have g : Grow0 s h s1 (vis h s.heap s1.heap) := ⟨kp, le_vis (l.trans (Keeps.le kp)), vis_sub, fun _ _ e n => vis_hid e n⟩
  have hns : (vis h s.heap s1.heap).Ns (callEnvC fd s.heap.objs.size a).locals (bindL (callEnvC fd s.heap.objs.size a).kindOf (names.zip vs) fun _ => none) := by
    obtain ⟨o, es, ep, ho, q⟩ := x.toInCall.ns
    exact ⟨o, es, ep, vis_some ho (.inl hLs), q⟩
  have hcl : ∀ y c, (callEnvC fd s.heap.objs.size a).cells.lookup y = some c → s.heap.get? c = none ∧ (vis h s.heap s1.heap).IsCell c (bindC (callEnvC fd s.heap.objs.size a).kindOf (names.zip vs) (fun _ => none) y) := fun y c e => by
    have hlt : s.heap.objs.size < c := x.above y c (mem_of_lookup e)
    have hc : s.heap.get? c = none := Heap.get?_none_of_le (Nat.le_of_lt hlt)
    obtain ⟨o, ho, hd⟩ := x.cell y c e
    exact ⟨hc, o, vis_some ho (.inl hc), hd⟩
  refine wpAny_mono (hB s h s.heap.objs.size _ s1 (vis h s.heap s1.heap) (fun f s' => R (.ok (.ret (match f with | .ret v => v | _ => .none))) s') (fun _ _ => False) (r.deeper _) l W g
    ⟨hLs, ⟨_, hns⟩, fun y c e => ⟨(hcl y c e).1, _, (hcl y c e).2⟩, fun y z c e e' => pairwise_apart x.apart y z c e e'⟩
    ⟨W.le g.le, D.kind, D.glob, D.blt, fun y e he => ?_⟩ (fun v s' h' g' i' => hR v s' h' g' i')) (fun _ _ q => q) (fun _ _ q => q.elim)
  obtain ⟨v, hv, iv⟩ := isAll_zip i hlen y e he
  have hy : y ∈ names := by have := List.mem_map_of_mem (f := (·.1)) (mem_of_lookup hv); rwa [hfst] at this
  rcases hkind (s.heap.objs.size + 1) y hy with q | ⟨q, q2, q'⟩
  · exact .inl ⟨q, _, v, hns, bindL_at _ _ _ y v (by rw [hfst]; exact hnd) hv q, iv.le g.le⟩
  · obtain ⟨c, hc⟩ := Option.isSome_iff_exists.mp q'
    refine .inr ⟨.inl q, q2, c, v, hc, ?_, iv.le g.le⟩
    have := (hcl y c hc).2
    rwa [bindC_at _ _ _ y v (by rw [hfst]; exact hnd) hv (by show ¬ fd.scope.names.lookup y = some .local; rw [q]; decide)] at this
theorem Fn0.of1 {w : World} {n : Nat} {a : Addr} {fd : FuncData} {body : List Stmt} (x : Str) {d1 d : PyData} (D : DefAt w a fd body) (hbind : ∀ v, bindArgs fd ⟨[v], []⟩ = pure [(x, v)]) (hk : fd.scope.names.lookup x = some .local)
    (hB : ∀ (s : Shared) (h : Heap) (L : Nat), Bx0 w n s h (callEnvC fd L a) [(x, d1)] (execs body (callEnvC fd L a)) d) : Fn0 w (n + 1) a [d1] d := by
  refine Fn0.of (names := [x]) D (fun vs hv => ?_) rfl (by simp) (fun L k hkm => ?_) hB
  · match vs, hv with
    | [v], _ => exact hbind v
  · left; have : k = x := by simpa using hkm
    rw [this]; exact hk
end Mine

namespace Mine
open PySem PySem.W PyProof.Rows

local macro_rules | `(tactic| walk_at "fn") => `(tactic| exact ⟨⟨_, _, _, rfl⟩, rfl, rfl, rfl, rfl, rfl, rfl, rfl, rfl⟩)
local macro_rules | `(tactic| walk_at "gl") => `(tactic| first | exact Gl.text rfl rfl | exact Gl.builtin rfl rfl rfl (by decide))

section
variable {w : World}

def wordD (c : Int) : PyData := .str (S (shownL c))
def bookE (q : Rule) : PyData := .tuple [wordD q.1, .list (q.2.map wordD)]
theorem flat_words (l : List Int) : flat (.list (l.map wordD)) = true := by simp only [flat]; exact flats_map _ (fun _ => by simp [wordD, flat]) l
theorem flat_book (D : List Rule) : flat (.list (D.map bookE)) = true := by
  simp only [flat]
  exact flats_map _ (fun q => by simp only [bookE, flat, flats, Bool.and_true]; rw [flats_map _ (fun _ => by simp [wordD, flat]) _]; simp [wordD, flat]) D
theorem ctx2 {a b : Str} {d1 d2 : PyData} {ρ : Mine.Ctx} (h1 : ρ.lookup a = some d1) (h2 : ρ.lookup b = some d2) : ∀ y e, List.lookup y [(a, d1), (b, d2)] = some e → ρ.lookup y = some e := by
  intro y e q
  rw [List.lookup_cons] at q
  split at q
  · rename_i hy; cases q; rw [beq_iff_eq.mp hy]; exact h1
  · rw [List.lookup_cons] at q
    split at q
    · rename_i hy; cases q; rw [beq_iff_eq.mp hy]; exact h2
    · simp at q
theorem lay_ints (l : List Int) : PyData.canLayAll0 (l.map .int) = true := by
  induction l with
  | nil => rfl
  | cons a r ih => simp [PyData.canLayAll0, PyData.canLay0, ih]
theorem lay_pairs (l : List Rule) : PyData.canLayAll0 (l.map pairD) = true := by
  induction l with
  | nil => rfl
  | cons a r ih => simp [PyData.canLayAll0, PyData.canLay0, ih, pairD, lay_ints]
theorem pow10 : (10 : Int) ^ (6 : Int).toNat = 1000000 := by decide

theorem hdr_len {rules : List Rule} (hl : rules.length ≤ 8) (hm : ∀ q ∈ rules, q.2.length ≤ 2) : (hdr rules).length ≤ 5000 ∧ ∀ q ∈ rules, (writtenL q.1 q.2).length ≤ 500 := by
  have hw : ∀ q ∈ rules, (writtenL q.1 q.2).length ≤ 500 := by
    intro q hq
    have h1 := shownL_len q.1
    have h2 : (innerL q.2).length ≤ 2 * 16 := by
      refine Nat.le_trans (joinL_len [44, 32] 14 _ ?_) ?_
      · intro l hl
        obtain ⟨c, _, rfl⟩ := List.mem_map.mp hl
        have := quotedL_len (shownL c)
        have := shownL_len c
        omega
      · rw [List.length_map]
        have := hm q hq
        show q.2.length * 16 ≤ _
        omega
    have h3 := quotedL_len (innerL q.2)
    unfold writtenL
    split
    · have : (noKeys q.1).length = 10 := by unfold noKeys; split <;> rfl
      rw [List.length_append]; omega
    · simp only [List.length_append, List.length_singleton]; omega
  refine ⟨?_, hw⟩
  unfold hdr
  refine Nat.le_trans (joinL_len [44, 32] 500 _ ?_) ?_
  · intro l hl
    obtain ⟨q, hq, rfl⟩ := List.mem_map.mp hl
    exact hw q hq
  · rw [List.length_map]; show rules.length * 502 ≤ _; omega

theorem val_len {q : Rule} (h : (writtenL q.1 q.2).length ≤ 500) : 2 ≤ (valL q).length ∧ (valL q).length ≤ 10000 ∧ (vv q).length ≤ 10000 := by
  unfold writtenL at h
  unfold valL vv
  by_cases he : q.2.isEmpty
  · rw [if_pos he, if_pos he]
    have : (bareL q.1).length = 9 := by unfold bareL noKeys; split <;> rfl
    omega
  · rw [if_neg he] at h
    rw [if_neg he, if_neg he]
    have h2 : (innerL q.2).length ≤ (quotedL (innerL q.2)).length := by
      have h3 : ∀ (c : Nat) (z : List Nat) (l : List Nat), 1 ≤ z.length → l.length ≤ (sub1 c z l).length := by
        intro c z l hz
        induction l with
        | nil => simp
        | cons a r ih =>
          unfold sub1 at ih ⊢
          rw [List.flatMap_cons, List.length_append, List.length_cons]
          split
          · omega
          · rw [List.length_singleton]; omega
      have h4 := h3 92 [92, 92] (innerL q.2) (by decide)
      have h5 := h3 34 [92, 34] (sub1 92 [92, 92] (innerL q.2)) (by decide)
      unfold quotedL esc
      simp only [List.length_append]
      omega
    simp only [List.length_append, List.length_cons, List.length_nil] at h ⊢
    omega
theorem insR_len (t : List Rule) (q : Rule) : (insR t q).length ≤ t.length + 1 := by
  unfold insR
  split <;> simp
theorem dictR_len (rules : List Rule) : (dictR rules).length ≤ rules.length := by
  have : ∀ (r t : List Rule), (r.foldl insR t).length ≤ t.length + r.length := by
    intro r
    induction r with
    | nil => intro t; simp
    | cons q r ih =>
      intro t
      have h1 := insR_len t q
      have h2 := ih (insR t q)
      rw [List.foldl_cons, List.length_cons]
      omega
  simpa [dictR] using this rules []
theorem words_of (q : Rule) : outOf (fun y : Str => !(bares.any (· == y))) (fun y => PyData.str (sliceS y (some 1) (some (-1)))) ((httpL (vv q)).map fun p => Txt.strip (S p)) = q.2.map wordD := by
  rw [vv_items]
  unfold outOf
  by_cases he : q.2.isEmpty
  · rw [if_pos he]
    have h1 := bare_in q.1
    have h2 : (bares.any (· == S (bareL q.1))) = true := by
      rw [List.any_eq_true]; exact ⟨_, h1, by simp⟩
    rw [List.isEmpty_iff] at he
    rw [he, List.filter_cons, h2]
    rfl
  · rw [if_neg he]
    have hf : (q.2.map fun c => S (34 :: shownL c ++ [34])).filter (fun y : Str => !(bares.any (· == y))) = q.2.map fun c => S (34 :: shownL c ++ [34]) := by
      rw [List.filter_eq_self]
      intro y hy
      obtain ⟨c, _, rfl⟩ := List.mem_map.mp hy
      have := quoted_not_bare c
      cases hb : bares.any (· == S (34 :: shownL c ++ [34])) with
      | false => rfl
      | true =>
        obtain ⟨x, hx, e⟩ := List.any_eq_true.mp hb
        exact absurd ((beq_iff_eq.mp e) ▸ hx) this
    rw [hf, List.map_map]
    apply List.map_congr_left
    intro c _
    simp only [Function.comp, wordD]
    rw [slice_mid _ (by simp)]
    simp
theorem items_short (q : Rule) : ∀ y ∈ (httpL (vv q)).map (fun p => Txt.strip (S p)), y.length ≤ 100 := by
  rw [vv_items]
  intro y hy
  split at hy
  · have : y = S (bareL q.1) := by simpa using hy
    rw [this, S_len]
    have : (bareL q.1).length = 9 := by unfold bareL noKeys; split <;> rfl
    omega
  · obtain ⟨c, _, rfl⟩ := List.mem_map.mp hy
    rw [S_len]
    have := shownL_len c
    simp; omega

theorem flat_pair (q : Rule) : flat (pairD q) = true := by
  simp only [pairD, flat, flats, Bool.true_and, Bool.and_true]; exact flats_map _ (fun _ => by simp [flat]) _
theorem lay_fst (l : List Rule) : PyData.canLayAll0 (l.map fun q => .int q.1) = true := by
  have := lay_ints (l.map (·.1))
  rwa [List.map_map] at this
theorem names_len (ps : List Rule) : (namesF ps).length ≤ ps.length := by
  unfold namesF
  rw [List.length_map]
  exact Nat.le_trans (List.length_filter_le _ _) (by rw [List.length_range]; exact Nat.le_refl _)
theorem Ts.conv {n : Nat} {env : Env} {ρ : Mine.Ctx} {e : Expr} {b b' : Bool} (x : Ts w n env ρ e b) (h : b = b') : Ts w n env ρ e b' := h ▸ x
theorem fn_numberS {c : Int} (h : c ∈ codes) : Fn w 4 87 [wordD c] (.int (same c)) := by
  have := fn_number (w := w) h
  rwa [shown_S] at this
theorem Ev.fst {n : Nat} {env : Env} {ρ : Mine.Ctx} {value : Expr} {p pos : Pos} {k : Nat} {q : Rule} (hv : Ev w n env ρ value (pairD q)) : Ev w n env ρ (.Subscript value (.Constant (.int 0) k p) pos) (.int q.1) :=
  Ev.item_tuple (k := 0) (xs := [.int q.1, .list (q.2.map .int)]) hv Ev.int (by decide) (by simp) (by simp) rfl
theorem depth_all {α : Type} (f : α → PyData) (k : Nat) (hf : ∀ a, (f a).depth ≤ k) : ∀ l : List α, PyData.depthAll (l.map f) ≤ k
  | [] => by simp [PyData.depthAll]
  | a :: l => by
    have h1 := hf a
    have h2 := depth_all f k hf l
    simp only [List.map_cons, PyData.depthAll]; omega
theorem depth_ints (l : List Int) : (PyData.list (l.map .int)).depth ≤ 2 := by
  have := depth_all PyData.int 1 (fun a => by simp [PyData.depth]) l
  simp only [PyData.depth]; omega
theorem depth_pairs (l : List Rule) : (PyData.list (l.map pairD)).depth ≤ 4 := by
  have := depth_all pairD 3 (fun q => by
    have := depth_ints q.2
    simp only [PyData.depth] at this
    simp only [pairD, PyData.depth, PyData.depthAll]; omega) l
  simp only [PyData.depth]; omega
theorem ctx_nil {ρ : Mine.Ctx} : ∀ (y : Str) (e : PyData), List.lookup y ([] : Mine.Ctx) = some e → ρ.lookup y = some e := fun _ _ q => by simp at q
theorem ctx_cons {a : Str} {d : PyData} {ρ ρ' : Mine.Ctx} (h1 : ρ.lookup a = some d) (h2 : ∀ y e, ρ'.lookup y = some e → ρ.lookup y = some e) : ∀ y e, List.lookup y ((a, d) :: ρ') = some e → ρ.lookup y = some e := by
  intro y e q
  rw [List.lookup_cons] at q
  split at q
  · rename_i hy; cases q; rw [beq_iff_eq.mp hy]; exact h1
  · exact h2 y e q

theorem fn_law {script : List Int} (hs : script.length ≤ 1000) : Fn0 w 6 104 [.list (script.map .int)] (.bool true) := by
  refine Fn0.of1 "script" (by walk_at "fn") (fun _ => rfl) rfl fun s h L => ?_
  have hok := rules_ok script
  obtain ⟨hlen, hlen2⟩ := rules_len script
  refine Bx0.assign (d1 := psD (rulesOf script)) ?_ ?_ ?_ ?_ ?_ ?_
  · refine Ev0.conv (Ev0.bin (d1 := .list [pairD (1, [92, 34]), pairD (92, [127, 1])]) (d2 := .list ((script.take 6).map fun x => pairD (keyOf (x.fmod 1000000), macroOf (x.fmod 1000000)))) ?_ ?_ (op_list_add ?_)) ?_
    · refine Ev0.list (Evs0.cons (Ev0.tuple (Evs0.cons Ev0.int (Evs.cons (Ev.list (Evs.cons Ev.int (Evs.cons Ev.int Evs.nil)) ?_) Evs.nil)) ?_) (Evs.cons (Ev.tuple (Evs.cons Ev.int (Evs.cons (Ev.list (Evs.cons Ev.int (Evs.cons Ev.int Evs.nil)) ?_) Evs.nil)) ?_) Evs.nil)) ?_
      all_goals simp
    · refine Ev.conv (Ev.comp (cl := []) (ρb := []) (xs := (script.take 6).map .int) (out := outOf (fun _ => true) (fun x => pairD (keyOf (x.fmod 1000000), macroOf (x.fmod 1000000))) (script.take 6)) ?_ ?_ ?_ ?_ nocl trivial ?_) ?_
      · rw [List.map_take]
        exact EvI.list (Ev.slice_upto (k := 6) (Ev.name rfl) Ev.int (by decide) (by simp; omega))
      · rfl
      · rfl
      · decide
      · refine LoopOk.one (script.take 6) PyData.int (fun x => [("cell", .int x)]) (fun _ => true) _ (fun C _ x hx => ⟨.name rfl, .inl ⟨rfl, rfl⟩, fun _ => ?_, fun _ => ?_⟩) ?_
        · refine Ev.call (by walk_at "gl") (Evs.cons (Ev.conv (Ev.bin (Ev.int_of (by walk_at "gl") (Ev.name rfl)) (Ev.bin Ev.int Ev.int (op_pow (by decide) (by decide) (by decide))) (op_mod (by decide))) ?_) Evs.nil) rfl (fn_rule.mono (by decide))
          rw [pow10]
        · simp only [pairD, flat, flats, Bool.true_and, Bool.and_true]; exact flats_map _ (fun _ => by simp [flat]) _
        · have := List.length_take_le 6 script; omega
      · rw [outOf_all]
    · have := List.length_take_le 6 script
      simp only [List.length_cons, List.length_nil, List.length_map]; omega
    · unfold psD rulesOf
      rw [List.map_append, List.map_map]; rfl
  · rfl
  · simp only [flatCtx, List.all_cons, List.all_nil, Bool.and_true]; exact flat_ints _
  · exact flat_ps _
  · exact sw_bin ..
  generalize rulesOf script = rules at hok hlen hlen2
  have hne : rules ≠ [] := by rintro rfl; simp at hlen2
  have hm2 : ∀ q ∈ rules, q.2.length ≤ 2 := fun q hq => (hok q hq).2.1
  obtain ⟨hhl, hwl⟩ := hdr_len hlen hm2
  refine Bx.assignC (c := L + 1) (d1 := tabD ((dictR rules).map tabE)) ?_ ?_ ?_ ?_ ?_
  · rw [← table_eq hok]
    refine Ev.call (by walk_at "gl") (Evs.cons (Ev.conv (Ev.call (by walk_at "gl") (Evs.cons (Ev.conv (Ev.join (ys := rules.map fun q => S (writtenL q.1 q.2)) Ev.str ?_ ?_) (d' := .str (S (hdr rules))) ?_) Evs.nil) rfl ((fn_http (by omega)).mono (by decide))) (congrArg PyData.list (header_items hne hok))) Evs.nil) rfl ((fn_keqv (by rw [List.length_map]; omega) ?_).mono (by decide))
    · refine Ev.conv (Ev.comp (cl := []) (ρb := []) (xs := rules.map pairD) (out := outOf (fun _ => true) (fun q => .str (S (writtenL q.1 q.2))) rules) (EvI.list (Ev.name rfl)) ?_ ?_ ?_ nocl trivial ?_) ?_
      · rfl
      · rfl
      · decide
      · refine LoopOk.one rules pairD (fun q => [("macro", .list (q.2.map .int)), ("key", .int q.1)]) _ _ (fun C _ q hq => ⟨.pair rfl rfl, .inl ⟨rfl, rfl⟩, fun _ => ?_, fun _ => by simp [flat]⟩) (by omega)
        exact Ev.call (by walk_at "gl") (Evs.cons (Ev.name rfl) (Evs.cons (Ev.name rfl) Evs.nil)) rfl (fn_written (bits_keys _ (hok q hq).1) (fun c hc => code_menu c ((hok q hq).2.2 c hc)) (by have := hm2 q hq; omega))
      · rw [outOf_all, List.map_map]; rfl
    · refine joinOk_of _ _ 600 (fun t ht => ?_) (by rw [List.length_map]; omega)
      obtain ⟨q, hq, rfl⟩ := List.mem_map.mp ht
      have := hwl q hq
      rw [S_len, c_cs, S_len]
      simp; omega
    · rw [c_cs]
      have := joinL_eq [44, 32] (rules.map fun q => writtenL q.1 q.2)
      rw [List.map_map] at this
      exact congrArg PyData.str this
    · intro e he
      obtain ⟨q, hq, rfl⟩ := List.mem_map.mp he
      have h1 := shownL_len q.1
      have h2 := hwl q hq
      refine ⟨(key_free q.1 (hok q hq).1).1, ?_, by show (shownL q.1).length ≤ 1000; omega, ?_⟩
      · exact (val_len h2).1
      · exact (val_len h2).2.1
  · rfl
  · rfl
  · rfl
  refine Bx.assignC (c := L + 2) (d1 := .list (bares.map .str)) ?_ ?_ ?_ ?_ ?_
  · exact Ev.list (Evs.cons Ev.str (Evs.cons Ev.str Evs.nil)) (by decide)
  · rfl
  · rfl
  · rfl
  have hD : ∀ q ∈ dictR rules, RuleOk q := fun q hq => hok q (dictR_mem rules q hq)
  have hDl : (dictR rules).length ≤ 8 := Nat.le_trans (dictR_len rules) hlen
  refine Bx.assignC (c := L + 3) (d1 := .list ((dictR rules).map bookE)) ?_ ?_ ?_ ?_ ?_
  · refine Ev.conv (Ev.comp (cl := [("table", L + 1), ("bare", L + 2)]) (ρb := [("bare", .list (bares.map .str)), ("table", tabD ((dictR rules).map tabE))]) (xs := (dictR rules).map fun q => wordD q.1) (out := outOf (fun _ => true) bookE (dictR rules)) ?_ ?_ ?_ ?_ ?_ ?_ ?_) ?_
    · have e : ((dictR rules).map fun q => wordD q.1) = ((((dictR rules).map tabE).map fun p => (PyData.str p.1, PyData.str p.2)).map (·.1)) := by
        rw [List.map_map, List.map_map]; rfl
      rw [e]
      exact EvI.dict (Ev.name rfl)
    · rfl
    · rfl
    · decide
    · intro x c e'
      rcases lookup2 e' with ⟨rfl, rfl⟩ | ⟨rfl, rfl⟩
      · exact ⟨rfl, rfl⟩
      · exact ⟨rfl, rfl⟩
    · exact ⟨rfl, .inl rfl, .inl rfl, by decide, ⟨_, rfl, fun _ => rfl⟩, rfl, .inl rfl, .inl rfl, by decide, ⟨_, rfl, fun _ => rfl⟩, trivial⟩
    · refine LoopOk.one (dictR rules) (fun q => wordD q.1) (fun q => [("key", wordD q.1)]) _ _ (fun C _ q hq => ⟨.name rfl, .inl ⟨rfl, rfl⟩, fun _ => ?_, fun _ => ?_⟩) (by omega)
      · have hql := hwl q (dictR_mem rules q hq)
        refine Ev.tuple (Evs.cons (Ev.name rfl) (Evs.cons (Ev.conv (Ev.comp (cl := [("bare", L + 2)]) (ρb := [("bare", .list (bares.map .str))]) (xs := ((httpL (vv q)).map fun p => Txt.strip (S p)).map .str) (out := outOf (fun y : Str => !(bares.any (· == y))) (fun y => PyData.str (sliceS y (some 1) (some (-1)))) ((httpL (vv q)).map fun p => Txt.strip (S p))) ?_ ?_ ?_ ?_ ?_ ?_ ?_) (congrArg PyData.list (words_of q))) Evs.nil)) (by simp)
        · rw [List.map_map]
          exact EvI.list (Ev.call (by walk_at "gl") (Evs.cons (Ev.item_dict (kvs := (dictR rules).map tabE) (k := S (shownL q.1)) (v := S (vv q)) (Ev.name rfl) (Ev.name rfl) (dict_lookup (fun p hp => ruleOk_key (hD p hp)) (dict_nodup rules) q hq)) Evs.nil) rfl ((fn_http (l := vv q) (by have := (val_len hql).2.2; omega)).mono (by decide)))
        · rfl
        · rfl
        · decide
        · intro x c e'
          obtain ⟨rfl, rfl⟩ := lookup1 e'
          exact ⟨rfl, rfl⟩
        · exact ⟨rfl, .inl rfl, .inl rfl, by decide, ⟨_, rfl, fun _ => rfl⟩, trivial⟩
        · refine LoopOk.one _ PyData.str (fun y => [("item", .str y)]) _ _ (fun C _ y hy => ⟨.name rfl, .inr ⟨_, rfl, Ts.cmp (Ev.name rfl) (Ev.name rfl) op_notin_strs⟩, fun _ => Ev.slice_str (Ev.name rfl) (.some Ev.int) (.some (Ev.un Ev.int op_neg)) (by have := items_short q y hy; omega), fun _ => by simp [flat]⟩) ?_
          rw [vv_items]
          have := hm2 q (dictR_mem rules q hq)
          split <;> simp <;> omega
      · have := flat_book [q]
        simpa [flat, flats] using this
    · rw [outOf_all]
  · rfl
  · rfl
  · rfl
  refine Bx.assignC (c := L + 4) (d1 := psD (rules.map sm)) ?_ ?_ ?_ ?_ ?_
  · refine Ev.conv (Ev.comp (cl := []) (ρb := []) (xs := rules.map pairD) (out := outOf (fun _ => true) (fun q => pairD (sm q)) rules) (EvI.list (Ev.name rfl)) ?_ ?_ ?_ nocl trivial ?_) ?_
    · rfl
    · rfl
    · decide
    · refine LoopOk.one rules pairD (fun q => [("macro", .list (q.2.map .int)), ("key", .int q.1)]) _ _ (fun C _ q hq => ⟨.pair rfl rfl, .inl ⟨rfl, rfl⟩, fun _ => ?_, fun _ => ?_⟩) (by omega)
      · refine Ev.tuple (Evs.cons (Ev.call (by walk_at "gl") (Evs.cons (Ev.name rfl) Evs.nil) rfl (fn_same.mono (by decide))) (Evs.cons (Ev.conv (Ev.comp (cl := []) (ρb := []) (xs := q.2.map .int) (out := outOf (fun _ => true) (fun c => .int (same c)) q.2) (EvI.list (Ev.name rfl)) ?_ ?_ ?_ nocl trivial ?_) ?_) Evs.nil)) (by simp)
        · rfl
        · rfl
        · decide
        · exact LoopOk.one q.2 PyData.int (fun x => [("code", .int x)]) _ _ (fun C _ x hx => ⟨.name rfl, .inl ⟨rfl, rfl⟩, fun _ => Ev.call (by walk_at "gl") (Evs.cons (Ev.name rfl) Evs.nil) rfl (fn_same.mono (by decide)), fun _ => by simp [flat]⟩) (by have := hm2 q hq; omega)
        · rw [outOf_all]; show PyData.list _ = .list ((q.2.map same).map .int); rw [List.map_map]; rfl
      · simp only [pairD, flat, flats, Bool.true_and, Bool.and_true]; exact flats_map _ (fun _ => by simp [flat]) _
    · rw [outOf_all]; unfold psD; rw [List.map_map]; rfl
  · rfl
  · rfl
  · rfl
  refine Bx.weak (ρ' := [("pairs", psD (rules.map sm)), ("book", .list ((dictR rules).map bookE))]) ?_ ?_
  · exact ctx2 rfl rfl
  generalize hps : rules.map sm = ps
  have hpl : ps.length ≤ 8 := by rw [← hps, List.length_map]; exact hlen
  have hpm : ∀ q ∈ ps, q.2.length ≤ 2 := by
    intro q hq
    rw [← hps] at hq
    obtain ⟨r, hr, rfl⟩ := List.mem_map.mp hq
    show (r.2.map same).length ≤ 2
    rw [List.length_map]; exact hm2 r hr
  have hfp : flatCtx [("pairs", psD ps), ("book", .list ((dictR rules).map bookE))] = true := by
    simp only [flatCtx, List.all_cons, List.all_nil, Bool.and_true, flat_ps, flat_book]
  -- names
  refine Bx.assignComp (cl := [("pairs", L + 4)]) (ρb := [("pairs", psD ps)]) (xs := (List.range ps.length).map fun i => .int (i : Nat)) (out := (namesF ps).map .int) ?_ ?_ ?_ ?_ ?_ ?_ ?_ ?_ ?_ ?_ ?_ ?_
  · exact EvI.range (by walk_at "gl") (Ev.conv (Ev.len_list (by walk_at "gl") (Ev.name rfl) (by rw [List.length_map]; omega)) (by rw [List.length_map])) (by omega)
  · rfl
  · rfl
  · decide
  · intro x c e'
    obtain ⟨rfl, rfl⟩ := lookup1 e'
    exact ⟨rfl, rfl⟩
  · exact ⟨rfl, .inl rfl, .inl rfl, by decide, ⟨_, rfl, fun _ => rfl⟩, trivial⟩
  · have e : (namesF ps).map PyData.int = outOf (isNew ps) (fun i => .int (keyAt ps i)) (List.range ps.length) := by
      unfold namesF outOf; rw [List.map_map]; rfl
    rw [e]
    refine LoopOk.one (List.range ps.length) (fun i => PyData.int (i : Nat)) (fun i => [("place", .int (i : Nat))]) (isNew ps) (fun i => .int (keyAt ps i)) (fun C _ i hi => ?_) (by rw [List.length_range]; omega)
    have hi : i < ps.length := by simpa using hi
    have hkey : ∀ {n : Nat} {env : Env} {ρ : Mine.Ctx} {p1 p2 p3 p4 p5 : Pos} {k : Nat}, ρ.lookup (Str.ofString "pairs") = some (psD ps) → ρ.lookup (Str.ofString "place") = some (PyData.int (i : Nat)) →
        Ev w n env ρ (.Subscript (.Subscript (.Name (Str.ofString "pairs") p1) (.Name (Str.ofString "place") p2) p3) (.Constant (.int 0) k p4) p5) (.int (keyAt ps i)) := by
      intro n env ρ p1 p2 p3 p4 p5 k h1 h2
      exact Ev.fst (q := ps.getD i (0, [])) (Ev.item_list (k := ((i : Nat) : Int)) (xs := ps.map pairD) (d := pairD (ps.getD i (0, []))) (Ev.name h1) (Ev.name h2) (by omega) (by omega) (getD_map ps pairD (0, []) i hi))
    refine ⟨.name rfl, .inr ⟨_, rfl, ?_⟩, fun _ => hkey rfl rfl, fun _ => rfl⟩
    have e2 : isNew ps i = !(((ps.take i).map fun q => PyData.int q.1).any fun y => PyData.eqv y (.int (keyAt ps i))) := by
      unfold isNew
      rw [List.any_map, List.any_map]; rfl
    rw [e2]
    refine Ts.cmp (hkey rfl rfl) (Ev.conv (Ev.comp (cl := []) (ρb := []) (xs := (ps.take i).map pairD) (out := outOf (fun _ => true) (fun q => .int q.1) (ps.take i)) ?_ ?_ ?_ ?_ nocl trivial ?_) ?_) (op_notin_data rfl (flats_map _ (fun _ => by simp [flat]) _) rfl (lay_fst _) (by simp [PyData.depth]))
    · refine EvI.list (Ev.conv (Ev.slice_upto (k := ((i : Nat) : Int)) (xs := ps.map pairD) (Ev.name rfl) (Ev.name rfl) (by omega) (by rw [List.length_map]; omega)) ?_)
      rw [← List.map_take]; rfl
    · rfl
    · rfl
    · decide
    · exact LoopOk.one (ps.take i) pairD (fun q => [("pair", pairD q)]) (fun _ => true) _ (fun C _ q hq => ⟨.name rfl, .inl ⟨rfl, rfl⟩, fun _ => Ev.fst (q := q) (Ev.name rfl), fun _ => rfl⟩) (by have := List.length_take_le i ps; omega)
    · rw [outOf_all]
  · rfl
  · exact hfp
  · exact flats_map _ (fun _ => by simp [flat]) _
  · rfl
  -- meant
  refine Bx.assignComp (cl := [("pairs", L + 4)]) (ρb := [("pairs", psD ps)]) (xs := (namesF ps).map .int) (out := (meantF ps).map pairD) ?_ ?_ ?_ ?_ ?_ ?_ ?_ ?_ ?_ ?_ ?_ ?_
  · exact EvI.list (Ev.name rfl)
  · rfl
  · rfl
  · decide
  · intro x c e'
    obtain ⟨rfl, rfl⟩ := lookup1 e'
    exact ⟨rfl, rfl⟩
  · exact ⟨rfl, .inl rfl, .inl rfl, by decide, ⟨_, rfl, fun _ => rfl⟩, trivial⟩
  · have e : (meantF ps).map pairD = outOf (fun _ => true) (fun n => pairD (n, lastL (foundF ps n))) (namesF ps) := by
      rw [outOf_all]; unfold meantF; rw [List.map_map]; rfl
    rw [e]
    refine LoopOk.one (namesF ps) PyData.int (fun n => [("name", .int n)]) (fun _ => true) _ (fun C hC n hn => ⟨.cell rfl rfl ?_ rfl ?_, .inl ⟨rfl, rfl⟩, fun _ => ?_, fun _ => ?_⟩) (by have := names_len ps; omega)
    · exact List.mem_cons_self
    · have h4 : L + 4 < C := hC "pairs" (L + 4) rfl
      intro y hy
      rcases lookup2 (n := "name") (n2 := "pairs") (c := C + 1) (c2 := L + 4) hy with ⟨h, _⟩ | ⟨_, h⟩
      · exact h
      · exact absurd h (ne_nat (.inr (by show L + 4 < C + 1; exact Nat.lt_succ_of_lt h4)))
    · have hne : foundF ps n ≠ [] := by
        intro q
        exact (found_empty ps n).mp q ((namesF_mem ps n).mp hn)
      have hfl : (foundF ps n).length ≤ 1000 := by unfold foundF; rw [List.length_map]; exact Nat.le_trans (List.length_filter_le _ _) (by omega)
      refine Ev.tuple (Evs.cons (Ev.name rfl) (Evs.cons (Ev.item_list_neg (k := -1) (xs := (foundF ps n).map fun m => .list (m.map .int)) (d := .list ((lastL (foundF ps n)).map .int)) ?_ (Ev.un Ev.int op_neg) (by decide) ?_ (by decide) (last_get _ hne _)) Evs.nil)) (by simp)
      · have e3 : (foundF ps n).map (fun m => PyData.list (m.map .int)) = outOf (fun q : Int × List Int => q.1 == n) (fun q => .list (q.2.map .int)) ps := by
          unfold foundF outOf; rw [List.map_map]; rfl
        rw [e3]
        refine Ev.comp (cl := [("name", C + 1)]) (ρb := [("name", .int n)]) (xs := ps.map pairD) (EvI.list (Ev.name rfl)) ?_ ?_ ?_ ?_ ?_ ?_
        · rfl
        · rfl
        · decide
        · intro x c e'
          obtain ⟨rfl, rfl⟩ := lookup1 e'
          exact ⟨rfl, rfl⟩
        · exact ⟨rfl, .inl rfl, .inl rfl, by decide, ⟨_, rfl, fun _ => rfl⟩, trivial⟩
        · exact LoopOk.one ps pairD (fun q => [("macro", .list (q.2.map .int)), ("key", .int q.1)]) _ _ (fun C _ q hq => ⟨.pair rfl rfl, .inr ⟨_, rfl, Ts.cmp (Ev.name rfl) (Ev.name rfl) op_eq_int⟩, fun _ => Ev.name rfl, fun _ => flat_ints _⟩) (by omega)
      · have : 0 < (foundF ps n).length := List.length_pos_iff.mpr hne
        rw [List.length_map]; omega
    · exact flat_pair _
  · rfl
  · rw [flatCtx, List.all_cons]; rw [flatCtx] at hfp; rw [hfp, flat_ints]; rfl
  · exact flats_map _ flat_pair _
  · rfl
  refine Bx.ite (c := false) (Ts.conv (Ts.cmp (Ev.conv (Ev.comp (cl := []) (ρb := []) (xs := (dictR rules).map bookE) (out := outOf (fun _ => true) (fun q => pairD (sm q)) (dictR rules)) (EvI.list (Ev.name rfl)) ?_ ?_ ?_ nocl trivial ?_) (d' := .list ((meantF ps).map pairD)) ?_) (Ev.name rfl) (op_ne_data ?_ ?_ ?_ ?_ ?_)) ?_) (fun hc => by cases hc) fun _ => ?_
  · rfl
  · rfl
  · decide
  · refine LoopOk.one (dictR rules) bookE (fun q => [("macro", .list (q.2.map wordD)), ("key", wordD q.1)]) (fun _ => true) _ (fun C _ q hq => ⟨.pair rfl rfl, .inl ⟨rfl, rfl⟩, fun _ => ?_, fun _ => flat_pair _⟩) (by omega)
    refine Ev.tuple (Evs.cons (Ev.call (by walk_at "gl") (Evs.cons (Ev.name rfl) Evs.nil) rfl ((fn_numberS (ruleOk_key (hD q hq))).mono (by decide))) (Evs.cons (Ev.conv (Ev.comp (cl := []) (ρb := []) (xs := q.2.map wordD) (out := outOf (fun _ => true) (fun c => .int (same c)) q.2) (EvI.list (Ev.name rfl)) ?_ ?_ ?_ nocl trivial ?_) ?_) Evs.nil)) (by simp)
    · rfl
    · rfl
    · decide
    · exact LoopOk.one q.2 wordD (fun x => [("word", wordD x)]) _ _ (fun C _ x hx => ⟨.name rfl, .inl ⟨rfl, rfl⟩, fun _ => Ev.call (by walk_at "gl") (Evs.cons (Ev.name rfl) Evs.nil) rfl ((fn_numberS (menu_codes ((hD q hq).2.2 x hx))).mono (by decide)), fun _ => by simp [flat]⟩) (by have := (hD q hq).2.1; omega)
    · rw [outOf_all]; show PyData.list _ = .list ((q.2.map same).map .int); rw [List.map_map]; rfl
  · rw [outOf_all, ← hps, ← dict_meant, List.map_map]; rfl
  · simp only [flat]; exact flats_map _ flat_pair _
  · simp only [flat]; exact flats_map _ flat_pair _
  · exact lay_pairs _
  · exact lay_pairs _
  · exact Nat.le_trans (depth_pairs _) (by decide)
  · rw [SeqAt.eqv_refl _ (show (PyData.list _).canLay0 = true from lay_pairs _)]; rfl
  refine Bx.weak (ρ' := [("pairs", psD ps), ("book", .list ((dictR rules).map bookE))]) ?_ ?_
  · exact ctx2 rfl rfl
  -- typed
  refine Bx.assignComp (cl := []) (ρb := []) (xs := ([1, 383, 129] : List Int).map .int) (out := (turnC (dictR rules) 0).map wordD) ?_ ?_ ?_ ?_ nocl trivial ?_ ?_ ?_ ?_ ?_ ?_
  · exact EvI.tuple (Ev.tuple (Evs.int (Evs.int (Evs.int Evs.nil))) (by decide))
  · rfl
  · rfl
  · decide
  · have e : (turnC (dictR rules) 0).map wordD = outOf (fun _ => true) wordD ([1, 383, 129] : List Int) := by rw [outOf_all]; rfl
    rw [e]
    refine LoopOk.one ([1, 383, 129] : List Int) PyData.int (fun c => [("code", .int c)]) (fun _ => true) _ (fun C _ c hc => ⟨.name rfl, .inl ⟨rfl, rfl⟩, fun _ => ?_, fun _ => rfl⟩) (by decide)
    have hb : ∀ c ∈ ([1, 383, 129] : List Int), BitsOk c := by unfold BitsOk; decide +kernel
    exact Ev.conv (Ev.call (by walk_at "gl") (Evs.cons (Ev.name rfl) Evs.nil) rfl ((fn_unctrl_int (hb c hc)).mono (by decide))) (by rw [shown_S]; rfl)
  · rfl
  · exact hfp
  · exact flats_map _ (fun _ => rfl) _
  · rfl
  -- the turns
  refine Bx.forRange 3 (fun i => [("typed", .list ((turnC (dictR rules) i).map wordD)), ("pairs", psD ps), ("book", .list ((dictR rules).map bookE))]) (fun y e q => q) (fun i => ?_) (by walk_at "gl") Ev.int (by decide) rfl (fun s' h' i hi => ?_) ?_
  · rw [flatCtx, List.all_cons]; rw [flatCtx] at hfp; rw [hfp, flat_words]; rfl
  · have hfpt : flatCtx [("turn", .int (i : Nat)), ("typed", .list ((turnC (dictR rules) i).map wordD)), ("pairs", psD ps), ("book", .list ((dictR rules).map bookE))] = true := by
      rw [flatCtx, List.all_cons, List.all_cons]; rw [flatCtx] at hfp; rw [hfp, flat_words]; rfl
    have htl : (turnC (dictR rules) i).length ≤ 12 := Nat.le_trans (turn_len hok i) (by have : 2 ^ i ≤ 2 ^ 2 := Nat.pow_le_pow_right (by decide) (by omega); omega)
    refine Sx.assignComp (cl := [("book", L + 3)]) (ρb := [("book", .list ((dictR rules).map bookE))]) (xs := (turnC (dictR rules) i).map wordD) (out := (turnC (dictR rules) (i + 1)).map wordD) ?_ ?_ ?_ ?_ ?_ ?_ ?_ ?_ ?_ ?_ ?_ ?_
    · exact EvI.list (Ev.name rfl)
    · rfl
    · rfl
    · decide
    · intro x c e'
      obtain ⟨rfl, rfl⟩ := lookup1 e'
      exact ⟨rfl, rfl⟩
    · exact ⟨rfl, .inl rfl, .inl rfl, by decide, ⟨_, rfl, fun _ => rfl⟩, trivial⟩
    · have e : (turnC (dictR rules) (i + 1)).map wordD = (turnC (dictR rules) i).flatMap fun y => (stepC (dictR rules) y).map fun z => wordD z := by
        rw [turnC, List.map_flatMap]
      rw [e]
      refine LoopOk.two (turnC (dictR rules) i) wordD (fun c => [("pressed", wordD c)]) (fun c => stepC (dictR rules) c) wordD (fun z => [("word", wordD z)]) (fun _ z => wordD z) (fun _ _ => rfl) (fun C hC c hc => ⟨.cell rfl rfl ?_ rfl ?_, ?_, fun z hz => ⟨.name rfl, Ev.name rfl⟩⟩) (fun c hc => ⟨flats_map _ (fun _ => rfl) _, fun _ _ => rfl⟩) ?_ ?_
      · exact List.mem_cons_self
      · have h4 : L + 3 < C := hC "book" (L + 3) rfl
        intro y hy
        rcases lookup2 (n := "pressed") (n2 := "book") (c := C + 1) (c2 := L + 3) hy with ⟨h, _⟩ | ⟨_, h⟩
        · exact h
        · exact absurd h (ne_nat (.inr (by show L + 3 < C + 1; exact Nat.lt_succ_of_lt h4)))
      · have hcc : c ∈ codes := menu_codes (turn_menu hok i c hc)
        refine Ev.item_list (k := 0) (xs := (((dictR rules).filter fun q => decide (same q.1 = same c)).map fun q => PyData.list (q.2.map wordD)) ++ [.list [wordD c]]) (d := .list ((stepC (dictR rules) c).map wordD)) (Ev.bin (d1 := .list (((dictR rules).filter fun q => decide (same q.1 = same c)).map fun q => PyData.list (q.2.map wordD))) ?_ (Ev.list (Evs.cons (Ev.list (Evs.cons (Ev.name rfl) Evs.nil) (by simp)) Evs.nil) (by simp)) (op_list_add ?_)) Ev.int (by decide) (by decide) ?_
        · refine Ev.comp (cl := [("pressed", C + 1)]) (ρb := [("pressed", wordD c)]) (xs := (dictR rules).map bookE) (EvI.list (Ev.name rfl)) ?_ ?_ ?_ ?_ ?_ ?_
          · rfl
          · rfl
          · decide
          · intro x c e'
            obtain ⟨rfl, rfl⟩ := lookup1 e'
            exact ⟨rfl, rfl⟩
          · exact ⟨rfl, .inl rfl, .inl rfl, by decide, ⟨_, rfl, fun _ => rfl⟩, trivial⟩
          · refine LoopOk.one (dictR rules) bookE (fun q => [("macro", .list (q.2.map wordD)), ("key", wordD q.1)]) _ _ (fun C _ q hq => ⟨.pair rfl rfl, .inr ⟨_, rfl, ?_⟩, fun _ => Ev.name rfl, fun _ => flat_words _⟩) (by omega)
            have e4 : decide (same q.1 = same c) = decide (S (shownL q.1) = S (shownL c)) := decide_eq_decide.mpr (S_shown (ruleOk_key (hD q hq)) hcc).symm
            rw [e4]
            exact Ts.cmp (Ev.name rfl) (Ev.name rfl) op_eq_str
        · have := List.length_filter_le (fun q : Rule => decide (same q.1 = same c)) (dictR rules)
          rw [List.length_map, List.length_singleton]; omega
        · unfold stepC
          cases (dictR rules).filter fun q => decide (same q.1 = same c) with
          | nil => rfl
          | cons q r => rfl
      · intro c _ z _ k d hk
        have hk' : k = Str.ofString "pressed" := by
          rw [List.lookup_cons] at hk
          split at hk
          · rename_i hx; exact beq_iff_eq.mp hx
          · simp at hk
        subst hk'
        rfl
      · rw [← e, List.length_map]
        have h1 := turn_len hok (i + 1)
        have : 2 ^ (i + 1) ≤ 2 ^ 3 := Nat.pow_le_pow_right (by decide) (by omega)
        omega
    · rfl
    · exact hfpt
    · exact flats_map _ (fun _ => rfl) _
    · rfl
    · exact Sx.weak (ctx_cons rfl (ctx_cons rfl (ctx_cons rfl ctx_nil))) Sx.nil
  -- grown
  refine Bx.assignComp (cl := [("pairs", L + 4)]) (ρb := [("pairs", psD ps)]) (xs := ([1, 383, 129] : List Int).map .int) (out := (([1, 383, 129] : List Int).flatMap (grownF ps 3)).map .int) ?_ ?_ ?_ ?_ ?_ ?_ ?_ ?_ ?_ ?_ ?_ ?_
  · exact EvI.tuple (Ev.tuple (Evs.int (Evs.int (Evs.int Evs.nil))) (by decide))
  · rfl
  · rfl
  · decide
  · intro x c e'
    obtain ⟨rfl, rfl⟩ := lookup1 e'
    exact ⟨rfl, rfl⟩
  · exact ⟨rfl, .inl rfl, .inl rfl, by decide, ⟨_, rfl, fun _ => rfl⟩, trivial⟩
  · have e : (([1, 383, 129] : List Int).flatMap (grownF ps 3)).map PyData.int = ([1, 383, 129] : List Int).flatMap fun y => (grownF ps 3 y).map fun z => PyData.int z := by
      rw [List.map_flatMap]
    rw [e]
    refine LoopOk.two ([1, 383, 129] : List Int) PyData.int (fun c => [("name", .int c)]) (fun c => grownF ps 3 c) PyData.int (fun z => [("last", .int z)]) (fun _ z => .int z) (fun _ _ => rfl) (fun C _ c hc' => ⟨.name rfl, ?_, fun z hz => ⟨.name rfl, Ev.name rfl⟩⟩) (fun c hc' => ⟨flats_map _ (fun _ => by simp [flat]) _, fun _ _ => by simp [flat]⟩) ?_ ?_
    · exact Ev.call (by walk_at "gl") (Evs.cons (Ev.name rfl) (Evs.cons (Ev.name rfl) (Evs.cons (d := .int ((3 : Nat) : Int)) Ev.int Evs.nil))) rfl ((fn_grown (f := 3) (by omega) hpm (by decide) c).mono (by decide))
    · intro c _ z _ k d hk
      have hk' : k = Str.ofString "name" := by
        rw [List.lookup_cons] at hk
        split at hk
        · rename_i hx; exact beq_iff_eq.mp hx
        · simp at hk
      subst hk'
      rfl
    · rw [← e, List.length_map]
      have := flatMap_len (l := ([1, 383, 129] : List Int)) (f := grownF ps 3) (k := 2 ^ 3) fun a _ => grown_len ps hpm 3 a
      have h3 : ([1, 383, 129] : List Int).length = 3 := rfl
      rw [h3] at this
      omega
  · rfl
  · rw [flatCtx, List.all_cons]; rw [flatCtx] at hfp; rw [hfp, flat_words]; rfl
  · exact flats_map _ (fun _ => by simp [flat]) _
  · rfl
  refine Bx.ret (Ev.conv (Ev.cmp (Ev.conv (Ev.comp (cl := []) (ρb := []) (xs := (turnC (dictR rules) 3).map wordD) (out := outOf (fun _ => true) (fun c => .int (same c)) (turnC (dictR rules) 3)) (EvI.list (Ev.name rfl)) ?_ ?_ ?_ nocl trivial ?_) (d' := .list ((([1, 383, 129] : List Int).flatMap (grownF ps 3)).map .int)) ?_) (Ev.name rfl) (op_eq_data ?_ ?_ ?_ ?_ ?_)) ?_)
  · rfl
  · rfl
  · decide
  · exact LoopOk.one (turnC (dictR rules) 3) wordD (fun x => [("word", wordD x)]) _ _ (fun C _ x hx => ⟨.name rfl, .inl ⟨rfl, rfl⟩, fun _ => Ev.call (by walk_at "gl") (Evs.cons (Ev.name rfl) Evs.nil) rfl ((fn_numberS (menu_codes (turn_menu hok 3 x hx))).mono (by decide)), fun _ => by simp [flat]⟩) (by have := turn_len hok 3; omega)
  · rw [outOf_all, ← hps, ← turn3, List.map_map]; rfl
  · exact flat_ints _
  · exact flat_ints _
  · exact lay_ints _
  · exact lay_ints _
  · exact Nat.le_trans (depth_ints _) (by decide)
  · rw [SeqAt.eqv_refl _ (show (PyData.list _).canLay0 = true from lay_ints _)]
end
end Mine

namespace Mine
open PySem PySem.W PyProof.Rows

theorem isAll_ints {w : World} {h : Heap} : ∀ {vs : List Value} {ns : List Int}, IntsAre vs ns → IsAll w h vs (ns.map .int)
  | _, _, .nil => .nil
  | _, _, .cons _ _ r => .cons (.int _ _) (isAll_ints r)
theorem law_holds : PySem.Challenge.rw_mq0136_01.Holds := Mine.hd (by
  intro w s₀ s₁ mg mb G Y fa o pm cd doc dV kV ho hd hcd hD hmg hg args vals as hpre hlay hrd hwl hlo
  have KX := kIn_of Y
  refine Ground.open G ?_
  intro T B D TE TW
  wrow_args hpre hlay hrd hwl hlo
  refine enter_call ?_
  refine codeAny_mono ?_ (fun _ _ g => GoodW.toG g)
  have e0 := mg_of KX T.g (show nsIn (KK w) mainGlobals (Str.ofString "law") = some (some (.ref 104)) from rfl)
  have e1 := e0.symm.trans hmg
  injection e1 with e1
  injection e1 with e1
  subst e1
  rename_i ns _ _ _ _ _ _ _ l us _ hL _ _ _ hI _ hc _
  have hlen : ns.length ≤ 63 := by
    have : ¬ ((63 : Nat) : Int) < (ns.length : Int) := hc
    omega
  have Wd1 : Wd w s₁.heap := ⟨KX, T.nolimit, mg, mb, T.g, T.b, T.builtins⟩
  refine fn_law (w := w) (script := ns) (by omega) callerA s₁ s₁.heap _ _ ⟨by decide, by decide, rfl⟩ Wd1 (Le.refl _) (.cons (.ofList hL (isAll_ints hI)) .nil) fun v s' h' g i => ?_
  rw [i.isBool]
  obtain ⟨H, tk, rfl, hk⟩ := g.keeps
  exact ⟨.inl ⟨_, _, _, rfl, raisesW_false (by wrow_none_raised), readsW_of_reads (.bool true), postW_of (by wrow_shape) (by wtm_val) (by str_meet; first | done | w_fin), fun _ => ⟨List.Pairwise.nil, fun _ h => nomatch h⟩⟩, hk, rfl, hg⟩)
end Mine

open PySem PySem.W PyProof.Rows
set_option maxRecDepth 100000 in
set_option maxHeartbeats 8000000 in
theorem PySem.Challenge.cw_mq0136_01_holds : PySem.Challenge.rw_mq0136_01.Holds := by
  exact Mine.law_holds
