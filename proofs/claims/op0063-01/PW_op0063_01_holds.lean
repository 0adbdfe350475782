import PyProof.Rows.All
import Wide.All
import OpenK.AllK
import Wide.FinOn
import KE.KBytesWalk
import KE.KxBytes
import Lean
import PySem.Challenge.RW_op0063_01
open PySem PySem.W PyProof.Rows
set_option Elab.async false
set_option maxRecDepth 100000
set_option linter.unusedVariables false

namespace Mine

/-! two lists, item by item -/
inductive All2 {α β : Type} (R : α → β → Prop) : List α → List β → Prop
  | nil : All2 R [] []
  | cons {a b l m} : R a b → All2 R l m → All2 R (a :: l) (b :: m)
namespace All2
variable {α β : Type} {R S : α → β → Prop}
theorem length : ∀ {l : List α} {m : List β}, All2 R l m → l.length = m.length
  | _, _, .nil => rfl
  | _, _, .cons _ r => by simp [length r]
theorem imp (f : ∀ a b, R a b → S a b) : ∀ {l : List α} {m : List β}, All2 R l m → All2 S l m
  | _, _, .nil => .nil
  | _, _, .cons x r => .cons (f _ _ x) (imp f r)
theorem append : ∀ {l l' : List α} {m m' : List β}, All2 R l m → All2 R l' m' → All2 R (l ++ l') (m ++ m')
  | _, _, _, _, .nil, y => y
  | _, _, _, _, .cons x r, y => .cons x (append r y)
theorem get : ∀ {l : List α} {m : List β}, All2 R l m → ∀ (i : Nat) (b : β), m[i]? = some b → ∃ a, l[i]? = some a ∧ R a b
  | _, _, .nil, i, b, h => by simp at h
  | _, _, .cons x r, 0, b, h => by simp at h; subst h; exact ⟨_, rfl, x⟩
  | _, _, .cons x r, i + 1, b, h => by
    obtain ⟨a, h1, h2⟩ := get r i b (by simpa using h)
    exact ⟨a, by simpa using h1, h2⟩
theorem get' : ∀ {l : List α} {m : List β}, All2 R l m → ∀ (i : Nat) (a : α), l[i]? = some a → ∃ b, m[i]? = some b ∧ R a b
  | _, _, .nil, i, b, h => by simp at h
  | _, _, .cons x r, 0, b, h => by simp at h; subst h; exact ⟨_, rfl, x⟩
  | _, _, .cons x r, i + 1, b, h => by
    obtain ⟨a, h1, h2⟩ := get' r i b (by simpa using h)
    exact ⟨a, by simpa using h1, h2⟩
theorem set {a : α} {b : β} (h : R a b) : ∀ {l : List α} {m : List β} (i : Nat), All2 R l m → All2 R (l.set i a) (m.set i b)
  | _, _, _, .nil => .nil
  | _, _, 0, .cons _ r => .cons h r
  | _, _, i + 1, .cons x r => .cons x (set h i r)
theorem take : ∀ {l : List α} {m : List β} (i : Nat), All2 R l m → All2 R (l.take i) (m.take i)
  | _, _, 0, _ => by simpa using All2.nil
  | _, _, i + 1, .nil => by simpa using All2.nil
  | _, _, i + 1, .cons x r => .cons x (take i r)
theorem drop : ∀ {l : List α} {m : List β} (i : Nat), All2 R l m → All2 R (l.drop i) (m.drop i)
  | _, _, 0, h => by simpa using h
  | _, _, i + 1, .nil => by simpa using All2.nil
  | _, _, i + 1, .cons x r => by simpa using drop i r
theorem dropLast : ∀ {l : List α} {m : List β}, All2 R l m → All2 R l.dropLast m.dropLast := fun {l m} h => by
  rw [List.dropLast_eq_take, List.dropLast_eq_take, h.length]
  exact h.take _
end All2

/-! what a value says: every list and tuple on the way is a plain one -/
abbrev oL (vs : Array Value) (n : Nat) : Obj := { cls := .type "list", data := .seq vs n }
abbrev oT (vs : Array Value) (n : Nat) : Obj := { cls := .type "tuple", data := .seq vs n }
mutual
inductive RD (h : Heap) : Value → PyData → Prop
  | mkNone : RD h .none .none
  | mkBool (b) : RD h (.bool b) (.bool b)
  | mkInt (i t) : RD h (.int i t) (.int i)
  | mkStr (x t) : RD h (.str x t) (.str x)
  | mkList {a vs n xs} : h.get? a = some (oL vs n) → RDl h vs.toList xs → RD h (.ref a) (.list xs)
  | mkTuple {a vs n xs} : h.get? a = some (oT vs n) → RDl h vs.toList xs → RD h (.ref a) (.tuple xs)
inductive RDl (h : Heap) : List Value → List PyData → Prop
  | nil : RDl h [] []
  | cons {v vs d ds} : RD h v d → RDl h vs ds → RDl h (v :: vs) (d :: ds)
end
def RDs (h : Heap) (vs : List Value) (ds : List PyData) : Prop := All2 (RD h) vs ds
theorem rdl_of {h : Heap} : ∀ {vs : List Value} {ds : List PyData}, RDs h vs ds → RDl h vs ds
  | _, _, .nil => .nil
  | _, _, .cons x r => .cons x (rdl_of r)
theorem of_rdl {h : Heap} : ∀ {vs : List Value} {ds : List PyData}, RDl h vs ds → RDs h vs ds
  | _, _, .nil => .nil
  | _, _, .cons x r => .cons x (of_rdl r)
def Ext (h h' : Heap) : Prop := ∀ b o, h.get? b = some o → h'.get? b = some o
theorem Ext.refl (h : Heap) : Ext h h := fun _ _ e => e
theorem Ext.trans {h h' h'' : Heap} (x : Ext h h') (y : Ext h' h'') : Ext h h'' := fun b o e => y b o (x b o e)
theorem Ext.push (h : Heap) (o : Obj) : Ext h (h.push o) := fun _ _ e => Heap.get?_push_of_some o e
mutual
theorem rd_mono {h h' : Heap} (k : Ext h h') : ∀ {v : Value} {d : PyData}, RD h v d → RD h' v d
  | _, _, .mkNone => .mkNone
  | _, _, .mkBool b => .mkBool b
  | _, _, .mkInt i t => .mkInt i t
  | _, _, .mkStr x t => .mkStr x t
  | _, _, .mkList e r => .mkList (k _ _ e) (rdl_mono k r)
  | _, _, .mkTuple e r => .mkTuple (k _ _ e) (rdl_mono k r)
theorem rdl_mono {h h' : Heap} (k : Ext h h') : ∀ {vs : List Value} {ds : List PyData}, RDl h vs ds → RDl h' vs ds
  | _, _, .nil => .nil
  | _, _, .cons x r => .cons (rd_mono k x) (rdl_mono k r)
end
theorem RD.mono {h h' : Heap} {v : Value} {d : PyData} (x : RD h v d) (k : Ext h h') : RD h' v d := rd_mono k x
theorem RDs.mono {h h' : Heap} {vs : List Value} {ds : List PyData} (x : RDs h vs ds) (k : Ext h h') : RDs h' vs ds := All2.imp (fun _ _ r => r.mono k) x
mutual
theorem RD.reads {h : Heap} : ∀ {v : Value} {d : PyData}, RD h v d → ∃ as, Reads h v d as
  | _, _, .mkNone => ⟨_, .none⟩
  | _, _, .mkBool b => ⟨_, .bool b⟩
  | _, _, .mkInt i t => ⟨_, .int i t⟩
  | _, _, .mkStr x t => ⟨_, .str x t⟩
  | _, _, .mkList e r => let ⟨_, z⟩ := RDl.reads r; ⟨_, .list e rfl rfl z⟩
  | _, _, .mkTuple e r => let ⟨_, z⟩ := RDl.reads r; ⟨_, .tuple e rfl rfl z⟩
theorem RDl.reads {h : Heap} : ∀ {vs : List Value} {ds : List PyData}, RDl h vs ds → ∃ as, ReadsAll h vs ds as
  | _, _, .nil => ⟨_, .nil⟩
  | _, _, .cons x r => let ⟨_, a⟩ := RD.reads x; let ⟨_, b⟩ := RDl.reads r; ⟨_, .cons a b⟩
end
theorem RD.int (h : Heap) (i : Int) (t : Tok) : RD h (.int i t) (.int i) := .mkInt i t
theorem RD.str (h : Heap) (x : Str) (t : Tok) : RD h (.str x t) (.str x) := .mkStr x t
theorem RD.bool (h : Heap) (b : Bool) : RD h (.bool b) (.bool b) := .mkBool b
theorem RD.none (h : Heap) : RD h .none .none := .mkNone
theorem RD.list {h : Heap} {a : Addr} {its : Array Value} {ds : List PyData} (l : h.PlainList a its) (r : RDs h its.toList ds) : RD h (.ref a) (.list ds) := let ⟨_, e⟩ := l; .mkList e (rdl_of r)
def IsTp (h : Heap) (a : Addr) (its : Array Value) : Prop := ∃ n, h.get? a = some (oT its n)
theorem RD.tuple {h : Heap} {a : Addr} {its : Array Value} {ds : List PyData} (l : IsTp h a its) (r : RDs h its.toList ds) : RD h (.ref a) (.tuple ds) := let ⟨_, e⟩ := l; .mkTuple e (rdl_of r)
theorem RD.int_inv {h : Heap} {v : Value} {i : Int} (x : RD h v (.int i)) : ∃ t, v = .int i t := by cases x; exact ⟨_, rfl⟩
theorem RD.str_inv {h : Heap} {v : Value} {x : Str} (r : RD h v (.str x)) : ∃ t, v = .str x t := by cases r; exact ⟨_, rfl⟩
theorem RD.bool_inv {h : Heap} {v : Value} {b : Bool} (r : RD h v (.bool b)) : v = .bool b := by cases r; rfl
theorem RD.none_inv {h : Heap} {v : Value} (r : RD h v .none) : v = .none := by cases r; rfl
theorem RD.list_inv {h : Heap} {v : Value} {ds : List PyData} (r : RD h v (.list ds)) : ∃ a its, v = .ref a ∧ h.PlainList a its ∧ RDs h its.toList ds := by
  cases r with
  | mkList e r => exact ⟨_, _, rfl, ⟨_, e⟩, of_rdl r⟩
theorem RD.tuple_inv {h : Heap} {v : Value} {ds : List PyData} (r : RD h v (.tuple ds)) : ∃ a its, v = .ref a ∧ IsTp h a its ∧ RDs h its.toList ds := by
  cases r with
  | mkTuple e r => exact ⟨_, _, rfl, ⟨_, e⟩, of_rdl r⟩
theorem plain_ext {h h' : Heap} {a : Addr} {its : Array Value} (x : h.PlainList a its) (k : Ext h h') : h'.PlainList a its := let ⟨n, e⟩ := x; ⟨n, k _ _ e⟩
theorem isList_ext {h h' : Heap} {a : Addr} {its : Array Value} (x : h.PlainList a its) (k : Ext h h') : h'.IsList a its := (plain_ext x k).isList
theorem isTp_ext {h h' : Heap} {a : Addr} {its : Array Value} (x : IsTp h a its) (k : Ext h h') : IsTp h' a its := let ⟨n, e⟩ := x; ⟨n, k _ _ e⟩
theorem IsTp.isTup {h : Heap} {a : Addr} {its : Array Value} (x : IsTp h a its) : IsTup h a its := let ⟨n, e⟩ := x; ⟨_, e, rfl, n, rfl⟩

/-! what a step changes -/
structure Chg (D : List Addr) (h h' : Heap) : Prop where
  keep : ∀ b o, b ∉ D → h.get? b = some o → h'.get? b = some o
  live : ∀ b o, h.get? b = some o → ∃ o', h'.get? b = some o'
theorem Chg.refl (D : List Addr) (h : Heap) : Chg D h h := ⟨fun _ _ _ e => e, fun _ o e => ⟨o, e⟩⟩
theorem Chg.trans {D : List Addr} {h h' h'' : Heap} (x : Chg D h h') (y : Chg D h' h'') : Chg D h h'' :=
  ⟨fun b o hb e => y.keep b o hb (x.keep b o hb e), fun b o e => let ⟨o', e'⟩ := x.live b o e; y.live b o' e'⟩
theorem Chg.mono {D D' : List Addr} {h h' : Heap} (x : Chg D h h') (hd : ∀ b ∈ D, b ∈ D') : Chg D' h h' := ⟨fun b o hb e => x.keep b o (fun q => hb (hd b q)) e, x.live⟩
theorem Chg.of_ext {D : List Addr} {h h' : Heap} (x : Ext h h') : Chg D h h' := ⟨fun b o _ e => x b o e, fun b o e => ⟨o, x b o e⟩⟩
theorem Chg.ext {h h' : Heap} (x : Chg [] h h') : Ext h h' := fun b o e => x.keep b o (by simp) e
theorem Chg.of_same {a : Addr} {h h' : Heap} (x : Heap.SameBut a h h') (hl : ∀ o, h.get? a = some o → ∃ o', h'.get? a = some o') : Chg [a] h h' :=
  ⟨fun b o hb e => (x.2 b (by simpa using hb)).trans e, fun b o e => by
    by_cases hb : b = a
    · subst hb; exact hl o e
    · exact ⟨o, (x.2 b hb).trans e⟩⟩
theorem Chg.restrict {D : List Addr} {h h' : Heap} (x : Chg D h h') {D' : List Addr} (hd : ∀ b ∈ D, (∃ o, h.get? b = some o) → b ∈ D') : Chg D' h h' :=
  ⟨fun b o hb e => x.keep b o (fun q => hb (hd b q ⟨o, e⟩)) e, x.live⟩

/-! the frozen part -/
abbrev fz (h : Heap) (mu : List Addr) : Heap := hideAll h mu
theorem fz_get {h : Heap} {mu : List Addr} {b : Addr} {o : Obj} (e : (fz h mu).get? b = some o) : h.get? b = some o ∧ b ∉ mu := by
  refine ⟨of_hideAll _ e, fun q => ?_⟩
  rw [hideAll_none mu q] at e; cases e
theorem fz_of {h : Heap} {mu : List Addr} {b : Addr} {o : Obj} (e : h.get? b = some o) (hb : b ∉ mu) : (fz h mu).get? b = some o := hideAll_get mu e hb
theorem fz_ext (h : Heap) (mu : List Addr) : Ext (fz h mu) h := fun _ _ e => (fz_get e).1
theorem fz_chg {D mu : List Addr} {h h' : Heap} (c : Chg D h h') (hd : ∀ b ∈ D, b ∈ mu) : Ext (fz h mu) (fz h' mu) := fun b o e => by
  obtain ⟨e, hb⟩ := fz_get e
  exact fz_of (c.keep b o (fun q => hb (hd b q)) e) hb
theorem fz_mono {h h' : Heap} (mu : List Addr) (k : Ext h h') : Ext (fz h mu) (fz h' mu) := fun b o e => by
  obtain ⟨e, hb⟩ := fz_get e
  exact fz_of (k b o e) hb
theorem fz_less {h : Heap} {mu mu' : List Addr} (hs : ∀ b ∈ mu', b ∈ mu) : Ext (fz h mu) (fz h mu') := fun b o e => by
  obtain ⟨e, hb⟩ := fz_get e
  exact fz_of e fun q => hb (hs b q)
theorem fz_new {h h' : Heap} {mu nw : List Addr} (k : Ext h h') (hn : ∀ b ∈ nw, h.get? b = none) : Ext (fz h mu) (fz h' (nw ++ mu)) := fun b o e => by
  obtain ⟨e, hb⟩ := fz_get e
  refine fz_of (k b o e) fun q => ?_
  rcases List.mem_append.mp q with q | q
  · rw [hn b q] at e; cases e
  · exact hb q

/-! kinds of values, kept as the frozen part grows -/
structure Ty where
  P : Heap → Value → Prop
  mono : ∀ g g' v, P g v → Ext g g' → P g' v
def dat (d : PyData) : Ty := ⟨fun g v => RD g v d, fun _ _ _ x k => x.mono k⟩
def byt (b : Array UInt8) : Ty := ⟨fun _ v => ∃ t, v = .bytes b t, fun _ _ _ x _ => x⟩
def isv (u : Value) : Ty := ⟨fun _ v => v = u, fun _ _ _ x _ => x⟩
def any : Ty := ⟨fun _ _ => True, fun _ _ _ x _ => x⟩
abbrev tI (i : Int) : Ty := dat (.int i)
abbrev tS (x : Str) : Ty := dat (.str x)
abbrev tB (b : Bool) : Ty := dat (.bool b)
abbrev tL (ds : List PyData) : Ty := dat (.list ds)
abbrev tT (ds : List PyData) : Ty := dat (.tuple ds)

/-! the ground: what stands behind the top -/
structure Bs where
  hb : Heap
  mg : Str → Option Value
  mb : Str → Option Value
  g : hb.Ns mainGlobals mg
  b : hb.Ns builtinsNs mb
  nolim : hb.NoLimit
  bi : ∀ x : Str, x ≠ "__name__" → mb x = bootBuiltins x

structure FD where
  name : Str
  params : Arguments
  body : List Stmt
  scope : Scope

def Bs.HasDef (β : Bs) (d : FD) (f : Addr) : Prop :=
  ∃ o pm cd doc, β.mg d.name = some (.ref f) ∧ β.hb.get? f = some o ∧ o.data = .func (Calls.docDef d.name d.params d.body d.scope pm cd doc) ∧ β.hb.CodeRec cd d.name

/-- the frame at hand -/
structure EnvOk (env : Env) : Prop where
  fn : env.scope.kind = .function
  gl : env.globals = mainGlobals
  bl : env.builtins = builtinsNs

def VarIs (h : Heap) (env : Env) (x : Str) (P : Value → Prop) : Prop :=
  (env.kindOf x = some .local ∧ ∃ m v, h.Ns env.locals m ∧ m x = some v ∧ P v) ∨
  ((env.kindOf x = some .cell ∨ env.kindOf x = some .free) ∧ ∃ c v, env.cells.lookup x = some c ∧ h.IsCell c (some v) ∧ P v)

abbrev Gam := List (Str × Ty)
abbrev Led := List (Addr × List PyData)
def own (env : Env) (N : Led) : List Addr := env.locals :: env.cells.map (·.2) ++ N.map (·.1)

structure Sat (β : Bs) (env : Env) (Γ : Gam) (N : Led) (mu : List Addr) (h : Heap) : Prop where
  base : Ext β.hb h
  low : ∀ b ∈ own env N, β.hb.get? b = none
  ok : EnvOk env
  vars : ∀ x t, Γ.lookup x = some t → VarIs h env x (t.P (fz h mu))
  frame : ∃ m, h.Ns env.locals m
  cells : ∀ x c, (x, c) ∈ env.cells → ∃ v, h.IsCell c v
  lists : ∀ p ∈ N, ∃ its, h.PlainList p.1 its ∧ RDs (fz h mu) its.toList p.2
  hid : ∀ b ∈ own env N, b ∈ mu
  ndup : (own env N).Nodup
  live : ∀ b ∈ mu, ∃ o, h.get? b = some o
end Mine

namespace Mine

theorem ns_unique {h : Heap} {a : Addr} {m m' : Str → Option Value} (x : h.Ns a m) (y : h.Ns a m') : m = m' := by
  obtain ⟨o, es, ep, ho, hd, _, hm⟩ := x
  obtain ⟨o', es', ep', ho', hd', _, hm'⟩ := y
  rw [ho] at ho'; cases ho'
  rw [hd] at hd'; cases hd'
  funext n
  rw [← hm n, hm' n]

theorem own_mem {env : Env} {N : Led} {b : Addr} : b ∈ own env N ↔ b = env.locals ∨ (∃ x, (x, b) ∈ env.cells) ∨ ∃ ds, (b, ds) ∈ N := by
  unfold own
  constructor
  · intro h
    rcases List.mem_append.mp h with h | h
    · rcases List.mem_cons.mp h with h | h
      · exact .inl h
      · obtain ⟨p, hp, rfl⟩ := List.mem_map.mp h
        exact .inr (.inl ⟨p.1, hp⟩)
    · obtain ⟨p, hp, rfl⟩ := List.mem_map.mp h
      exact .inr (.inr ⟨p.2, hp⟩)
  · rintro (rfl | ⟨x, hx⟩ | ⟨ds, hd⟩)
    · simp
    · exact List.mem_append_left _ (List.mem_cons_of_mem _ (List.mem_map.mpr ⟨_, hx, rfl⟩))
    · exact List.mem_append_right _ (List.mem_map.mpr ⟨_, hd, rfl⟩)

theorem own_locals {env : Env} {N : Led} : env.locals ∈ own env N := own_mem.mpr (.inl rfl)
theorem own_cell {env : Env} {N : Led} {x : Str} {c : Addr} (h : (x, c) ∈ env.cells) : c ∈ own env N := own_mem.mpr (.inr (.inl ⟨x, h⟩))
theorem own_list {env : Env} {N : Led} {b : Addr} {ds : List PyData} (h : (b, ds) ∈ N) : b ∈ own env N := own_mem.mpr (.inr (.inr ⟨ds, h⟩))

variable {β : Bs} {env : Env} {Γ : Gam} {N : Led} {mu : List Addr} {h h' : Heap}

theorem cell_ne_locals (hd : (own env N).Nodup) {x : Str} {c : Addr} (hx : (x, c) ∈ env.cells) : c ≠ env.locals := fun q => by
  unfold own at hd
  have := (List.nodup_append.mp hd).1
  have := (List.nodup_cons.mp this).1
  exact this (List.mem_map.mpr ⟨_, hx, q⟩)
theorem list_ne_locals (hd : (own env N).Nodup) {b : Addr} {ds : List PyData} (hx : (b, ds) ∈ N) : b ≠ env.locals := fun q => by
  unfold own at hd
  have := (List.nodup_append.mp hd).2.2 env.locals (by simp) b (List.mem_map.mpr ⟨_, hx, rfl⟩)
  exact this q.symm
theorem list_ne_cell (hd : (own env N).Nodup) {b : Addr} {ds : List PyData} (hx : (b, ds) ∈ N) {x : Str} {c : Addr} (hc : (x, c) ∈ env.cells) : b ≠ c := fun q => by
  unfold own at hd
  have := (List.nodup_append.mp hd).2.2 c (List.mem_cons_of_mem _ (List.mem_map.mpr ⟨_, hc, rfl⟩)) b (List.mem_map.mpr ⟨_, hx, rfl⟩)
  exact this q.symm
theorem nodup_addr : ∀ {cs : List (Str × Addr)}, (cs.map (·.2)).Nodup → ∀ {x y : Str} {c : Addr}, (x, c) ∈ cs → (y, c) ∈ cs → x = y
  | p :: r, hd, x, y, c, hx, hy => by
    rw [List.map_cons, List.nodup_cons] at hd
    rcases List.mem_cons.mp hx with e | hx <;> rcases List.mem_cons.mp hy with e' | hy
    · rw [← e'] at e; exact (Prod.mk.inj e).1
    · exact absurd (List.mem_map.mpr ⟨_, hy, by rw [← e]⟩) hd.1
    · exact absurd (List.mem_map.mpr ⟨_, hx, by rw [← e']⟩) hd.1
    · exact nodup_addr hd.2 hx hy
theorem cells_nodup (hd : (own env N).Nodup) : (env.cells.map (·.2)).Nodup := by
  unfold own at hd
  exact (List.nodup_cons.mp (List.nodup_append.mp hd).1).2
theorem lists_nodup (hd : (own env N).Nodup) : (N.map (·.1)).Nodup := by
  unfold own at hd
  exact (List.nodup_append.mp hd).2.1

theorem VarIs.imp {x : Str} {P P' : Value → Prop} (v : VarIs h env x P) (f : ∀ u, P u → P' u) : VarIs h env x P' := by
  rcases v with ⟨k, m, u, a, b, c⟩ | ⟨k, a, u, b, c, d⟩
  · exact .inl ⟨k, m, u, a, b, f _ c⟩
  · exact .inr ⟨k, a, u, b, c, f _ d⟩
theorem VarIs.chg {D : List Addr} {x : Str} {P : Value → Prop} (v : VarIs h env x P) (c : Chg D h h') (hd : ∀ b ∈ D, b ∉ own env []) : VarIs h' env x P := by
  rcases v with ⟨k, m, u, a, b, e⟩ | ⟨k, q, u, b, e, d⟩
  · refine .inl ⟨k, m, u, ?_, b, e⟩
    obtain ⟨o, es, ep, ho, r⟩ := a
    exact ⟨o, es, ep, c.keep _ _ (fun z => hd _ z own_locals) ho, r⟩
  · refine .inr ⟨k, q, u, b, ?_, d⟩
    obtain ⟨o, ho, r⟩ := e
    exact ⟨o, c.keep _ _ (fun z => hd _ z (own_cell (mem_of_lookup b))) ho, r⟩
theorem own_nil_sub {b : Addr} (hb : b ∈ own env []) : b ∈ own env N := by
  rcases own_mem.mp hb with h | h | ⟨_, h⟩
  · exact own_mem.mpr (.inl h)
  · exact own_mem.mpr (.inr (.inl h))
  · cases h

theorem ns_chg {D : List Addr} {a : Addr} {m : Str → Option Value} (x : h.Ns a m) (c : Chg D h h') (hd : a ∉ D) : h'.Ns a m := by
  obtain ⟨o, es, ep, ho, r⟩ := x
  exact ⟨o, es, ep, c.keep _ _ hd ho, r⟩
theorem plain_chg {D : List Addr} {a : Addr} {its : Array Value} (x : h.PlainList a its) (c : Chg D h h') (hd : a ∉ D) : h'.PlainList a its := let ⟨n, e⟩ := x; ⟨n, c.keep _ _ hd e⟩
theorem isList_chg {D : List Addr} {a : Addr} {its : Array Value} (x : h.IsList a its) (c : Chg D h h') (hd : a ∉ D) : h'.IsList a its := by
  obtain ⟨o, ho, r⟩ := x
  exact ⟨o, c.keep _ _ hd ho, r⟩
theorem isCell_chg {D : List Addr} {a : Addr} {v : Option Value} (x : h.IsCell a v) (c : Chg D h h') (hd : a ∉ D) : h'.IsCell a v := by
  obtain ⟨o, ho, r⟩ := x
  exact ⟨o, c.keep _ _ hd ho, r⟩

/-- a step that leaves alone what the frame holds -/
theorem Sat.chg {D : List Addr} (S : Sat β env Γ N mu h) (c : Chg D h h') (hd : ∀ b ∈ D, b ∈ mu) (ho : ∀ b ∈ D, b ∉ own env N) (hb : ∀ b ∈ D, β.hb.get? b = none) : Sat β env Γ N mu h' where
  base := fun b o e => c.keep b o (fun q => by rw [hb b q] at e; cases e) (S.base b o e)
  low := S.low
  ok := S.ok
  vars := fun x t e => ((S.vars x t e).chg c fun b hb q => ho b hb (own_nil_sub q)).imp fun u hu => t.mono _ _ u hu (fz_chg c hd)
  frame := let ⟨m, hm⟩ := S.frame; ⟨m, ns_chg hm c fun q => ho _ q own_locals⟩
  cells := fun x a e => let ⟨v, hv⟩ := S.cells x a e; ⟨v, isCell_chg hv c fun q => ho _ q (own_cell e)⟩
  lists := fun p hp => let ⟨its, h1, h2⟩ := S.lists p hp; ⟨its, plain_chg h1 c fun q => ho _ q (own_list hp), h2.mono (fz_chg c hd)⟩
  hid := S.hid
  ndup := S.ndup
  live := fun b hb => let ⟨o, e⟩ := S.live b hb; c.live b o e
theorem Sat.ext (S : Sat β env Γ N mu h) (k : Ext h h') : Sat β env Γ N mu h' :=
  S.chg (D := []) (Chg.of_ext k) (by simp) (by simp) (by simp)
def Sub : Gam → Gam → Prop
  | [], _ => True
  | p :: r, Γ => Γ.lookup p.1 = some p.2 ∧ Sub r Γ
theorem Sub.look : ∀ {Γ' Γ : Gam}, Sub Γ' Γ → ∀ {x : Str} {t : Ty}, Γ'.lookup x = some t → Γ.lookup x = some t
  | [], _, _, x, t, e => by simp at e
  | (y, u) :: r, Γ, s, x, t, e => by
    rw [List.lookup_cons] at e
    cases hb : x == y with
    | true =>
      rw [hb] at e
      have : x = y := beq_iff_eq.mp hb
      subst this
      simp only [Option.some.injEq] at e
      subst e
      exact s.1
    | false => rw [hb] at e; exact Sub.look s.2 e
theorem Sat.sub {Γ' : Gam} (S : Sat β env Γ N mu h) (s : Sub Γ' Γ) : Sat β env Γ' N mu h :=
  ⟨S.base, S.low, S.ok, fun x t e => S.vars x t (s.look e), S.frame, S.cells, S.lists, S.hid, S.ndup, S.live⟩
/-- fewer hidden -/
theorem Sat.less {mu' : List Addr} (S : Sat β env Γ N mu h) (hs : ∀ b ∈ mu', b ∈ mu) (hh : ∀ b ∈ own env N, b ∈ mu') : Sat β env Γ N mu' h :=
  ⟨S.base, S.low, S.ok, fun x t e => (S.vars x t e).imp fun u hu => t.mono _ _ u hu (fz_less hs), S.frame, S.cells, fun p hp => let ⟨its, h1, h2⟩ := S.lists p hp; ⟨its, h1, h2.mono (fz_less hs)⟩, hh, S.ndup, fun b hb => S.live b (hs b hb)⟩
theorem Sat.dropN {N' : Led} (S : Sat β env Γ N mu h) (hs : N'.Sublist N) : Sat β env Γ N' mu h := by
  have hm : ∀ p ∈ N', p ∈ N := fun p hp => hs.subset hp
  have ho : ∀ b ∈ own env N', b ∈ own env N := fun b hb => by
    rcases own_mem.mp hb with h | h | ⟨ds, h⟩
    · exact own_mem.mpr (.inl h)
    · exact own_mem.mpr (.inr (.inl h))
    · exact own_list (hm _ h)
  refine ⟨S.base, fun b hb => S.low b (ho b hb), S.ok, S.vars, S.frame, S.cells, fun p hp => S.lists p (hm p hp), fun b hb => S.hid b (ho b hb), ?_, S.live⟩
  have := S.ndup
  unfold own at this ⊢
  exact this.sublist (List.Sublist.append_left (hs.map _) _)
/-- more hidden: what is new and not of the frame -/
theorem Sat.more {nw : List Addr} (S : Sat β env Γ N mu h) (k : Ext h h') (hn : ∀ b ∈ nw, h.get? b = none) (hl : ∀ b ∈ nw, ∃ o, h'.get? b = some o) : Sat β env Γ N (nw ++ mu) h' :=
  have S' := S.ext k
  ⟨S'.base, S.low, S.ok, fun x t e => ((S.vars x t e).chg (Chg.of_ext (D := []) k) (by simp)).imp fun u hu => t.mono _ _ u hu (fz_new k hn), S'.frame, S'.cells,
    fun p hp => let ⟨its, h1, h2⟩ := S.lists p hp; ⟨its, plain_ext h1 k, h2.mono (fz_new k hn)⟩, fun b hb => List.mem_append_right _ (S.hid b hb), S.ndup,
    fun b hb => (List.mem_append.mp hb).elim (hl b) fun q => S'.live b q⟩

theorem ns_live {a : Addr} {m : Str → Option Value} (x : h.Ns a m) : ∃ o, h.get? a = some o := let ⟨o, _, _, e, _⟩ := x; ⟨o, e⟩

theorem Sat.store_local {x : Str} {t : Ty} {v : Value} {m : Str → Option Value} (S : Sat β env Γ N mu h) (hk : env.kindOf x = some .local) (hm : h.Ns env.locals m) (hn : h'.Ns env.locals (fun y => if y = x then some v else m y)) (hs : Heap.SameBut env.locals h h') (hv : t.P (fz h mu) v) :
    Sat β env ((x, t) :: Γ) N mu h' ∧ Chg [env.locals] h h' := by
  have c : Chg [env.locals] h h' := Chg.of_same hs fun _ _ => ns_live hn
  have hmu : ∀ b ∈ [env.locals], b ∈ mu := fun b hb => by rw [List.mem_singleton.mp hb]; exact S.hid _ own_locals
  have k := fz_chg c hmu
  have nb : β.hb.get? env.locals = none := S.low _ own_locals
  refine ⟨⟨fun b o e => c.keep b o (fun q => by rw [List.mem_singleton.mp q, nb] at e; cases e) (S.base b o e), S.low, S.ok, fun y u e => ?_, ⟨_, hn⟩, fun y a e => let ⟨v, hv⟩ := S.cells y a e; ⟨v, isCell_chg hv c fun q => cell_ne_locals S.ndup e (List.mem_singleton.mp q)⟩,
    fun p hp => let ⟨its, h1, h2⟩ := S.lists p hp; ⟨its, plain_chg h1 c fun q => list_ne_locals S.ndup hp (List.mem_singleton.mp q), h2.mono k⟩, S.hid, S.ndup, fun b hb => let ⟨o, e⟩ := S.live b hb; c.live b o e⟩, c⟩
  rw [List.lookup_cons] at e
  cases hb : y == x with
  | true =>
    rw [hb] at e
    have : y = x := beq_iff_eq.mp hb
    subst this
    simp only [Option.some.injEq] at e
    subst e
    exact .inl ⟨hk, _, v, hn, by simp, t.mono _ _ v hv k⟩
  | false =>
    rw [hb] at e
    have hne : y ≠ x := fun q => by subst q; simp at hb
    have V := S.vars y u e
    rcases V with ⟨ky, m', w, a, b, hw⟩ | ⟨ky, q, w, a, b, hw⟩
    · have := ns_unique a hm
      subst this
      exact .inl ⟨ky, _, w, hn, by simp [hne, b], u.mono _ _ w hw k⟩
    · exact .inr ⟨ky, q, w, a, isCell_chg b c fun z => cell_ne_locals S.ndup (mem_of_lookup a) (List.mem_singleton.mp z), u.mono _ _ w hw k⟩

theorem Sat.store_cell {x : Str} {t : Ty} {v : Value} {a : Addr} (S : Sat β env Γ N mu h) (hk : env.kindOf x = some .cell) (ha : env.cells.lookup x = some a) (hn : h'.IsCell a (some v)) (hs : Heap.SameBut a h h') (hv : t.P (fz h mu) v) :
    Sat β env ((x, t) :: Γ) N mu h' ∧ Chg [a] h h' := by
  have hmem := mem_of_lookup ha
  have c : Chg [a] h h' := Chg.of_same hs fun _ _ => let ⟨o, e, _⟩ := hn; ⟨o, e⟩
  have hmu : ∀ b ∈ [a], b ∈ mu := fun b hb => by rw [List.mem_singleton.mp hb]; exact S.hid _ (own_cell hmem)
  have k := fz_chg c hmu
  have nb : β.hb.get? a = none := S.low _ (own_cell hmem)
  have hL : env.locals ∉ [a] := fun q => cell_ne_locals S.ndup hmem (List.mem_singleton.mp q).symm
  refine ⟨⟨fun b o e => c.keep b o (fun q => by rw [List.mem_singleton.mp q, nb] at e; cases e) (S.base b o e), S.low, S.ok, fun y u e => ?_, let ⟨m, hm⟩ := S.frame; ⟨m, ns_chg hm c hL⟩, fun y b e => ?_,
    fun p hp => let ⟨its, h1, h2⟩ := S.lists p hp; ⟨its, plain_chg h1 c fun q => list_ne_cell S.ndup hp hmem (List.mem_singleton.mp q), h2.mono k⟩, S.hid, S.ndup, fun b hb => let ⟨o, e⟩ := S.live b hb; c.live b o e⟩, c⟩
  · rw [List.lookup_cons] at e
    cases hb : y == x with
    | true =>
      rw [hb] at e
      have : y = x := beq_iff_eq.mp hb
      subst this
      simp only [Option.some.injEq] at e
      subst e
      exact .inr ⟨.inl hk, a, v, ha, hn, t.mono _ _ v hv k⟩
    | false =>
      rw [hb] at e
      have hne : y ≠ x := fun q => by subst q; simp at hb
      rcases S.vars y u e with ⟨ky, m', w, p, b, hw⟩ | ⟨ky, q, w, p, b, hw⟩
      · exact .inl ⟨ky, m', w, ns_chg p c hL, b, u.mono _ _ w hw k⟩
      · refine .inr ⟨ky, q, w, p, isCell_chg b c fun z => hne ?_, u.mono _ _ w hw k⟩
        have := mem_of_lookup p
        rw [List.mem_singleton.mp z] at this
        exact nodup_addr (cells_nodup S.ndup) this hmem
  · by_cases q : b = a
    · subst q; exact ⟨_, hn⟩
    · obtain ⟨v, hv⟩ := S.cells y b e
      exact ⟨v, isCell_chg hv c fun z => q (List.mem_singleton.mp z)⟩
end Mine

namespace Mine

section
variable {β : Bs} {env : Env} {Γ : Gam} {N : Led} {mu : List Addr} {h h' : Heap}
theorem map_set_fst : ∀ {N : Led} {i : Nat} {a : Addr} {ds ds' : List PyData}, N[i]? = some (a, ds) → (N.set i (a, ds')).map (·.1) = N.map (·.1)
  | [], i, _, _, _, e => by simp at e
  | p :: r, 0, a, ds, ds', e => by simp at e; subst e; rfl
  | p :: r, i + 1, a, ds, ds', e => by simp only [List.set_cons_succ, List.map_cons, map_set_fst (N := r) (by simpa using e)]
theorem own_set {i : Nat} {a : Addr} {ds ds' : List PyData} (e : N[i]? = some (a, ds)) : own env (N.set i (a, ds')) = own env N := by
  unfold own; rw [map_set_fst e]
/-- a list of the ledger is changed -/
theorem Sat.setList {i : Nat} {a : Addr} {ds ds' : List PyData} {its : Array Value} (S : Sat β env Γ N mu h) (e : N[i]? = some (a, ds)) (c : Chg [a] h h') (hl : h'.PlainList a its) (hr : RDs (fz h' mu) its.toList ds') :
    Sat β env Γ (N.set i (a, ds')) mu h' := by
  have hm : (a, ds) ∈ N := List.mem_of_getElem? e
  have hmu : ∀ b ∈ [a], b ∈ mu := fun b hb => by rw [List.mem_singleton.mp hb]; exact S.hid _ (own_list hm)
  have k := fz_chg c hmu
  have nb : β.hb.get? a = none := S.low _ (own_list hm)
  have nL : ∀ b ∈ [a], b ∉ own env [] := fun b hb q => by
    rw [List.mem_singleton.mp hb] at q
    rcases own_mem.mp q with q | ⟨x, q⟩ | ⟨_, q⟩
    · exact list_ne_locals S.ndup hm q
    · exact list_ne_cell S.ndup hm q rfl
    · cases q
  refine ⟨fun b o z => c.keep b o (fun q => by rw [List.mem_singleton.mp q, nb] at z; cases z) (S.base b o z), by rw [own_set e]; exact S.low, S.ok,
    fun x t z => ((S.vars x t z).chg c nL).imp fun u hu => t.mono _ _ u hu k, let ⟨m, hm⟩ := S.frame; ⟨m, ns_chg hm c fun q => nL _ q own_locals⟩,
    fun x b z => let ⟨v, hv⟩ := S.cells x b z; ⟨v, isCell_chg hv c fun q => nL _ q (own_cell z)⟩, fun p hp => ?_, by rw [own_set e]; exact S.hid, by rw [own_set e]; exact S.ndup, fun b hb => let ⟨o, z⟩ := S.live b hb; c.live b o z⟩
  obtain ⟨j, hj, rfl⟩ := List.mem_iff_getElem.mp hp
  rw [List.length_set] at hj
  by_cases q : i = j
  · subst q
    rw [List.getElem_set_self]
    exact ⟨its, hl, hr⟩
  · rw [List.getElem_set_ne q]
    obtain ⟨its', h1, h2⟩ := S.lists _ (List.getElem_mem hj)
    refine ⟨its', plain_chg h1 c fun z => ?_, h2.mono k⟩
    have hn := lists_nodup S.ndup
    have e1 : (N.map (·.1))[j]'(by simpa using hj) = a := by simpa using List.mem_singleton.mp z
    have hi : i < N.length := (List.getElem?_eq_some_iff.mp e).1
    have e2 : (N.map (·.1))[i]'(by simpa using hi) = a := by
      have := (List.getElem?_eq_some_iff.mp e).2
      simp [this]
    have hp := List.pairwise_iff_getElem.mp hn
    rcases Nat.lt_or_gt_of_ne q with q | q
    · exact hp i j (by simpa using hi) (by simpa using hj) q (e2.trans e1.symm)
    · exact hp j i (by simpa using hj) (by simpa using hi) q (e1.trans e2.symm)
/-- a new list is taken into the ledger -/
theorem Sat.addList {a : Addr} {ds : List PyData} {its : Array Value} (S : Sat β env Γ N mu h) (k : Ext h h') (hn : h.get? a = none) (hl : h'.PlainList a its) (hr : RDs (fz h' ([a] ++ mu)) its.toList ds) :
    Sat β env Γ ((a, ds) :: N) ([a] ++ mu) h' := by
  have S' := S.more (nw := [a]) k (fun b hb => by rw [List.mem_singleton.mp hb]; exact hn) (fun b hb => by rw [List.mem_singleton.mp hb]; obtain ⟨_, z⟩ := hl; exact ⟨_, z⟩)
  have hb : β.hb.get? a = none := by
    cases q : β.hb.get? a with
    | none => rfl
    | some o => have := S.base _ _ q; rw [hn] at this; cases this
  have hno : a ∉ own env N := fun q => by obtain ⟨o, z⟩ := S.live a (S.hid a q); rw [hn] at z; cases z
  have hsub : ∀ b ∈ own env ((a, ds) :: N), b = a ∨ b ∈ own env N := fun b hb => by
    rcases own_mem.mp hb with q | q | ⟨_, q⟩
    · exact .inr (own_mem.mpr (.inl q))
    · exact .inr (own_mem.mpr (.inr (.inl q)))
    · rcases List.mem_cons.mp q with q | q
      · cases q; exact .inl rfl
      · exact .inr (own_list q)
  refine ⟨S'.base, fun b hb' => (hsub b hb').elim (fun q => q ▸ hb) (S.low b), S.ok, S'.vars, S'.frame, S'.cells, fun p hp => ?_, fun b hb' => ?_, ?_, S'.live⟩
  · rcases List.mem_cons.mp hp with rfl | hp
    · exact ⟨its, hl, hr⟩
    · exact S'.lists p hp
  · rcases hsub b hb' with rfl | q
    · simp
    · exact S'.hid b q
  · have := S.ndup
    unfold own at this hno ⊢
    rw [List.map_cons]
    obtain ⟨h1, h2, h3⟩ := List.nodup_append.mp this
    refine List.nodup_append.mpr ⟨h1, List.nodup_cons.mpr ⟨fun q => hno (List.mem_append_right _ q), h2⟩, fun x hx y hy => ?_⟩
    rcases List.mem_cons.mp hy with rfl | hy
    · rintro rfl; exact hno (List.mem_append_left _ hx)
    · exact h3 x hx y hy
end

/-! the judgements -/
structure Wd where
  prog : Program
  w : World
  β : Bs
abbrev Wd.M (K : Wd) : Model := model K.prog K.w
abbrev Sx (s : Shared) (h : Heap) (tk : Nat) : Shared := { s with heap := h, toks := tk }
abbrev no : Value → Shared → Prop := fun _ _ => False

structure AOk (k : Nat) (A : Around) : Prop where
  h : A.handled = none
  d : A.depth + k < recursionLimit
  u : A.units + 4 * k + 200 < cLine
theorem AOk.down {k j : Nat} {A : Around} (x : AOk k A) (hj : j ≤ k) : AOk j A := ⟨x.h, by have := x.d; omega, by have := x.u; omega⟩
theorem AOk.deeper {k : Nat} {A : Around} {env : Env} (x : AOk (k + 1) A) : AOk k (A.deeper env) :=
  ⟨x.h, by have := x.d; show A.depth + 1 + k < _; omega, by have := x.u; show A.units + 3 + 4 * k + 200 < _; omega⟩
theorem AOk.room {k : Nat} {A : Around} (x : AOk k A) : A.depth < recursionLimit := by have := x.d; omega
theorem AOk.units {k : Nat} {A : Around} (x : AOk k A) : A.units + 64 < cLine := by have := x.u; omega

/-- the value that comes: of kind t; all that stood stands -/
def Gives (K : Wd) (A : Around) (m : Sem Value) (mu : List Addr) (t : Ty) (s : Shared) : Prop :=
  wpAny K.M A m (fun v s' => ∃ h' tk, s' = Sx s h' tk ∧ Ext s.heap h' ∧ t.P (fz h' mu) v) no s
def Ev (K : Wd) (A : Around) (env : Env) (Γ : Gam) (N : Led) (e : Expr) (t : Ty) : Prop :=
  ∀ mu s, Sat K.β env Γ N mu s.heap → Gives K A (eval e env) mu t s
/-- lists of the ledger may change -/
def EvM (K : Wd) (A : Around) (env : Env) (Γ : Gam) (N : Led) (e : Expr) (t : Ty) (N' : Led) : Prop :=
  ∀ mu s, Sat K.β env Γ N mu s.heap → wpAny K.M A (eval e env) (fun v s' => ∃ h' tk, s' = Sx s h' tk ∧ Chg (N.map (·.1)) s.heap h' ∧ Sat K.β env Γ N' mu h' ∧ t.P (fz h' mu) v) no s
def Tr (K : Wd) (A : Around) (env : Env) (Γ : Gam) (N : Led) (e : Expr) (b : Bool) : Prop :=
  ∀ mu s, Sat K.β env Γ N mu s.heap → wpAny K.M A (isTrue e env (eval e env)) (fun c s' => c = b ∧ ∃ h' tk, s' = Sx s h' tk ∧ Ext s.heap h') no s
def Evs (K : Wd) (A : Around) (env : Env) (Γ : Gam) (N : Led) (es : List Expr) (ts : List Ty) : Prop :=
  ∀ pos mu s, Sat K.β env Γ N mu s.heap → wpAny K.M A (spliced (backTo pos (starEach es env))) (fun vs s' => ∃ h' tk, s' = Sx s h' tk ∧ Ext s.heap h' ∧ All2 (fun v t => t.P (fz h' mu) v) vs ts) no s

section
variable {K : Wd} {A : Around} {env : Env} {Γ : Gam} {N : Led} {mu : List Addr} {s : Shared}
theorem Gives.use {m : Sem Value} {t : Ty} {Q : Value → Shared → Prop} {E : Value → Shared → Prop} (g : Gives K A m mu t s) (k : ∀ v h' tk, Ext s.heap h' → t.P (fz h' mu) v → Q v (Sx s h' tk)) : wpAny K.M A m Q E s :=
  wpAny_mono g (by rintro v s' ⟨h', tk, rfl, x, y⟩; exact k v h' tk x y) fun _ _ f => f.elim
theorem Gives.of {m : Sem Value} {t : Ty} (g : ∀ Q : Value → Shared → Prop, (∀ v h' tk, Ext s.heap h' → t.P (fz h' mu) v → Q v (Sx s h' tk)) → wpAny K.M A m Q no s) : Gives K A m mu t s :=
  g _ fun v h' tk x y => ⟨h', tk, rfl, x, y⟩
theorem Ev.use {e : Expr} {t : Ty} {Q : Value → Shared → Prop} {E : Value → Shared → Prop} (g : Ev K A env Γ N e t) (S : Sat K.β env Γ N mu s.heap) (k : ∀ v h' tk, Ext s.heap h' → t.P (fz h' mu) v → Q v (Sx s h' tk)) : wpAny K.M A (eval e env) Q E s :=
  (g mu s S).use k
theorem Ev.m {e : Expr} {t : Ty} (g : Ev K A env Γ N e t) : EvM K A env Γ N e t N := fun mu s S =>
  wpAny_mono (g mu s S) (by rintro v s' ⟨h', tk, rfl, x, y⟩; exact ⟨h', tk, rfl, Chg.of_ext x, S.ext x, y⟩) fun _ _ f => f
theorem EvM.use {e : Expr} {t : Ty} {N' : Led} {Q : Value → Shared → Prop} {E : Value → Shared → Prop} (g : EvM K A env Γ N e t N') (S : Sat K.β env Γ N mu s.heap) (k : ∀ v h' tk, Chg (N.map (·.1)) s.heap h' → Sat K.β env Γ N' mu h' → t.P (fz h' mu) v → Q v (Sx s h' tk)) : wpAny K.M A (eval e env) Q E s :=
  wpAny_mono (g mu s S) (by rintro v s' ⟨h', tk, rfl, x, y, z⟩; exact k v h' tk x y z) fun _ _ f => f.elim
theorem Tr.use {e : Expr} {b : Bool} {Q : Bool → Shared → Prop} {E : Value → Shared → Prop} (g : Tr K A env Γ N e b) (S : Sat K.β env Γ N mu s.heap) (k : ∀ h' tk, Ext s.heap h' → Q b (Sx s h' tk)) : wpAny K.M A (isTrue e env (eval e env)) Q E s :=
  wpAny_mono (g mu s S) (by rintro c s' ⟨rfl, h', tk, rfl, x⟩; exact k h' tk x) fun _ _ f => f.elim
theorem Evs.use {es : List Expr} {ts : List Ty} {pos : Pos} {Q : List Value → Shared → Prop} {E : Value → Shared → Prop} (g : Evs K A env Γ N es ts) (S : Sat K.β env Γ N mu s.heap) (k : ∀ vs h' tk, Ext s.heap h' → All2 (fun v t => t.P (fz h' mu) v) vs ts → Q vs (Sx s h' tk)) :
    wpAny K.M A (spliced (backTo pos (starEach es env))) Q E s :=
  wpAny_mono (g pos mu s S) (by rintro v s' ⟨h', tk, rfl, x, y⟩; exact k v h' tk x y) fun _ _ f => f.elim
theorem Evs.nil : Evs K A env Γ N [] [] := fun pos mu s _ => wpAny_items_nil ⟨s.heap, s.toks, rfl, Ext.refl _, .nil⟩
theorem Evs.cons {e : Expr} {es : List Expr} {t : Ty} {ts : List Ty} (x : Ev K A env Γ N e t) (r : Evs K A env Γ N es ts)
    (he : starEach (e :: es) env = (false, eval e env) :: starEach es env := by rfl) : Evs K A env Γ N (e :: es) (t :: ts) := fun pos mu s S =>
  wpAny_items_cons (x.use S fun v h' tk k y => (r.use (s := Sx s h' tk) (S.ext k) fun vs h2 tk2 k2 y2 => ⟨h2, tk2, rfl, k.trans k2, .cons (t.mono _ _ _ y (fz_mono mu k2)) y2⟩)) he

/-! names -/
theorem load_var {x : Str} {P : Value → Prop} {Q : Value → Shared → Prop} {E : Value → Shared → Prop} (hk : env.scope.kind = .function) (V : VarIs s.heap env x P) (k : ∀ v, P v → Q v s)
    (hn : (x == ("__classdict__" : Str)) = false := by decide) : wpAny K.M A (loadName env x) Q E s := by
  rcases V with ⟨kx, m, v, a, b, c⟩ | ⟨kx, q, v, a, b, c⟩
  · exact wpAny_loadName_local hk kx a b (k v c)
  · rcases kx with kx | kx
    · exact wpAny_loadName_cell hk kx a b (k v c)
    · exact wpAny_loadName_free hk kx a b (k v c) hn
theorem ev_name {x : Str} {t : Ty} {pos : Pos} (hx : Γ.lookup x = some t) (hn : (x == ("__classdict__" : Str)) = false := by decide) (hd : (x == ("__debug__" : Str)) = false := by decide) : Ev K A env Γ N (.Name x pos) t := fun mu s S =>
  wpAny_Name (load_var S.ok.fn (S.vars x t hx) (fun v hv => ⟨s.heap, s.toks, rfl, Ext.refl _, hv⟩) hn) hd
theorem ev_glob {x : Str} {v : Value} {pos : Pos} (hk : env.kindOf x = some .globalImplicit) (hg : K.β.mg x = some v) (hd : (x == ("__debug__" : Str)) = false := by decide) : Ev K A env Γ N (.Name x pos) (isv v) := fun mu s S =>
  Calls.Name_function_global S.ok.fn hk (Calls.loadGlobal_global (by rw [S.ok.gl]; exact K.β.g.keeps S.base) hg ⟨s.heap, s.toks, rfl, Ext.refl _, rfl⟩) hd
theorem ev_blt {x : Str} {v : Value} {pos : Pos} (hk : env.kindOf x = some .globalImplicit) (hg : K.β.mg x = none) (hb : bootBuiltins x = some v) (hn : x ≠ "__name__" := by decide) (hd : (x == ("__debug__" : Str)) = false := by decide) : Ev K A env Γ N (.Name x pos) (isv v) := fun mu s S =>
  Calls.Name_function_global S.ok.fn hk (Calls.loadGlobal_builtin (by rw [S.ok.gl]; exact K.β.g.keeps S.base) hg (by rw [S.ok.bl]; exact K.β.b.keeps S.base) ((K.β.bi x hn).trans hb) ⟨s.heap, s.toks, rfl, Ext.refl _, rfl⟩) hd

/-! constants -/
theorem ev_int {i : Int} {k : Nat} {pos : Pos} : Ev K A env Γ N (.Constant (.int i) k pos) (tI i) := fun mu s _ => wpAny_Constant_int ⟨s.heap, _, rfl, Ext.refl _, RD.int _ _ _⟩
theorem ev_str {x : Str} {k : Nat} {pos : Pos} : Ev K A env Γ N (.Constant (.str x) k pos) (tS x) := fun mu s _ => wpAny_Constant_str ⟨s.heap, _, rfl, Ext.refl _, RD.str _ _ _⟩
theorem ev_bool {b : Bool} {k : Nat} {pos : Pos} : Ev K A env Γ N (.Constant (.bool b) k pos) (tB b) := fun mu s _ => wpAny_Constant_bool ⟨s.heap, s.toks, rfl, Ext.refl _, RD.bool _ _⟩
theorem ev_none {k : Nat} {pos : Pos} : Ev K A env Γ N (.Constant .none k pos) (dat .none) := fun mu s _ => wpAny_Constant_none ⟨s.heap, s.toks, rfl, Ext.refl _, RD.none _⟩

/-! two operands -/
def Op2 (K : Wd) (A : Around) (m : Value → Value → Sem Value) (t₁ t₂ t : Ty) : Prop :=
  ∀ mu s v₁ v₂, Ext K.β.hb s.heap → (∀ b ∈ mu, ∃ o, s.heap.get? b = some o) → t₁.P (fz s.heap mu) v₁ → t₂.P (fz s.heap mu) v₂ → Gives K A (m v₁ v₂) mu t s
theorem ev_bin {l r : Expr} {op : Operator} {pos : Pos} {t₁ t₂ t : Ty} (x : Ev K A env Γ N l t₁) (y : Ev K A env Γ N r t₂) (o : Op2 K A (binaryOp op) t₁ t₂ t) : Ev K A env Γ N (.BinOp l op r pos) t := fun mu s S =>
  wpAny_BinOp (x.use S fun v h1 k1 e1 p1 => y.use (s := Sx s h1 k1) (S.ext e1) fun u h2 k2 e2 p2 =>
    (o mu (Sx s h2 k2) v u (S.ext (e1.trans e2)).base (S.ext (e1.trans e2)).live (t₁.mono _ _ _ p1 (fz_mono mu e2)) p2).use fun z h3 k3 e3 p3 => ⟨h3, k3, rfl, (e1.trans e2).trans e3, p3⟩)
theorem ev_cmp {l r : Expr} {op : CmpOp} {pos : Pos} {t₁ t₂ t : Ty} (x : Ev K A env Γ N l t₁) (y : Ev K A env Γ N r t₂) (o : Op2 K A (compareOp op) t₁ t₂ t)
    (hm : behindInMarks op r = false := by with_unfolding_all rfl) : Ev K A env Γ N (.Compare l [op] [r] pos) t := fun mu s S =>
  wpAny_Compare1 (x.use S fun v h1 k1 e1 p1 => y.use (s := Sx s h1 k1) (S.ext e1) fun u h2 k2 e2 p2 =>
    (o mu (Sx s h2 k2) v u (S.ext (e1.trans e2)).base (S.ext (e1.trans e2)).live (t₁.mono _ _ _ p1 (fz_mono mu e2)) p2).use fun z h3 k3 e3 p3 => ⟨h3, k3, rfl, (e1.trans e2).trans e3, p3⟩) hm
theorem tr_cmp {l r : Expr} {op : CmpOp} {pos : Pos} {t₁ t₂ : Ty} {b : Bool} (x : Ev K A env Γ N l t₁) (y : Ev K A env Γ N r t₂) (o : Op2 K A (compareOp op) t₁ t₂ (tB b))
    (hm : behindInMarks op r = false := by with_unfolding_all rfl) : Tr K A env Γ N (.Compare l [op] [r] pos) b := fun mu s S =>
  wpAny_isTrue_Compare1 (x.use S fun v h1 k1 e1 p1 => y.use (s := Sx s h1 k1) (S.ext e1) fun u h2 k2 e2 p2 =>
    (o mu (Sx s h2 k2) v u (S.ext (e1.trans e2)).base (S.ext (e1.trans e2)).live (t₁.mono _ _ _ p1 (fz_mono mu e2)) p2).use fun z h3 k3 e3 p3 => by
      rw [RD.bool_inv p3]; exact wpAny_truthy_bool ⟨rfl, h3, k3, rfl, (e1.trans e2).trans e3⟩) hm
theorem tr_not {e : Expr} {pos : Pos} {b : Bool} (x : Tr K A env Γ N e b) : Tr K A env Γ N (.UnaryOp .Not e pos) (!b) := fun mu s S =>
  wpAny_isTrue_Not (x.use S fun h1 k1 e1 => ⟨rfl, h1, k1, rfl, e1⟩)
theorem tr_and {e f : Expr} {pos : Pos} {b c : Bool} (x : Tr K A env Γ N e b) (y : b = true → Tr K A env Γ N f c) : Tr K A env Γ N (.BoolOp .And [e, f] pos) (b && c) := fun mu s S =>
  wpAny_isTrue_BoolOp (wpAny_allTrue_And_cons (x.use S fun h1 k1 e1 => by
    cases b with
    | false => exact ⟨rfl, h1, k1, rfl, e1⟩
    | true => exact wpAny_allTrue_And_cons ((y rfl).use (s := Sx s h1 k1) (S.ext e1) fun h2 k2 e2 => by
        cases c with
        | false => exact ⟨rfl, h2, k2, rfl, e1.trans e2⟩
        | true => exact wpAny_allTrue_And_nil ⟨rfl, h2, k2, rfl, e1.trans e2⟩)))
end
end Mine

namespace Mine
def exT {ι : Type} (T : ι → Ty) : Ty := ⟨fun g v => ∃ i, (T i).P g v, fun g g' v x k => let ⟨i, p⟩ := x; ⟨i, (T i).mono g g' v p k⟩⟩

section
variable {K : Wd} {A : Around} {env : Env} {Γ : Gam} {N : Led} {mu : List Addr} {s : Shared}

theorem gives_here {m : Sem Value} {t : Ty} (g : ∀ Q : Value → Shared → Prop, (∀ v tk, t.P (fz s.heap mu) v → Q v (Sx s s.heap tk)) → wpAny K.M A m Q no s) : Gives K A m mu t s :=
  g _ fun v tk p => ⟨s.heap, tk, rfl, Ext.refl _, p⟩
theorem new_off (hl : ∀ b ∈ mu, ∃ o, s.heap.get? b = some o) {b : Addr} (hb : s.heap.objs.size ≤ b) : b ∉ mu := fun q => by
  obtain ⟨o, e⟩ := hl b q
  exact absurd (Heap.lt_size e) (Nat.not_lt.mpr hb)
/-- a new list of items that are frozen -/
theorem rd_push_list {vs : List Value} {ds : List PyData} (hl : ∀ b ∈ mu, ∃ o, s.heap.get? b = some o) (r : RDs (fz s.heap mu) vs ds) :
    RD (fz (s.heap.push { cls := .type "list", data := .seq vs.toArray }) mu) (.ref s.heap.objs.size) (.list ds) := by
  refine RD.list (its := vs.toArray) ⟨0, fz_of (Heap.get?_push_size _ rfl) (new_off hl (Nat.le_refl _))⟩ ?_
  exact RDs.mono r (fz_mono mu (Ext.push _ _))
theorem rd_push_tuple {vs : List Value} {ds : List PyData} (hl : ∀ b ∈ mu, ∃ o, s.heap.get? b = some o) (r : RDs (fz s.heap mu) vs ds) :
    RD (fz (s.heap.push { cls := .type "tuple", data := .seq vs.toArray }) mu) (.ref s.heap.objs.size) (.tuple ds) := by
  refine RD.tuple (its := vs.toArray) ⟨0, fz_of (Heap.get?_push_size _ rfl) (new_off hl (Nat.le_refl _))⟩ ?_
  exact RDs.mono r (fz_mono mu (Ext.push _ _))

/-! ints -/
theorem op_add {a b : Int} : Op2 K A (binaryOp .Add) (tI a) (tI b) (tI (a + b)) := fun mu s v u _ _ p q => by
  obtain ⟨t, rfl⟩ := RD.int_inv p; obtain ⟨t', rfl⟩ := RD.int_inv q
  exact gives_here fun Q k => add_int (k _ _ (RD.int _ _ _))
theorem op_sub {a b : Int} : Op2 K A (binaryOp .Sub) (tI a) (tI b) (tI (a - b)) := fun mu s v u _ _ p q => by
  obtain ⟨t, rfl⟩ := RD.int_inv p; obtain ⟨t', rfl⟩ := RD.int_inv q
  exact gives_here fun Q k => sub_int (k _ _ (RD.int _ _ _))
theorem op_mod {a b : Int} (hb : b ≠ 0) : Op2 K A (binaryOp .Mod) (tI a) (tI b) (tI (a.fmod b)) := fun mu s v u _ _ p q => by
  obtain ⟨t, rfl⟩ := RD.int_inv p; obtain ⟨t', rfl⟩ := RD.int_inv q
  exact gives_here fun Q k => mod_int' hb (k _ _ (RD.int _ _ _))
theorem op_div {a b : Int} (hb : b ≠ 0) (hp : Builtin.divisionGoesByPylong a b = false) : Op2 K A (binaryOp .FloorDiv) (tI a) (tI b) (tI (a.fdiv b)) := fun mu s v u _ _ p q => by
  obtain ⟨t, rfl⟩ := RD.int_inv p; obtain ⟨t', rfl⟩ := RD.int_inv q
  exact gives_here fun Q k => floordiv_int hb (k _ _ (RD.int _ _ _)) (hp := .inl hp)
theorem op_mul {a b : Int} (hm : IntMulOk a b) : Op2 K A (binaryOp .Mult) (tI a) (tI b) (tI (a * b)) := fun mu s v u _ _ p q => by
  obtain ⟨t, rfl⟩ := RD.int_inv p; obtain ⟨t', rfl⟩ := RD.int_inv q
  exact gives_here fun Q k => mul_int (k _ _ (RD.int _ _ _)) hm
theorem op_shr {a b : Int} (hb : 0 ≤ b) : Op2 K A (binaryOp .RShift) (tI a) (tI b) (tI (a.fdiv (2 ^ b.toNat))) := fun mu s v u _ _ p q => by
  obtain ⟨t, rfl⟩ := RD.int_inv p; obtain ⟨t', rfl⟩ := RD.int_inv q
  exact gives_here fun Q k => rshift_int hb (k _ _ (RD.int _ _ _))
theorem op_lt {a b : Int} : Op2 K A (compareOp .Lt) (tI a) (tI b) (tB (decide (a < b))) := fun mu s v u _ _ p q => by
  obtain ⟨t, rfl⟩ := RD.int_inv p; obtain ⟨t', rfl⟩ := RD.int_inv q
  exact gives_here fun Q k => lt_int (k _ _ (RD.bool _ _))
theorem op_gt {a b : Int} : Op2 K A (compareOp .Gt) (tI a) (tI b) (tB (decide (b < a))) := fun mu s v u _ _ p q => by
  obtain ⟨t, rfl⟩ := RD.int_inv p; obtain ⟨t', rfl⟩ := RD.int_inv q
  exact gives_here fun Q k => gt_int (k _ _ (RD.bool _ _))
theorem op_eq {a b : Int} : Op2 K A (compareOp .Eq) (tI a) (tI b) (tB (decide (a = b))) := fun mu s v u _ _ p q => by
  obtain ⟨t, rfl⟩ := RD.int_inv p; obtain ⟨t', rfl⟩ := RD.int_inv q
  exact gives_here fun Q k => eq_int (by
    have e : (a == b) = decide (a = b) := by by_cases h : a = b <;> simp [h]
    first | exact k _ _ (RD.bool _ _) | (rw [e]; exact k _ _ (RD.bool _ _)))
/-! strs -/
theorem op_lts {x y : Str} : Op2 K A (compareOp .Lt) (tS x) (tS y) (tB (decide (x.cps.toList < y.cps.toList))) := fun mu s v u _ _ p q => by
  obtain ⟨t, rfl⟩ := RD.str_inv p; obtain ⟨t', rfl⟩ := RD.str_inv q
  exact gives_here fun Q k => lt_str (k _ _ (RD.bool _ _))
theorem op_gts {x y : Str} : Op2 K A (compareOp .Gt) (tS x) (tS y) (tB (decide (y.cps.toList < x.cps.toList))) := fun mu s v u _ _ p q => by
  obtain ⟨t, rfl⟩ := RD.str_inv p; obtain ⟨t', rfl⟩ := RD.str_inv q
  exact gives_here fun Q k => PySem.P.gt_str (k _ _ (RD.bool _ _))
theorem op_eqs {x y : Str} : Op2 K A (compareOp .Eq) (tS x) (tS y) (tB (x == y)) := fun mu s v u _ _ p q => by
  obtain ⟨t, rfl⟩ := RD.str_inv p; obtain ⟨t', rfl⟩ := RD.str_inv q
  exact gives_here fun Q k => eq_str (k _ _ (RD.bool _ _))
theorem op_adds {x y : Str} (hz : x.length + y.length ≤ sizeLine) : Op2 K A (binaryOp .Add) (tS x) (tS y) (tS (x ++ y)) := fun mu s v u _ _ p q => by
  obtain ⟨t, rfl⟩ := RD.str_inv p; obtain ⟨t', rfl⟩ := RD.str_inv q
  exact gives_here fun Q k => add_str (fun _ _ => k _ _ (RD.str _ _ _)) hz
theorem op_subb {a b : Bool} : Op2 K A (binaryOp .Sub) (tB a) (tB b) (tI (b2i a - b2i b)) := fun mu s v u _ _ p q => by
  rw [RD.bool_inv p, RD.bool_inv q]
  exact gives_here fun Q k => sub_bool (k _ _ (RD.int _ _ _))
/-! data -/
theorem op_eqd {d e : PyData} {k : Nat} (hA : AOk k A) (hd : SeqAt.shaped d = true) (he : SeqAt.shaped e = true) : Op2 K A (compareOp .Eq) (dat d) (dat e) (tB (PyData.eqv d e)) := fun mu s v u _ _ p q => by
  obtain ⟨as, p⟩ := (RD.mono p (fz_ext _ _)).reads; obtain ⟨bs, q⟩ := (RD.mono q (fz_ext _ _)).reads
  exact gives_here fun Q k => eq_dataH p q hd he hA.units (k _ _ (RD.bool _ _))
theorem op_ned {d e : PyData} {k : Nat} (hA : AOk k A) (hd : SeqAt.shaped d = true) (he : SeqAt.shaped e = true) : Op2 K A (compareOp .NotEq) (dat d) (dat e) (tB (!PyData.eqv d e)) := fun mu s v u _ _ p q => by
  obtain ⟨as, p⟩ := (RD.mono p (fz_ext _ _)).reads; obtain ⟨bs, q⟩ := (RD.mono q (fz_ext _ _)).reads
  exact gives_here fun Q k => ne_dataH p q hd he hA.units (k _ _ (RD.bool _ _))
theorem rds_length {h : Heap} {vs : List Value} {ds : List PyData} (r : RDs h vs ds) : vs.length = ds.length := All2.length r
theorem op_addl {ds es : List PyData} (hz : ds.length + es.length ≤ sizeLine) : Op2 K A (binaryOp .Add) (tL ds) (tL es) (tL (ds ++ es)) := fun mu s v u _ hl p q => by
  obtain ⟨a, its, rfl, i1, r1⟩ := RD.list_inv p
  obtain ⟨b, jts, rfl, i2, r2⟩ := RD.list_inv q
  obtain ⟨⟨cls, dd, data, sl⟩, ho, hc, n, hd⟩ := isList_ext i1 (fz_ext _ _)
  obtain ⟨⟨cls2, dd2, data2, sl2⟩, ho2, hc2, n2, hd2⟩ := isList_ext i2 (fz_ext _ _)
  simp only at hc hd hc2 hd2
  subst hc hd hc2 hd2
  refine Gives.of fun Q k => concat_meets ⟨_, ho, rfl⟩ ⟨_, ho2, rfl⟩ noFill_list_add seq_list_add PySem.F.slot_list_add PySem.F.entry_list_add (PySem.F.args_list_add_2 _ _) (list_addW a b its jts n n2 dd dd2 sl sl2 ?_) ⟨ho, ho2, ?_⟩
  · have e1 := rds_length r1; have e2 := rds_length r2
    simp only [Array.length_toList] at e1 e2
    omega
  · have e : its ++ jts = (its.toList ++ jts.toList).toArray := by simp
    rw [e]
    exact k _ _ _ (Ext.push _ _) (rd_push_list (mu := mu) hl (All2.append r1 r2))
end
end Mine

namespace Mine
section
variable {K : Wd} {A : Around} {env : Env} {Γ : Gam} {N : Led} {mu : List Addr} {s : Shared}

theorem rds_of_tys {g : Heap} : ∀ {ds : List PyData} {vs : List Value}, All2 (fun v t => t.P g v) vs (ds.map dat) → RDs g vs ds
  | [], vs, h => by cases h; exact .nil
  | d :: ds, vs, h => by cases h with | cons x r => exact .cons x (rds_of_tys r)
theorem all2_length_map {g : Heap} {ds : List PyData} {vs : List Value} (h : All2 (fun v t => t.P g v) vs (ds.map dat)) : vs.length = ds.length := by simpa using h.length

theorem ev_list {es : List Expr} {pos : Pos} {ds : List PyData} (x : Evs K A env Γ N es (ds.map dat)) (hz : ds.length ≤ sizeLine) : Ev K A env Γ N (.List es pos) (tL ds) := fun mu s S =>
  wpAny_List (x.use S fun vs h1 k1 e1 p1 => ⟨by rw [all2_length_map p1]; exact hz, _, k1, rfl, e1.trans (Ext.push _ _), rd_push_list (s := Sx s h1 k1) (mu := mu) (S.ext e1).live (rds_of_tys p1)⟩)
theorem ev_tuple {es : List Expr} {k : Nat} {pos : Pos} {ds : List PyData} (x : Evs K A env Γ N es (ds.map dat)) (hz : ds.length ≤ sizeLine) : Ev K A env Γ N (.Tuple es k pos) (tT ds) := fun mu s S =>
  wpAny_Tuple (x.use S fun vs h1 k1 e1 p1 => ⟨by rw [all2_length_map p1]; exact hz, _, k1, rfl, e1.trans (Ext.push _ _), rd_push_tuple (s := Sx s h1 k1) (mu := mu) (S.ext e1).live (rds_of_tys p1)⟩)

theorem ev_neg {e : Expr} {pos : Pos} {i : Int} (x : Ev K A env Γ N e (tI i)) : Ev K A env Γ N (.UnaryOp .USub e pos) (tI (-i)) := fun mu s S =>
  wpAny_UnaryOp (x.use S fun v h1 k1 e1 p1 => by
    obtain ⟨t, rfl⟩ := RD.int_inv p1
    exact neg_int ⟨h1, _, rfl, e1, RD.int _ _ _⟩)

theorem ev_sub {value slice : Expr} {pos : Pos} {t₁ t₂ t : Ty} (x : Ev K A env Γ N value t₁) (y : Ev K A env Γ N slice t₂) (o : Op2 K A (subscriptTail value slice) t₁ t₂ t) : Ev K A env Γ N (.Subscript value slice pos) t := fun mu s S =>
  Subscript_ (x.use S fun v h1 k1 e1 p1 => y.use (s := Sx s h1 k1) (S.ext e1) fun u h2 k2 e2 p2 =>
    (o mu (Sx s h2 k2) v u (S.ext (e1.trans e2)).base (S.ext (e1.trans e2)).live (t₁.mono _ _ _ p1 (fz_mono mu e2)) p2).use fun z h3 k3 e3 p3 => ⟨h3, k3, rfl, (e1.trans e2).trans e3, p3⟩)
def Plain (slice : Expr) : Prop := ∀ o i, subscripted slice false o i = operate [o, i] (getItem o i)
theorem getD_of {g : Heap} {its : Array Value} {ds : List PyData} (r : RDs g its.toList ds) {i : Nat} {d : PyData} (e : ds[i]? = some d) : ∃ v, its[i]? = some v ∧ RD g v d := by
  obtain ⟨v, h1, h2⟩ := All2.get r i d e
  exact ⟨v, by simpa using h1, h2⟩
theorem op_item {value slice : Expr} {ds : List PyData} {i : Int} {d : PyData} (hs : Plain slice) (h0 : 0 ≤ i) (h1 : i < 2 ^ 63) (hd : ds[i.toNat]? = some d) : Op2 K A (subscriptTail value slice) (tL ds) (tI i) (dat d) := fun mu s v u _ _ p q => by
  obtain ⟨a, its, rfl, l, r⟩ := RD.list_inv p
  obtain ⟨t, rfl⟩ := RD.int_inv q
  obtain ⟨x, hx, rx⟩ := getD_of r hd
  have l' := isList_ext l (fz_ext _ _)
  exact gives_here fun Q k => tail_any l'.typeIs slot_list_getitem.lookup (wpAny_getItem_list l' h0 h1 hx (k x _ rx)) (hs _ _)
theorem op_item_neg {value slice : Expr} {ds : List PyData} {i : Int} {d : PyData} (hs : Plain slice) (h0 : i < 0) (h1 : -(ds.length : Int) ≤ i) (h2 : -(2 ^ 63) ≤ i) (hd : ds[(i + ds.length).toNat]? = some d) : Op2 K A (subscriptTail value slice) (tL ds) (tI i) (dat d) := fun mu s v u _ _ p q => by
  obtain ⟨a, its, rfl, l, r⟩ := RD.list_inv p
  obtain ⟨t, rfl⟩ := RD.int_inv q
  have e : its.size = ds.length := by have := rds_length r; simpa using this
  rw [← e] at hd h1
  obtain ⟨x, hx, rx⟩ := getD_of r hd
  have l' := isList_ext l (fz_ext _ _)
  exact gives_here fun Q k => tail_any l'.typeIs slot_list_getitem.lookup (wpAny_getItem_list_neg l' h0 h1 h2 hx (k x _ rx)) (hs _ _)
/-- an item of a list of the ledger -/
theorem ev_item_mut {x : Str} {p pos : Pos} {slice : Expr} {a : Addr} {j : Nat} {ds : List PyData} {i : Int} {d : PyData} (hx : Γ.lookup x = some (isv (.ref a))) (hN : N[j]? = some (a, ds)) (y : Ev K A env Γ N slice (tI i)) (hs : Plain slice) (h0 : 0 ≤ i) (h1 : i < 2 ^ 63) (hd : ds[i.toNat]? = some d)
    (hn : (x == ("__classdict__" : Str)) = false := by decide) (hb : (x == ("__debug__" : Str)) = false := by decide) : Ev K A env Γ N (.Subscript (.Name x p) slice pos) (dat d) := fun mu s S =>
  Subscript_ ((ev_name (t := isv (.ref a)) hx hn hb : Ev K A env Γ N (.Name x p) _).use S fun v h1' k1 e1 p1 => y.use (s := Sx s h1' k1) (S.ext e1) fun u h2 k2 e2 p2 => by
    have S2 := S.ext (e1.trans e2)
    obtain ⟨its, l, r⟩ := S2.lists _ (List.mem_of_getElem? hN)
    obtain ⟨t, rfl⟩ := RD.int_inv p2
    obtain ⟨z, hz, rz⟩ := getD_of r hd
    have p1 : v = .ref a := p1
    subst p1
    exact tail_any (s := Sx s h2 k2) l.isList.typeIs slot_list_getitem.lookup (wpAny_getItem_list (s := Sx s h2 k2) l.isList h0 h1 hz ⟨h2, k2, rfl, e1.trans e2, rz⟩) (hs _ _))
theorem op_sitem {value slice : Expr} {x : Str} {i : Int} {c : Nat} (hs : Plain slice) (hr : (decide (i < -(2 ^ 63 : Int)) || decide (i ≥ 2 ^ 63)) = false) (hc : (seqIndex? i x.length).bind (x.cps[·]?) = some c) : Op2 K A (subscriptTail value slice) (tS x) (tI i) (tS ⟨#[c]⟩) := fun mu s v u _ _ p q => by
  obtain ⟨t, rfl⟩ := RD.str_inv p
  obtain ⟨t', rfl⟩ := RD.int_inv q
  exact gives_here fun Q k => tail_any (T := "str") (typeIs_str _ _ _) PySem.F.slot_str_getitem.lookup (PyProof.Rows.getItem_str hr hc (k _ _ (RD.str _ _ _))) (hs _ _)
/-! cuts -/
theorem ev_upto {value e : Expr} {p pos : Pos} {ds : List PyData} {i : Int} (x : Ev K A env Γ N value (tL ds)) (y : Ev K A env Γ N e (tI i)) (h0 : 0 ≤ i) (hz : ds.length ≤ sizeLine) : Ev K A env Γ N (.Subscript value (.Slice none (some e) none p) pos) (tL (ds.take i.toNat)) := fun mu s S =>
  Subscript_ (x.use S fun v h1 k1 e1 p1 => wpAny_Slice (wpAny_pure (show wpAny K.M A (eval e env) _ _ (Sx s h1 k1) from y.use (s := Sx s h1 k1) (S.ext e1) fun u h2 k2 e2 p2 => wpAny_pure (by
    have S2 := S.ext (e1.trans e2)
    obtain ⟨a, its, rfl, l, r⟩ := RD.list_inv (RD.mono p1 (fz_mono mu e2))
    obtain ⟨t, rfl⟩ := RD.int_inv p2
    have l' := isList_ext l (fz_ext _ _)
    have e3 := Ext.push h2 { cls := .type "slice", data := .fields #[.none, .int i t, .none] }
    refine tail_any (ops := [.ref h2.objs.size, .ref a]) (s := Sx s (h2.push { cls := .type "slice", data := .fields #[.none, .int i t, .none] }) k2) (l'.push _).typeIs slot_list_getitem.lookup
      (wpAny_getItem_list_slice (s := Sx s (h2.push { cls := .type "slice", data := .fields #[.none, .int i t, .none] }) k2) (l'.push _) (Heap.IsSliceOf.new ..) .none (.int _ _) .none (by simp) ?_ ?_) rfl
    · obtain ⟨n, rfl⟩ := Int.eq_ofNat_of_zero_le h0
      rw [slicePick_upto']
      refine ⟨_, k2, rfl, ((e1.trans e2).trans e3).trans (Ext.push _ _), rd_push_list (s := Sx s _ k2) (mu := mu) ((S2.ext e3).live) ?_⟩
      simpa [RDs] using All2.take n (RDs.mono r (fz_mono mu e3))
    · have := rds_length r; simp only [Array.length_toList] at this; omega))))
theorem ev_from {value e : Expr} {p pos : Pos} {ds : List PyData} {i : Int} (x : Ev K A env Γ N value (tL ds)) (y : Ev K A env Γ N e (tI i)) (h0 : 0 ≤ i) (hz : ds.length ≤ sizeLine) : Ev K A env Γ N (.Subscript value (.Slice (some e) none none p) pos) (tL (ds.drop i.toNat)) := fun mu s S =>
  Subscript_ (x.use S fun v h1 k1 e1 p1 => wpAny_Slice (show wpAny K.M A (eval e env) _ _ (Sx s h1 k1) from y.use (s := Sx s h1 k1) (S.ext e1) fun u h2 k2 e2 p2 => wpAny_pure (wpAny_pure (by
    have S2 := S.ext (e1.trans e2)
    obtain ⟨a, its, rfl, l, r⟩ := RD.list_inv (RD.mono p1 (fz_mono mu e2))
    obtain ⟨t, rfl⟩ := RD.int_inv p2
    have l' := isList_ext l (fz_ext _ _)
    have e3 := Ext.push h2 { cls := .type "slice", data := .fields #[.int i t, .none, .none] }
    refine tail_any (ops := [.ref h2.objs.size, .ref a]) (s := Sx s (h2.push { cls := .type "slice", data := .fields #[.int i t, .none, .none] }) k2) (l'.push _).typeIs slot_list_getitem.lookup
      (wpAny_getItem_list_slice (s := Sx s (h2.push { cls := .type "slice", data := .fields #[.int i t, .none, .none] }) k2) (l'.push _) (Heap.IsSliceOf.new ..) (.int _ _) .none .none (by simp) ?_ ?_) rfl
    · obtain ⟨n, rfl⟩ := Int.eq_ofNat_of_zero_le h0
      rw [slicePick_from']
      refine ⟨_, k2, rfl, ((e1.trans e2).trans e3).trans (Ext.push _ _), rd_push_list (s := Sx s _ k2) (mu := mu) ((S2.ext e3).live) ?_⟩
      simpa [RDs] using All2.drop n (RDs.mono r (fz_mono mu e3))
    · have := rds_length r; simp only [Array.length_toList] at this; omega))))

/-! calls -/
def Cl (K : Wd) (A : Around) (u : Value) (ts : List Ty) (t : Ty) : Prop :=
  ∀ mu s vs, Ext K.β.hb s.heap → (∀ b ∈ mu, ∃ o, s.heap.get? b = some o) → All2 (fun v t => t.P (fz s.heap mu) v) vs ts → Gives K A (call u vs) mu t s
def Fn (K : Wd) (k : Nat) (f : Addr) (ts : List Ty) (t : Ty) : Prop := ∀ A, AOk k A → Cl K A (.ref f) ts t
/-- a call that changes the list given first -/
def ClM (K : Wd) (A : Around) (u : Value) (ts : List Ty) (t : Ty) (ds ds' : List PyData) : Prop :=
  ∀ a mu s vs, Ext K.β.hb s.heap → (∀ b ∈ mu, ∃ o, s.heap.get? b = some o) → a ∈ mu → K.β.hb.get? a = none → (∃ its, s.heap.PlainList a its ∧ RDs (fz s.heap mu) its.toList ds) → All2 (fun v t => t.P (fz s.heap mu) v) vs ts →
    wpAny K.M A (call u (.ref a :: vs)) (fun v s' => ∃ h' tk its, s' = Sx s h' tk ∧ Chg [a] s.heap h' ∧ h'.PlainList a its ∧ RDs (fz h' mu) its.toList ds' ∧ t.P (fz h' mu) v) no s
def FnM (K : Wd) (k : Nat) (f : Addr) (ts : List Ty) (t : Ty) (ds ds' : List PyData) : Prop := ∀ A, AOk k A → ClM K A (.ref f) ts t ds ds'
/-- what is called stands in the ground -/
def Kept (β : Bs) (u : Value) : Prop := (∃ id, u = .builtin id) ∨ (∃ T, u = .type T) ∨ ∃ f o fd, u = .ref f ∧ β.hb.get? f = some o ∧ o.data = .func fd
theorem Kept.looks {u : Value} (x : Kept K.β u) (h : Heap) (e : Ext K.β.hb h) : ∃ k, (k = Keeper.frame ∨ k = Keeper.machine ∨ k = Keeper.boundFrame) ∧ Looks K.M h (keeperOf u) k := by
  rcases x with ⟨id, rfl⟩ | ⟨T, rfl⟩ | ⟨f, o, fd, rfl, ho, hd⟩
  · exact ⟨_, .inr (.inl rfl), Looks.of_pure rfl⟩
  · exact ⟨_, .inr (.inl rfl), Looks.of_pure rfl⟩
  · refine ⟨.frame, .inl rfl, (Looks.ld (part := none) (e _ _ ho)).andThen ?_⟩
    rw [hd]; exact .now
theorem ev_call {f : Str} {p pos : Pos} {e : Expr} {es : List Expr} {u : Value} {ts : List Ty} {t : Ty} (x : Ev K A env Γ N (.Name f p) (isv u)) (hk : Kept K.β u) (y : Evs K A env Γ N (e :: es) ts) (c : Cl K A u ts t)
    (he : starEach (e :: es) env = (false, eval e env) :: starEach es env := by rfl) (hp : (backTo pos (starEach es env)).any (·.1) = false := by rfl) : Ev K A env Γ N (.Call (.Name f p) (e :: es) [] pos) t := fun mu s S =>
  wpAny_Call_Name_kw (x.use S fun v h1 k1 e1 p1 => by
    have p1 : v = u := p1
    subst p1
    have y' := (y pos mu (Sx s h1 k1) (S.ext e1))
    rw [he] at y' ⊢
    refine callWith_of (P := fun h => Ext K.β.hb h) (by show ((false || (backTo pos (starEach es env)).any (·.1)) || false) = false; rw [hp]; rfl) (fun h eh => hk.looks h eh) (Calls.evalArgs_plain ?_)
    refine wpAny_mono y' ?_ fun _ _ z => z.elim
    rintro vs s' ⟨h2, k2, rfl, e2, p2⟩
    have S2 := S.ext (e1.trans e2)
    refine ⟨S2.base, (c mu (Sx s h2 k2) vs S2.base S2.live p2).use fun z h3 k3 e3 p3 => ⟨h3, k3, rfl, (e1.trans e2).trans e3, p3⟩⟩)
/-- the list named first is of the ledger, and changes -/
theorem ev_callM {f x : Str} {p px pos : Pos} {es : List Expr} {u : Value} {ts : List Ty} {t : Ty} {a : Addr} {j : Nat} {ds ds' : List PyData} (w : Ev K A env Γ N (.Name f p) (isv u)) (hk : Kept K.β u) (hx : Γ.lookup x = some (isv (.ref a))) (hN : N[j]? = some (a, ds)) (y : Evs K A env Γ N es ts) (c : ClM K A u ts t ds ds')
    (hp : (backTo pos (starEach es env)).any (·.1) = false := by rfl) (hn : (x == ("__classdict__" : Str)) = false := by decide) (hb : (x == ("__debug__" : Str)) = false := by decide) : EvM K A env Γ N (.Call (.Name f p) (.Name x px :: es) [] pos) t (N.set j (a, ds')) := fun mu s S =>
  wpAny_Call_Name_kw (w.use S fun v h1 k1 e1 p1 => by
    have p1 : v = u := p1
    subst p1
    have y' := (Evs.cons (ev_name hx hn hb : Ev K A env Γ N (.Name x px) (isv (.ref a))) y) pos mu (Sx s h1 k1) (S.ext e1)
    have he : starEach (.Name x px :: es) env = (false, eval (.Name x px) env) :: starEach es env := rfl
    rw [he] at y' ⊢
    refine callWith_of (P := fun h => Ext K.β.hb h) (by show ((false || (backTo pos (starEach es env)).any (·.1)) || false) = false; rw [hp]; rfl) (fun h eh => hk.looks h eh) (Calls.evalArgs_plain ?_)
    refine wpAny_mono y' ?_ fun _ _ z => z.elim
    rintro vs s' ⟨h2, k2, rfl, e2, p2⟩
    have S2 := S.ext (e1.trans e2)
    have hm := List.mem_of_getElem? hN
    cases p2 with
    | cons q1 q2 =>
      have q1 : _ = Value.ref a := q1
      subst q1
      refine ⟨S2.base, wpAny_mono (c a mu (Sx s h2 k2) _ S2.base S2.live (S2.hid _ (own_list hm)) (S2.low _ (own_list hm)) (S2.lists _ hm) q2) ?_ fun _ _ z => z.elim⟩
      rintro z s' ⟨h3, k3, its, rfl, c3, l3, r3, p3⟩
      have hin : ∀ b ∈ [a], b ∈ N.map (·.1) := fun b hb => by rw [List.mem_singleton.mp hb]; exact List.mem_map.mpr ⟨_, hm, rfl⟩
      exact ⟨h3, k3, rfl, (Chg.of_ext (e1.trans e2)).trans (c3.mono hin), S2.setList hN c3 l3 r3, p3⟩)
/-! small built-ins -/
theorem cl_len {ds : List PyData} (hz : ds.length ≤ sizeLine) : Cl K A (.builtin "len") [tL ds] (tI ds.length) := fun mu s vs _ _ p => by
  cases p with
  | cons q r =>
    cases r
    obtain ⟨a, its, rfl, l, r⟩ := RD.list_inv q
    have e : its.size = ds.length := by have := rds_length r; simpa using this
    exact gives_here fun Q k => len_list (isList_ext l (fz_ext _ _)) (by rw [sizeLine_eq] at hz; omega) (by rw [e]; exact k _ _ (RD.int _ _ _))
theorem ev_len_mut {x : Str} {f : Str} {p px pos : Pos} {a : Addr} {j : Nat} {ds : List PyData} (w : Ev K A env Γ N (.Name f p) (isv (.builtin "len"))) (hx : Γ.lookup x = some (isv (.ref a))) (hN : N[j]? = some (a, ds)) (hz : ds.length ≤ sizeLine)
    (hn : (x == ("__classdict__" : Str)) = false := by decide) (hb : (x == ("__debug__" : Str)) = false := by decide) : Ev K A env Γ N (.Call (.Name f p) [.Name x px] [] pos) (tI ds.length) := fun mu s S =>
  wpAny_Call_Name_kw (w.use S fun v h1 k1 e1 p1 => by
    have p1 : v = .builtin "len" := p1
    subst p1
    have y' := (Evs.cons (ev_name hx hn hb : Ev K A env Γ N (.Name x px) (isv (.ref a))) Evs.nil) pos mu (Sx s h1 k1) (S.ext e1)
    have he : starEach [.Name x px] env = (false, eval (.Name x px) env) :: starEach [] env := rfl
    rw [he] at y' ⊢
    refine callWith_of (P := fun h => Ext K.β.hb h) rfl (fun h eh => Kept.looks (.inl ⟨_, rfl⟩) h eh) (Calls.evalArgs_plain ?_)
    refine wpAny_mono y' ?_ fun _ _ z => z.elim
    rintro vs s' ⟨h2, k2, rfl, e2, p2⟩
    have S2 := S.ext (e1.trans e2)
    obtain ⟨its, l, r⟩ := S2.lists _ (List.mem_of_getElem? hN)
    have e : its.size = ds.length := by have := rds_length r; simpa using this
    cases p2 with
    | cons q1 q2 =>
      cases q2
      have q1 : _ = Value.ref a := q1
      subst q1
      exact ⟨S2.base, len_list (s := Sx s h2 k2) l.isList (by rw [sizeLine_eq] at hz; omega) ⟨h2, _, rfl, e1.trans e2, by rw [e]; exact RD.int _ _ _⟩⟩)
theorem cl_chr {i : Int} (h0 : 0 ≤ i) (h1 : i ≤ 1114111) : Cl K A (.builtin "chr") [tI i] (tS ⟨#[i.toNat]⟩) := fun mu s vs _ _ p => by
  cases p with
  | cons q r =>
    cases r
    obtain ⟨t, rfl⟩ := RD.int_inv q
    exact gives_here fun Q k => chr_of_range h0 h1 (k _ _ (RD.str _ _ _))
theorem cl_ord {c : Nat} : Cl K A (.builtin "ord") [tS ⟨#[c]⟩] (tI c) := fun mu s vs _ _ p => by
  cases p with
  | cons q r =>
    cases r
    obtain ⟨t, rfl⟩ := RD.str_inv q
    exact gives_here fun Q k => PySem.P.ord_of_char (k _ _ (RD.int _ _ _))
end
end Mine

namespace Mine

structure At (K : Wd) (h₀ : Heap) (D : List Addr) (env : Env) (Γ : Gam) (N : Led) (mu : List Addr) (h : Heap) : Prop where
  sat : Sat K.β env Γ N mu h
  chg : Chg D h₀ h
  od : ∀ b ∈ own env N, h₀.get? b = none ∨ b ∈ D

section
variable {K : Wd} {A : Around} {env : Env} {Γ Γ' : Gam} {N N' : Led} {mu mu' : List Addr} {s : Shared} {h₀ h h' : Heap} {D : List Addr}
theorem At.next (a : At K h₀ D env Γ N mu h) (S : Sat K.β env Γ' N' mu' h') (c : Chg (own env N) h h') (ho : ∀ b ∈ own env N', b ∈ own env N ∨ h.get? b = none) : At K h₀ D env Γ' N' mu' h' where
  sat := S
  chg := ⟨fun b o hb e => c.keep b o (fun q => (a.od b q).elim (fun z => by rw [z] at e; cases e) hb) (a.chg.keep b o hb e), fun b o e => let ⟨o', e'⟩ := a.chg.live b o e; c.live b o' e'⟩
  od := fun b hb => by
    rcases ho b hb with q | q
    · exact a.od b q
    · refine .inl ?_
      cases z : h₀.get? b with
      | none => rfl
      | some o => obtain ⟨o', e'⟩ := a.chg.live b o z; rw [q] at e'; cases e'
theorem At.ext (a : At K h₀ D env Γ N mu h) (k : Ext h h') : At K h₀ D env Γ N mu h' := a.next (a.sat.ext k) (Chg.of_ext k) fun b hb => .inl hb
theorem At.sub (a : At K h₀ D env Γ N mu h) (s : Sub Γ' Γ) : At K h₀ D env Γ' N mu h := ⟨a.sat.sub s, a.chg, a.od⟩
theorem At.less (a : At K h₀ D env Γ N mu h) (hs : ∀ b ∈ mu', b ∈ mu) (hh : ∀ b ∈ own env N, b ∈ mu') : At K h₀ D env Γ N mu' h := ⟨a.sat.less hs hh, a.chg, a.od⟩
theorem At.dropN (a : At K h₀ D env Γ N mu h) (hs : N'.Sublist N) : At K h₀ D env Γ N' mu h := by
  refine ⟨a.sat.dropN hs, a.chg, fun b hb => a.od b ?_⟩
  rcases own_mem.mp hb with q | q | ⟨ds, q⟩
  · exact own_mem.mpr (.inl q)
  · exact own_mem.mpr (.inr (.inl q))
  · exact own_list (hs.subset q)
/-- from here on -/
theorem At.here (a : At K h₀ D env Γ N mu h) : At K h (own env N) env Γ N mu h := ⟨a.sat, Chg.refl _ _, fun b hb => .inr hb⟩
theorem At.join (a : At K h₀ D env Γ N mu h) (b : At K h (own env N) env Γ' N' mu' h') : At K h₀ D env Γ' N' mu' h' :=
  a.next b.sat b.chg fun x hx => (b.od x hx).elim .inr .inl

def CanStore (env : Env) (x : Str) : Prop := env.kindOf x = some .local ∨ (env.kindOf x = some .cell ∧ ∃ c, env.cells.lookup x = some c)
theorem x_store {x : Str} {t : Ty} {v : Value} {Q : Unit → Shared → Prop} {E : Value → Shared → Prop} (a : At K h₀ D env Γ N mu s.heap) (hk : CanStore env x) (hv : t.P (fz s.heap mu) v) (k : ∀ h' tk, At K h₀ D env ((x, t) :: Γ) N mu h' → Q () (Sx s h' tk)) :
    wpAny K.M A (storeName env x v) Q E s := by
  rcases hk with hk | ⟨hk, c, hc⟩
  · obtain ⟨m, hm⟩ := a.sat.frame
    refine wpAny_storeName_local hk hm (fun h' hn hs => ?_) (by rw [a.sat.ok.fn]; rfl)
    obtain ⟨S, c⟩ := a.sat.store_local hk hm hn hs hv
    exact k _ _ (a.next S (c.mono fun b hb => by rw [List.mem_singleton.mp hb]; exact own_locals) fun b hb => .inl hb)
  · obtain ⟨v₀, hv₀⟩ := a.sat.cells x c (mem_of_lookup hc)
    refine wpAny_storeName_cell a.sat.ok.fn hk hc hv₀ fun h' hn hs => ?_
    obtain ⟨S, cc⟩ := a.sat.store_cell hk hc hn hs hv
    exact k _ s.toks (a.next S (cc.mono fun b hb => by rw [List.mem_singleton.mp hb]; exact own_cell (mem_of_lookup hc)) fun b hb => .inl hb)

/-- what stands behind a statement -/
abbrev Seq (K : Wd) (A : Around) (env : Env) (rest : List Stmt) (Q : Flow → Shared → Prop) (E : Value → Shared → Prop) : Flow → Shared → Prop :=
  fun f s' => match f with | .next => wpAny K.M A (execs rest env) Q E s' | f => Q f s'
variable {Q : Flow → Shared → Prop} {E : Value → Shared → Prop} {rest : List Stmt} {pos p : Pos}
theorem x_nil (q : Q .next s) : wpAny K.M A (execs [] env) Q E s := wpAny_execs_nil q
theorem x_assign {x : Str} {e : Expr} {t : Ty} (a : At K h₀ D env Γ N mu s.heap) (he : Ev K A env Γ N e t) (hk : CanStore env x) (k : ∀ h' tk, At K h₀ D env ((x, t) :: Γ) N mu h' → wpAny K.M A (execs rest env) Q E (Sx s h' tk))
    (hs : swapsWith e (some (.Name x p)) pos.line env = pure false := by rfl) : wpAny K.M A (execs (.Assign [.Name x p] e pos :: rest) env) Q E s :=
  wpAny_execs_cons (wpAny_Assign_Name (he.use a.sat fun v h1 k1 e1 p1 => x_store (s := Sx s h1 k1) (a.ext e1) hk p1 fun h' tk a' => k h' tk a') hs)
theorem x_assign_ex {ι : Type} {x : Str} {e : Expr} {T : ι → Ty} (a : At K h₀ D env Γ N mu s.heap) (he : Ev K A env Γ N e (exT T)) (hk : CanStore env x) (k : ∀ i h' tk, At K h₀ D env ((x, T i) :: Γ) N mu h' → wpAny K.M A (execs rest env) Q E (Sx s h' tk))
    (hs : swapsWith e (some (.Name x p)) pos.line env = pure false := by rfl) : wpAny K.M A (execs (.Assign [.Name x p] e pos :: rest) env) Q E s :=
  wpAny_execs_cons (wpAny_Assign_Name (he.use a.sat fun v h1 k1 e1 p1 => by
    obtain ⟨i, p1⟩ := p1
    exact x_store (s := Sx s h1 k1) (a.ext e1) hk p1 fun h' tk a' => k i h' tk a') hs)
theorem map_own {b : Addr} (hb : b ∈ N.map (·.1)) : b ∈ own env N := List.mem_append_right _ hb
/-- an expression that changes lists of the ledger -/
theorem EvM.at {e : Expr} {t : Ty} {V : Value → Shared → Prop} (g : EvM K A env Γ N e t N') (a : At K h₀ D env Γ N mu s.heap) (hN : N'.map (·.1) = N.map (·.1)) (k : ∀ v h' tk, At K h₀ D env Γ N' mu h' → t.P (fz h' mu) v → V v (Sx s h' tk)) : wpAny K.M A (eval e env) V E s :=
  g.use a.sat fun v h' tk c S p => k v h' tk (a.next S (c.mono fun b hb => map_own hb) fun b hb => .inl (by unfold own at hb ⊢; rw [← hN]; exact hb)) p
theorem x_assignM {x : Str} {e : Expr} {t : Ty} (a : At K h₀ D env Γ N mu s.heap) (he : EvM K A env Γ N e t N') (hN : N'.map (·.1) = N.map (·.1)) (hk : CanStore env x) (k : ∀ h' tk, At K h₀ D env ((x, t) :: Γ) N' mu h' → wpAny K.M A (execs rest env) Q E (Sx s h' tk))
    (hs : swapsWith e (some (.Name x p)) pos.line env = pure false := by rfl) : wpAny K.M A (execs (.Assign [.Name x p] e pos :: rest) env) Q E s :=
  wpAny_execs_cons (wpAny_Assign_Name (he.at a hN fun v h1 k1 a1 p1 => x_store (s := Sx s h1 k1) a1 hk p1 fun h' tk a' => k h' tk a') hs)
theorem x_expr {e : Expr} {t : Ty} (a : At K h₀ D env Γ N mu s.heap) (he : EvM K A env Γ N e t N') (hN : N'.map (·.1) = N.map (·.1)) (k : ∀ h' tk, At K h₀ D env Γ N' mu h' → wpAny K.M A (execs rest env) Q E (Sx s h' tk))
    (hi : interactive env = false := by rfl) (hs : swapsWith e none pos.line env = pure false := by rfl) : wpAny K.M A (execs (.Expr e pos :: rest) env) Q E s :=
  wpAny_execs_cons (wpAny_Expr_any (he.at a hN fun v h1 k1 a1 p1 => k h1 k1 a1) hi hs)
theorem x_ret {e : Expr} {t : Ty} (a : At K h₀ D env Γ N mu s.heap) (he : Ev K A env Γ N e t) (k : ∀ v h' tk, At K h₀ D env Γ N mu h' → t.P (fz h' mu) v → Q (.ret v) (Sx s h' tk)) : wpAny K.M A (execs (.Return (some e) pos :: rest) env) Q E s :=
  wpAny_execs_cons (wpAny_Return_some (he.use a.sat fun v h1 k1 e1 p1 => k v h1 k1 (a.ext e1) p1))
theorem x_if {test : Expr} {body orelse : List Stmt} {b : Bool} (a : At K h₀ D env Γ N mu s.heap) (ht : Tr K A env Γ N test b)
    (kt : b = true → ∀ h' tk, At K h₀ D env Γ N mu h' → wpAny K.M A (execs body env) (Seq K A env rest Q E) E (Sx s h' tk))
    (kf : b = false → ∀ h' tk, At K h₀ D env Γ N mu h' → wpAny K.M A (execs orelse env) (Seq K A env rest Q E) E (Sx s h' tk)) : wpAny K.M A (execs (.If test body orelse pos :: rest) env) Q E s :=
  wpAny_execs_cons (wpAny_If (ht.use a.sat fun h1 k1 e1 => by
    cases b with
    | true => exact kt rfl h1 k1 (a.ext e1)
    | false => exact kf rfl h1 k1 (a.ext e1)))
theorem x_brk (q : Q .brk s) : wpAny K.M A (execs (.Break pos :: rest) env) Q E s := wpAny_execs_cons (wpAny_Break q)
theorem x_cont (q : Q .cont s) : wpAny K.M A (execs (.Continue pos :: rest) env) Q E s := wpAny_execs_cons (wpAny_Continue q)
/-- x[i] = e, x a list of the ledger -/
theorem x_set {x : Str} {px p' : Pos} {i e : Expr} {a : Addr} {j : Nat} {ds : List PyData} {n : Int} {d : PyData} (z : At K h₀ D env Γ N mu s.heap) (hx : Γ.lookup x = some (isv (.ref a))) (hN : N[j]? = some (a, ds)) (he : Ev K A env Γ N e (dat d)) (hi : Ev K A env Γ N i (tI n)) (h0 : 0 ≤ n) (h1 : n < ds.length) (h2 : n < 2 ^ 63)
    (k : ∀ h' tk, At K h₀ D env Γ (N.set j (a, ds.set n.toNat d)) mu h' → wpAny K.M A (execs rest env) Q E (Sx s h' tk))
    (hs : swapsWith e (some (.Subscript (.Name x px) i p')) pos.line env = pure false := by rfl) (hn : (x == ("__classdict__" : Str)) = false := by decide) (hb : (x == ("__debug__" : Str)) = false := by decide) :
    wpAny K.M A (execs (.Assign [.Subscript (.Name x px) i p'] e pos :: rest) env) Q E s :=
  wpAny_execs_cons (wpAny_Assign_Subscript (he.use z.sat fun v h3 k3 e3 p3 => (ev_name hx hn hb : Ev K A env Γ N (.Name x px) (isv (.ref a))).use (s := Sx s h3 k3) (z.sat.ext e3) fun u h4 k4 e4 p4 => hi.use (s := Sx s h4 k4) (z.sat.ext (e3.trans e4)) fun w h5 k5 e5 p5 => by
    have p4 : u = .ref a := p4
    subst p4
    obtain ⟨t, rfl⟩ := RD.int_inv p5
    have z5 := z.ext ((e3.trans e4).trans e5)
    have hm := List.mem_of_getElem? hN
    obtain ⟨its, l, r⟩ := z5.sat.lists _ hm
    have es : its.size = ds.length := by have := rds_length r; simpa using this
    obtain ⟨nn, hl⟩ := l
    refine ki_setAt (s := Sx s h5 k5) hl h0 h2 (by rw [es]; exact h1) ?_
    have l6 : (h5.update a (Obj.mapSeq (·.setIfInBounds n.toNat v))).PlainList a (its.setIfInBounds n.toNat v) := ⟨_, PySem.IsL.update hl _⟩
    have s6 : Heap.SameBut a h5 (h5.update a (Obj.mapSeq (·.setIfInBounds n.toNat v))) := Heap.SameBut.update ..
    generalize h5.update a (Obj.mapSeq (·.setIfInBounds n.toNat v)) = h6 at l6 s6
    have c6 : Chg [a] h5 h6 := Chg.of_same s6 fun _ _ => let ⟨_, q⟩ := l6; ⟨_, q⟩
    have k6 := fz_chg (mu := mu) c6 fun b hb => by rw [List.mem_singleton.mp hb]; exact z5.sat.hid _ (own_list hm)
    refine k h6 k5 (z5.next (z5.sat.setList hN c6 l6 ?_) (c6.mono fun b hb => by rw [List.mem_singleton.mp hb]; exact own_list hm) fun b hb => .inl (by rw [own_set hN] at hb; exact hb))
    have p3' : RD (fz h5 mu) v d := RD.mono p3 (fz_mono mu (e4.trans e5))
    have r6 : RDs (fz h6 mu) its.toList ds := RDs.mono r k6
    have := All2.set (RD.mono p3' k6) n.toNat r6
    simpa [RDs] using this) hs)
theorem x_aug {x : Str} {e : Expr} {i j : Int} (z : At K h₀ D env Γ N mu s.heap) (hx : Γ.lookup x = some (tI i)) (he : Ev K A env Γ N e (tI j)) (hk : CanStore env x) (k : ∀ h' tk, At K h₀ D env ((x, tI (i + j)) :: Γ) N mu h' → wpAny K.M A (execs rest env) Q E (Sx s h' tk))
    (hn : (x == ("__classdict__" : Str)) = false := by decide) : wpAny K.M A (execs (.AugAssign (.Name x p) .Add e pos :: rest) env) Q E s :=
  wpAny_execs_cons (wpAny_AugAssign_Name (load_var z.sat.ok.fn (z.sat.vars x _ hx) (fun v hv => he.use z.sat fun u h1 k1 e1 p1 => by
    obtain ⟨t, rfl⟩ := RD.int_inv hv
    obtain ⟨t', rfl⟩ := RD.int_inv p1
    exact PySem.AutoIntOps.iadd_0 (s := Sx s h1 k1) (x_store (s := Sx s h1 _) (z.ext e1) hk (RD.int _ _ _) fun h' tk a' => k h' tk a')) hn))
theorem x_while {ι : Type} {test : Expr} {body : List Stmt} (Γf : ι → Gam) (Nf : ι → Led) (m : ι → Nat) (b : ι → Bool) (i₀ : ι) (a : At K h₀ D env (Γf i₀) (Nf i₀) mu s.heap)
    (ht : ∀ i, Tr K A env (Γf i) (Nf i) test (b i))
    (turn : ∀ i h tk (E' : Value → Shared → Prop), b i = true → At K h₀ D env (Γf i) (Nf i) mu h → wpAny K.M A (execs body env) (fun f s' => match f with
      | .next | .cont => ∃ j h' tk', m j < m i ∧ s' = Sx s h' tk' ∧ At K h₀ D env (Γf j) (Nf j) mu h'
      | .brk => wpAny K.M A (execs rest env) Q E s'
      | .ret v => Q (.ret v) s') E' (Sx s h tk))
    (done : ∀ i h tk, b i = false → At K h₀ D env (Γf i) (Nf i) mu h → wpAny K.M A (execs rest env) Q E (Sx s h tk)) : wpAny K.M A (execs (.While test body [] pos :: rest) env) Q E s := by
  refine wpAny_execs_cons (wpAny_While (codeAny_whileLoop (fun n s' => ∃ i h tk, n = m i ∧ s' = Sx s h tk ∧ At K h₀ D env (Γf i) (Nf i) mu h) ?_ (m i₀) ⟨i₀, s.heap, s.toks, rfl, rfl, a⟩))
  rintro n s' ⟨i, h, tk, rfl, rfl, a'⟩
  refine (ht i).use (s := Sx s h tk) a'.sat fun h1 k1 e1 => ?_
  cases hb : b i with
  | true =>
    simp only [if_true]
    refine wpAny_mono (turn i h1 k1 _ hb (a'.ext e1)) (fun f s' hf => ?_) fun _ _ x => x
    cases f with
    | next => obtain ⟨j, h2, k2, hm, rfl, a2⟩ := hf; exact ⟨_, hm, j, h2, k2, rfl, rfl, a2⟩
    | cont => obtain ⟨j, h2, k2, hm, rfl, a2⟩ := hf; exact ⟨_, hm, j, h2, k2, rfl, rfl, a2⟩
    | brk => exact hf
    | ret v => exact hf
  | false =>
    simp only [Bool.false_eq_true, if_false]
    exact wpAny_execs_nil (done i h1 k1 hb (a'.ext e1))
end
end Mine

namespace Mine

/-- what the parameters hold -/
def Binds (kind : Str → Option NameKind) (cs : List (Str × Addr)) (m cm : Str → Option Value) (g : Heap) : Gam → Prop
  | [] => True
  | (x, t) :: r => ((kind x = some .local ∧ ∃ v, m x = some v ∧ t.P g v) ∨ (kind x = some .cell ∧ ∃ c v, cs.lookup x = some c ∧ cm x = some v ∧ t.P g v)) ∧ Binds kind cs m cm g r
theorem Binds.look {kind : Str → Option NameKind} {cs : List (Str × Addr)} {m cm : Str → Option Value} {g : Heap} : ∀ {Γ : Gam}, Binds kind cs m cm g Γ → ∀ {x : Str} {t : Ty}, Γ.lookup x = some t →
    (kind x = some .local ∧ ∃ v, m x = some v ∧ t.P g v) ∨ (kind x = some .cell ∧ ∃ c v, cs.lookup x = some c ∧ cm x = some v ∧ t.P g v)
  | [], _, x, t, e => by simp at e
  | (y, u) :: r, b, x, t, e => by
    rw [List.lookup_cons] at e
    cases hb : x == y with
    | true =>
      rw [hb] at e
      have : x = y := beq_iff_eq.mp hb
      subst this
      simp only [Option.some.injEq] at e
      subst e
      exact b.1
    | false => rw [hb] at e; exact Binds.look b.2 e

section
variable {K : Wd} {A : Around} {Γ : Gam} {N : Led} {mu : List Addr} {s : Shared}
def LedOk (K : Wd) (N : Led) (mu : List Addr) (h : Heap) : Prop := (N.map (·.1)).Nodup ∧ ∀ p ∈ N, p.1 ∈ mu ∧ K.β.hb.get? p.1 = none ∧ ∃ its, h.PlainList p.1 its ∧ RDs (fz h mu) its.toList p.2
abbrev cellsAt (d : FD) (L : Addr) : List (Str × Addr) := cellsFrom (L + 1) d.scope.names []
def hidE (d : FD) (L : Addr) : List Addr := L :: (cellsAt d L).map (·.2)

theorem fn_at {d : FD} {f : Addr} {cd : Value} {h₁ : Heap} {m cm : Str → Option Value} (hb : Ext K.β.hb s.heap) (hl : ∀ b ∈ mu, ∃ o, s.heap.get? b = some o) (hk : d.scope.kind = .function) (hnd : ((cellsFrom 0 d.scope.names []).map (·.1)).Nodup)
    (F : Fr s.heap s.heap.objs.size h₁ m) (C : PyProof.Rows.Cl s.heap.objs.size (cellsAt d s.heap.objs.size) h₁ cm) (HN : LedOk K N mu s.heap)
    (HB : Binds (envOfC d.name d.scope s.heap.objs.size f cd).kindOf (cellsAt d s.heap.objs.size) m cm (fz s.heap mu) Γ) :
    At K s.heap (N.map (·.1)) (envOfC d.name d.scope s.heap.objs.size f cd) Γ N (hidE d s.heap.objs.size ++ mu) h₁ := by
  have hc : (envOfC d.name d.scope s.heap.objs.size f cd).cells = cellsAt d s.heap.objs.size := rfl
  have hL : (envOfC d.name d.scope s.heap.objs.size f cd).locals = s.heap.objs.size := rfl
  have new : ∀ b, s.heap.objs.size ≤ b → s.heap.get? b = none := fun b q => by
    cases z : s.heap.get? b with
    | none => rfl
    | some o => exact absurd (Heap.lt_size z) (Nat.not_lt.mpr q)
  have newE : ∀ b ∈ hidE d s.heap.objs.size, s.heap.objs.size ≤ b := fun b q => by
    rcases List.mem_cons.mp q with rfl | q
    · exact Nat.le_refl _
    · obtain ⟨p, hp, rfl⟩ := List.mem_map.mp q
      exact Nat.le_of_lt (C.above p.1 p.2 hp)
  have cellm : ∀ x c, (x, c) ∈ cellsAt d s.heap.objs.size → h₁.IsCell c (cm x) := fun x c q =>
    C.cell x c (lookup_of_mem_nodup (cellsFrom_names d.scope.names 0 (s.heap.objs.size + 1) [] [] rfl ▸ hnd) q)
  have k := fz_new (mu := mu) (nw := hidE d s.heap.objs.size) F.keep fun b q => new b (newE b q)
  have base_new : ∀ b, s.heap.objs.size ≤ b → K.β.hb.get? b = none := fun b q => by
    cases z : K.β.hb.get? b with
    | none => rfl
    | some o => have := hb _ _ z; rw [new b q] at this; cases this
  have ownE : ∀ b ∈ own (envOfC d.name d.scope s.heap.objs.size f cd) N, b ∈ hidE d s.heap.objs.size ∨ b ∈ N.map (·.1) := fun b q => List.mem_append.mp q
  refine ⟨⟨fun b o e => F.keep b o (hb b o e), fun b q => ?_, ⟨hk, rfl, rfl⟩, fun x t e => ?_, ⟨m, F.ns⟩, fun x c q => ⟨_, cellm x c q⟩, fun p hp => ?_, fun b q => ?_, ?_, fun b q => ?_⟩, Chg.of_ext F.keep, fun b q => ?_⟩
  · rcases ownE b q with q | q
    · exact base_new b (newE b q)
    · obtain ⟨p, hp, rfl⟩ := List.mem_map.mp q
      exact (HN.2 p hp).2.1
  · rcases HB.look e with ⟨kx, v, e1, e2⟩ | ⟨kx, c, v, e1, e2, e3⟩
    · exact .inl ⟨kx, m, v, F.ns, e1, t.mono _ _ v e2 k⟩
    · exact .inr ⟨.inl kx, c, v, e1, e2 ▸ C.cell x c e1, t.mono _ _ v e3 k⟩
  · obtain ⟨_, _, its, h1, h2⟩ := HN.2 p hp
    exact ⟨its, plain_ext h1 F.keep, h2.mono k⟩
  · rcases ownE b q with q | q
    · exact List.mem_append_left _ q
    · obtain ⟨p, hp, rfl⟩ := List.mem_map.mp q
      exact List.mem_append_right _ (HN.2 p hp).1
  · show (hidE d s.heap.objs.size ++ N.map (·.1)).Nodup
    refine List.nodup_append.mpr ⟨List.nodup_cons.mpr ⟨fun q => ?_, ?_⟩, HN.1, fun x hx y hy z => ?_⟩
    · obtain ⟨p, hp, e⟩ := List.mem_map.mp q
      have := C.above p.1 p.2 hp
      rw [e] at this; exact Nat.lt_irrefl _ this
    · rw [List.nodup_iff_pairwise_ne, List.pairwise_map]
      exact C.apart
    · obtain ⟨p, hp, rfl⟩ := List.mem_map.mp hy
      obtain ⟨o, e⟩ := hl _ (HN.2 p hp).1
      have h1 := Heap.lt_size e
      have h2 := newE x hx
      rw [z] at h2
      exact absurd h1 (Nat.not_lt.mpr h2)
  · rcases List.mem_append.mp q with q | q
    · rcases List.mem_cons.mp q with rfl | q
      · exact ns_live F.ns
      · obtain ⟨p, hp, rfl⟩ := List.mem_map.mp q
        obtain ⟨o, e, _⟩ := cellm p.1 p.2 hp
        exact ⟨o, e⟩
    · obtain ⟨o, e⟩ := hl b q
      exact ⟨o, F.keep b o e⟩
  · rcases ownE b q with q | q
    · exact .inl (new b (newE b q))
    · exact .inr q

/-- a def is entered -/
theorem enter {d : FD} {f : Addr} {R : Result → Shared → Prop} {vals : List Value} {binds : List (Str × Value)} (hd : K.β.HasDef d f) (hA : A.depth < recursionLimit) (hb : Ext K.β.hb s.heap)
    (hbind : ∀ pm cd doc, bindArgs (Calls.docDef d.name d.params d.body d.scope pm cd doc) ⟨vals, []⟩ = pure binds)
    (hkind : (binds.all fun y => d.scope.names.lookup y.1 == some .local || d.scope.names.lookup y.1 == some .cell) = true)
    (hk : d.scope.kind = .function) (hco : d.scope.isCoroutine = false) (hgen : d.scope.isGenerator = false)
    (k : ∀ cd h₁ tk, Fr s.heap s.heap.objs.size h₁ (bindL (envOfC d.name d.scope s.heap.objs.size f cd).kindOf binds fun _ => none) →
      PyProof.Rows.Cl s.heap.objs.size (cellsAt d s.heap.objs.size) h₁ (bindC (envOfC d.name d.scope s.heap.objs.size f cd).kindOf binds fun _ => none) →
      wpAny K.M (A.deeper (envOfC d.name d.scope s.heap.objs.size f cd)) (execs d.body (envOfC d.name d.scope s.heap.objs.size f cd))
        (fun fl s' => R (.ok (.ret (match fl with | .ret v => v | _ => .none))) s') no (Sx s h₁ tk)) :
    codeAny K.M A (.call (.ref f) ⟨vals, []⟩) R s := by
  obtain ⟨o, pm, cd, doc, _, ho, hdat, hcr⟩ := hd
  exact call_cells_ret hA (hb _ _ ho) hdat (K.β.nolim.keeps hb) (hcr.keeps hb) (hbind pm cd doc) (kindsX hkind _) (fun h₁ tk F C => k cd h₁ tk F C) hco hgen hk

/-- a plain function: entered, walked, left -/
theorem fn_of {d : FD} {f : Addr} {j : Nat} {ts : List Ty} {t : Ty} (hd : K.β.HasDef d f) (hk : d.scope.kind = .function) (hco : d.scope.isCoroutine = false) (hgen : d.scope.isGenerator = false) (hnd : ((cellsFrom 0 d.scope.names []).map (·.1)).Nodup)
    (H : ∀ vals, All2 (fun _ (_ : Ty) => True) vals ts → ∃ binds, (∀ pm cd doc, bindArgs (Calls.docDef d.name d.params d.body d.scope pm cd doc) ⟨vals, []⟩ = pure binds) ∧
      (binds.all fun y => d.scope.names.lookup y.1 == some .local || d.scope.names.lookup y.1 == some .cell) = true ∧
      ∀ L cd g, All2 (fun v t => t.P g v) vals ts → Binds (envOfC d.name d.scope L f cd).kindOf (cellsAt d L) (bindL (envOfC d.name d.scope L f cd).kindOf binds fun _ => none) (bindC (envOfC d.name d.scope L f cd).kindOf binds fun _ => none) g Γ)
    (W : ∀ A L cd mu h₀ s (Q : Flow → Shared → Prop), AOk j A → At K h₀ [] (envOfC d.name d.scope L f cd) Γ [] mu s.heap →
      (∀ fl h' tk mu' Γ' N', At K h₀ [] (envOfC d.name d.scope L f cd) Γ' N' mu' h' → (∀ b ∈ mu, b ∈ mu') → t.P (fz h' mu') (match fl with | .ret v => v | _ => .none) → Q fl (Sx s h' tk)) →
      wpAny K.M A (execs d.body (envOfC d.name d.scope L f cd)) Q no s) : Fn K (j + 1) f ts t := fun A hA mu s vs hb hl p => by
  obtain ⟨binds, h1, h2, h3⟩ := H vs (p.imp fun _ _ _ => trivial)
  refine wpAny_call (enter hd hA.room hb h1 h2 hk hco hgen fun cd h₁ tk F C => ?_)
  have a := fn_at (N := []) (f := f) (cd := cd) hb hl hk hnd F C ⟨List.nodup_nil, fun _ q => (nomatch q)⟩ (h3 _ cd _ p)
  refine W _ _ _ _ _ (Sx s h₁ tk) _ hA.deeper a fun fl h' tk' mu' Γ' N' a' hm q => ?_
  exact ⟨h', tk', rfl, a'.chg.ext, t.mono _ _ _ q (fz_less fun b hb => hm b (List.mem_append_right _ hb))⟩
/-- one that changes the list given first -/
theorem fnM_of {d : FD} {f : Addr} {j : Nat} {ts : List Ty} {t : Ty} {ds ds' : List PyData} {Γ : Addr → Gam} (hd : K.β.HasDef d f) (hk : d.scope.kind = .function) (hco : d.scope.isCoroutine = false) (hgen : d.scope.isGenerator = false) (hnd : ((cellsFrom 0 d.scope.names []).map (·.1)).Nodup)
    (H : ∀ a vals, All2 (fun _ (_ : Ty) => True) vals ts → ∃ binds, (∀ pm cd doc, bindArgs (Calls.docDef d.name d.params d.body d.scope pm cd doc) ⟨.ref a :: vals, []⟩ = pure binds) ∧
      (binds.all fun y => d.scope.names.lookup y.1 == some .local || d.scope.names.lookup y.1 == some .cell) = true ∧
      ∀ L cd g, All2 (fun v t => t.P g v) vals ts → Binds (envOfC d.name d.scope L f cd).kindOf (cellsAt d L) (bindL (envOfC d.name d.scope L f cd).kindOf binds fun _ => none) (bindC (envOfC d.name d.scope L f cd).kindOf binds fun _ => none) g (Γ a))
    (W : ∀ A L cd a mu h₀ s (Q : Flow → Shared → Prop), AOk j A → At K h₀ [a] (envOfC d.name d.scope L f cd) (Γ a) [(a, ds)] mu s.heap →
      (∀ fl h' tk mu' Γ', At K h₀ [a] (envOfC d.name d.scope L f cd) Γ' [(a, ds')] mu' h' → (∀ b ∈ mu, b ∈ mu') → t.P (fz h' mu') (match fl with | .ret v => v | _ => .none) → Q fl (Sx s h' tk)) →
      wpAny K.M A (execs d.body (envOfC d.name d.scope L f cd)) Q no s) : FnM K (j + 1) f ts t ds ds' := fun A hA a mu s vs hb hl ha hna hli p => by
  obtain ⟨binds, h1, h2, h3⟩ := H a vs (p.imp fun _ _ _ => trivial)
  refine wpAny_call (enter hd hA.room hb h1 h2 hk hco hgen fun cd h₁ tk F C => ?_)
  have z := fn_at (N := [(a, ds)]) (f := f) (cd := cd) hb hl hk hnd F C ⟨by simp, fun q hq => by rw [List.mem_singleton.mp hq]; exact ⟨ha, hna, hli⟩⟩ (h3 _ cd _ p)
  refine W _ _ _ a _ _ (Sx s h₁ tk) _ hA.deeper z fun fl h' tk' mu' Γ' a' hm q => ?_
  obtain ⟨its, l, r⟩ := a'.sat.lists (a, ds') (by simp)
  exact ⟨h', tk', its, rfl, a'.chg, l, r.mono (fz_less fun b hb => hm b (List.mem_append_right _ hb)), t.mono _ _ _ q (fz_less fun b hb => hm b (List.mem_append_right _ hb))⟩
end
end Mine

namespace Mine

/-- a range object -/
def tR (a b : Int) : Ty := ⟨fun g v => ∃ r t u w, v = .ref r ∧ IsRange g r a b 1 t u w, fun g g' v x k => let ⟨r, t, u, w, e, p⟩ := x; ⟨r, t, u, w, e, k _ _ p⟩⟩

/-- an iterator at hand, after i items -/
structure ItAt (K : Wd) (A : Around) (I : Addr) (n : Nat) (T : Nat → Ty) (i : Nat) (mu : List Addr) (h : Heap) : Prop where
  ex : ∃ fp P St, Walks K.prog K.w A I fp [I] n P St ∧ St i h ∧ (∀ j h, St j h → ∃ o, h.get? I = some o) ∧
    (∀ target j (v : Value) (s : Shared) (Q : Unit → Shared → Prop) (E : Value → Shared → Prop), St j s.heap → Q () s → wpAny K.M A (letOwnedTupleGo target (.ref I) v) Q E s) ∧
    (∀ j v, j < n → P j v → (T j).P (fz h mu) v) ∧ (∀ b ∈ fp, b = I ∨ (b ∉ mu ∧ ∃ o, h.get? b = some o))
  hI : I ∈ mu
  le : i ≤ n
  sz : n ≤ sizeLine

section
variable {K : Wd} {A : Around} {env : Env} {Γ Γ' : Gam} {N N' : Led} {mu mu' : List Addr} {s : Shared} {h₀ h h' : Heap} {D : List Addr} {I : Addr} {n i : Nat} {T : Nat → Ty}
theorem ItAt.step {O : List Addr} (a : ItAt K A I n T i mu h) (c : Chg O h h') (hO : ∀ b ∈ O, b ∈ mu) (hI : I ∉ O) : ItAt K A I n T i mu h' := by
  obtain ⟨⟨fp, P, St, W, st, hl, go, ty, off⟩, x1, x2, x3⟩ := a
  refine ⟨⟨fp, P, St, W, W.frame _ _ _ st fun b hb o e => ?_, hl, go, fun j v hj p => (T j).mono _ _ _ (ty j v hj p) (fz_chg c hO), fun b hb => ?_⟩, x1, x2, x3⟩
  · rcases off b hb with rfl | ⟨q, _⟩
    · exact c.keep _ _ hI e
    · exact c.keep _ _ (fun z => q (hO b z)) e
  · rcases off b hb with q | ⟨q, o, e⟩
    · exact .inl q
    · exact .inr ⟨q, c.live b o e⟩
theorem ItAt.ext (a : ItAt K A I n T i mu h) (k : Ext h h') : ItAt K A I n T i mu h' := a.step (Chg.of_ext (D := []) k) (fun _ q => nomatch q) (fun q => nomatch q)
theorem ItAt.more {nw : List Addr} (a : ItAt K A I n T i mu h) (k : Ext h h') (hn : ∀ b ∈ nw, h.get? b = none) : ItAt K A I n T i (nw ++ mu) h' := by
  obtain ⟨⟨fp, P, St, W, st, hl, go, ty, off⟩, x1, x2, x3⟩ := a
  refine ⟨⟨fp, P, St, W, W.frame _ _ _ st fun b hb o e => k b o e, hl, go, fun j v hj p => (T j).mono _ _ _ (ty j v hj p) (fz_new k hn), fun b hb => ?_⟩, List.mem_append_right _ x1, x2, x3⟩
  rcases off b hb with q | ⟨q, o, e⟩
  · exact .inl q
  · refine .inr ⟨fun z => ?_, o, k b o e⟩
    rcases List.mem_append.mp z with z | z
    · rw [hn b z] at e; cases e
    · exact q z
/-- the next item -/
theorem ItAt.next {target : Expr} {Q : Option Value → Shared → Prop} {E : Value → Shared → Prop} (a : ItAt K A I n T i mu s.heap)
    (k : i < n → ∀ v h' tk, Chg [I] s.heap h' → ItAt K A I n T (i + 1) mu h' → (T i).P (fz h' mu) v →
      (∀ target (s' : Shared) (Q' : Unit → Shared → Prop) (E' : Value → Shared → Prop), s'.heap = h' → Q' () s' → wpAny K.M A (letOwnedTupleGo target (.ref I) v) Q' E' s') → Q (some v) (Sx s h' tk))
    (d : i = n → ∀ h' tk, (∀ b o, b ≠ I → s.heap.get? b = some o → h'.get? b = some o) → Q none (Sx s h' tk)) : wpAny K.M A (pyNext (.ref I)) Q E s := by
  obtain ⟨⟨fp, P, St, W, st, hl, go, ty, off⟩, x1, x2, x3⟩ := a
  by_cases hi : i < n
  · refine W.item i s _ _ hi st fun v h' tk p st' kp => ?_
    have c : Chg [I] s.heap h' := ⟨fun b o hb e => kp b o hb e, fun b o e => by
      by_cases q : b = I
      · subst q; exact hl _ _ st'
      · exact ⟨o, kp b o (by simpa using q) e⟩⟩
    have hIm : ∀ b ∈ [I], b ∈ mu := fun b hb => by rw [List.mem_singleton.mp hb]; exact x1
    refine k hi v h' tk c ⟨⟨fp, P, St, W, st', hl, go, fun j v hj p => (T j).mono _ _ _ (ty j v hj p) (fz_chg c hIm), fun b hb => ?_⟩, x1, hi, x3⟩ ((T i).mono _ _ _ (ty i v hi p) (fz_chg c hIm)) fun target s' Q' E' e q => go target (i + 1) v s' Q' E' (e ▸ st') q
    rcases off b hb with q | ⟨q, o, e⟩
    · exact .inl q
    · exact .inr ⟨q, c.live b o e⟩
  · have e : i = n := Nat.le_antisymm x2 (Nat.not_lt.mp hi)
    subst e
    exact W.done s _ _ st fun h' tk kp => d rfl h' tk fun b o hb e => kp b o (by simpa using hb) e

def It (K : Wd) (A : Around) (env : Env) (Γ : Gam) (N : Led) (e : Expr) (n : Nat) (T : Nat → Ty) : Prop :=
  ∀ mu s, Sat K.β env Γ N mu s.heap → wpAny K.M A (eval e env) (fun x s₁ => wpAny K.M A (pyIter x) (fun it s₂ => ∃ I h' tk, it = .ref I ∧ s₂ = Sx s h' tk ∧ Ext s.heap h' ∧ s.heap.get? I = none ∧ (∃ o, h'.get? I = some o) ∧ ItAt K A I n T 0 ([I] ++ mu) h') no s₁) no s
theorem It.use {e : Expr} {Q : Value → Shared → Prop} {E : Value → Shared → Prop} (x : It K A env Γ N e n T) (S : Sat K.β env Γ N mu s.heap)
    (k : ∀ I h' tk, Ext s.heap h' → s.heap.get? I = none → (∃ o, h'.get? I = some o) → ItAt K A I n T 0 ([I] ++ mu) h' → Q (.ref I) (Sx s h' tk)) : wpAny K.M A (eval e env) (fun x s₁ => wpAny K.M A (pyIter x) Q E s₁) E s :=
  wpAny_mono (x mu s S) (fun v s₁ h₁ => wpAny_mono h₁ (by rintro it s₂ ⟨I, h', tk, rfl, rfl, a, b, c, d⟩; exact k I h' tk a b c d) fun _ _ f => f.elim) fun _ _ f => f.elim

theorem It.congr {e : Expr} {T' : Nat → Ty} (x : It K A env Γ N e n T) (h : ∀ i, i < n → T i = T' i) : It K A env Γ N e n T' := fun mu s S =>
  wpAny_mono (x mu s S) (fun v s₁ h₁ => wpAny_mono h₁ (by
    rintro it s₂ ⟨I, h', tk, rfl, rfl, a, b, c, ⟨⟨fp, P, St, W, st, hl, go, ty, off⟩, x1, x2, x3⟩⟩
    exact ⟨I, h', tk, rfl, rfl, a, b, c, ⟨⟨fp, P, St, W, st, hl, go, fun j v hj p => h j hj ▸ ty j v hj p, off⟩, x1, x2, x3⟩⟩) fun _ _ f => f) fun _ _ f => f
theorem it_list {e : Expr} {ds : List PyData} {k : Nat} (hA : AOk k A) (x : Ev K A env Γ N e (tL ds)) (hz : ds.length ≤ sizeLine) : It K A env Γ N e ds.length (fun i => dat (ds.getD i .none)) := fun mu s S =>
  x.use S fun v h1 k1 e1 p1 => by
    obtain ⟨a, its, rfl, l, r⟩ := RD.list_inv p1
    have l' := isList_ext l (fz_ext _ _)
    have hlt : a < h1.objs.size := by obtain ⟨o, e, _⟩ := l'; exact Heap.lt_size e
    have hsz : its.size = ds.length := by have := rds_length r; simpa using this
    refine wpAny_pyIter_list (s := Sx s h1 k1) l' ?_
    have up := Ext.push h1 { cls := .type "list_iterator", data := .fields #[.ref a, .int 0 0] }
    have hfresh : s.heap.get? h1.objs.size = none := by
      cases q : s.heap.get? h1.objs.size with
      | none => rfl
      | some o => exact absurd (Heap.lt_size (e1 _ _ q)) (Nat.lt_irrefl _)
    have hfresh' : h1.get? h1.objs.size = none := by
      cases q : h1.get? h1.objs.size with
      | none => rfl
      | some o => exact absurd (Heap.lt_size q) (Nat.lt_irrefl _)
    have hamu : a ∉ mu := by obtain ⟨_, e⟩ := l; exact (fz_get e).2
    refine ⟨h1.objs.size, _, k1, rfl, rfl, e1.trans up, hfresh, ⟨_, Heap.get?_push_size _ rfl⟩, ⟨⟨_, _, _, Walks.list hA.h h1.objs.size a (Nat.ne_of_lt hlt) its, ⟨⟨_, Heap.get?_push_size _ rfl, rfl, rfl⟩, l'.push _⟩, fun j h st => by obtain ⟨o, e, _⟩ := st.1; exact ⟨o, e⟩, ?_, ?_, ?_⟩, by simp, by omega, by rw [hsz]; exact hz⟩ |> fun z => hsz ▸ z⟩
    · intro target j v s Q E st hQ
      cases target <;> try exact wpAny_pure hQ
      all_goals
        cases v <;> try exact wpAny_pure hQ
        exact wpAny_letOwnedTupleGo_listiter (elts := []) (x1 := 0) (pos := default) st.1 hQ
    · intro j v _ p
      have p' : its.toList[j]? = some v := by simpa using p
      obtain ⟨d, hd, hr⟩ := All2.get' r j v p'
      have : ds.getD j .none = d := by simp [List.getD, hd]
      show RD _ v (ds.getD j .none)
      rw [this]
      exact RD.mono hr (fz_new up fun b hb => by rw [List.mem_singleton.mp hb]; exact hfresh')
    · intro b hb
      rcases List.mem_cons.mp hb with rfl | hb
      · exact .inl rfl
      · rw [List.mem_singleton.mp hb]
        obtain ⟨o, e, _⟩ := l'
        refine .inr ⟨fun q => ?_, o, up _ _ e⟩
        rcases List.mem_append.mp q with q | q
        · rw [List.mem_singleton.mp q] at hlt; exact Nat.lt_irrefl _ hlt
        · exact hamu q
end
end Mine

namespace Mine
section
variable {K : Wd} {A : Around} {env : Env} {Γ Γ' : Gam} {N N' : Led} {mu mu' : List Addr} {s : Shared} {h₀ h h' : Heap} {D : List Addr} {I : Addr} {n i : Nat} {T : Nat → Ty}
theorem fresh_size (k : Ext h h') : h.get? h'.objs.size = none := by
  cases q : h.get? h'.objs.size with
  | none => rfl
  | some o => exact absurd (Heap.lt_size (k _ _ q)) (Nat.lt_irrefl _)

theorem call_go {f : Str} {p pos : Pos} {e : Expr} {es : List Expr} {u : Value} {ts : List Ty} {Q : Value → Shared → Prop} {E : Value → Shared → Prop} (x : Ev K A env Γ N (.Name f p) (isv u)) (hk : Kept K.β u) (y : Evs K A env Γ N (e :: es) ts) (S : Sat K.β env Γ N mu s.heap)
    (c : ∀ vs h' tk, Ext s.heap h' → Sat K.β env Γ N mu h' → All2 (fun v t => t.P (fz h' mu) v) vs ts → wpAny K.M A (call u vs) Q E (Sx s h' tk))
    (he : starEach (e :: es) env = (false, eval e env) :: starEach es env := by rfl) (hp : (backTo pos (starEach es env)).any (·.1) = false := by rfl) : wpAny K.M A (eval (.Call (.Name f p) (e :: es) [] pos) env) Q E s :=
  wpAny_Call_Name_kw (x.use S fun v h1 k1 e1 p1 => by
    have p1 : v = u := p1
    subst p1
    have y' := (y pos mu (Sx s h1 k1) (S.ext e1))
    rw [he] at y' ⊢
    refine callWith_of (P := fun h => Ext K.β.hb h) (by show ((false || (backTo pos (starEach es env)).any (·.1)) || false) = false; rw [hp]; rfl) (fun h eh => hk.looks h eh) (Calls.evalArgs_plain ?_)
    refine wpAny_mono y' ?_ fun _ _ z => z.elim
    rintro vs s' ⟨h2, k2, rfl, e2, p2⟩
    have S2 := S.ext (e1.trans e2)
    exact ⟨S2.base, c vs h2 k2 (e1.trans e2) S2 p2⟩)

/-! ranges -/
theorem cl_range1 {b : Int} : Cl K A (.type "range") [tI b] (tR 0 b) := fun mu s vs _ hl p => by
  cases p with
  | cons q r =>
    cases r
    obtain ⟨t, rfl⟩ := RD.int_inv q
    exact Gives.of fun Q k => call_range_1 (k _ _ _ (Ext.push _ _) ⟨_, _, _, _, rfl, fz_of (Heap.get?_push_size _ rfl) (new_off hl (Nat.le_refl _))⟩)
theorem cl_range2 {a b : Int} : Cl K A (.type "range") [tI a, tI b] (tR a b) := fun mu s vs _ hl p => by
  cases p with
  | cons q r =>
    cases r with
    | cons q' r =>
      cases r
      obtain ⟨t, rfl⟩ := RD.int_inv q
      obtain ⟨t', rfl⟩ := RD.int_inv q'
      exact Gives.of fun Q k => call_range_2 (k _ _ _ (Ext.push _ _) ⟨_, _, _, _, rfl, fz_of (Heap.get?_push_size _ rfl) (new_off hl (Nat.le_refl _))⟩)
theorem owned_pure {target : Expr} {v : Value} {o : Obj} {nm : String} {vs : Array Value} {Q : Unit → Shared → Prop} {E : Value → Shared → Prop} (ho : s.heap.get? I = some o) (hc : o.cls = .type nm) (hd : o.data = .fields vs)
    (hn : (["enumerate", "zip", "dict_itemiterator", "dict_reverseitemiterator", "odict_iterator", "itertools.zip_longest", "itertools.pairwise"].contains nm) = false) (hQ : Q () s) :
    wpAny K.M A (letOwnedTupleGo target (.ref I) v) Q E s := by
  cases target <;> try exact wpAny_pure hQ
  all_goals
    cases v <;> try exact wpAny_pure hQ
    rename_i a
    show wpAny K.M A (load I >>= _) _ _ _
    refine wpAny_bind (wpAny_load ho ?_)
    rw [hc, hd]
    dsimp only
    rw [hn]
    exact wpAny_pure hQ
theorem it_range {e : Expr} {a b : Int} {n : Nat} {k : Nat} (hA : AOk k A) (x : Ev K A env Γ N e (tR a b)) (hn : b - a = n ∨ (b ≤ a ∧ n = 0)) (h1 : -(2 ^ 62) ≤ a) (h2 : a < 2 ^ 62) (h3 : -(2 ^ 62) ≤ b) (h4 : b < 2 ^ 62) (hz : n ≤ sizeLine) : It K A env Γ N e n (fun i => tI (a + i)) := fun mu s S =>
  x.use S fun v h1' k1 e1 p1 => by
    obtain ⟨r, t, u, w, rfl, hr⟩ := p1
    have hr' : IsRange h1' r a b 1 t u w := (fz_get hr).1
    refine wpAny_pyIter_range (s := Sx s h1' k1) hr' (small_one h1 h2 h3 h4) ?_
    have hsz : Builtin.Range.rangeSize a b 1 = (n : Int) := by rw [rangeSize_one]; split <;> omega
    have up := Ext.push h1' { cls := .type "range_iterator", data := .fields #[rawInt a, rawInt (Builtin.Range.rangeSize a b 1), rawInt 1] }
    refine ⟨h1'.objs.size, _, k1, rfl, rfl, e1.trans up, fresh_size e1, ⟨_, Heap.get?_push_size _ rfl⟩, ⟨⟨_, _, _, LCg.range_walks hA.h a n, ?_, fun j h st => ⟨_, st⟩, fun target j v s Q E st hQ => owned_pure st rfl rfl (by decide) hQ, fun j v _ p => ?_, fun b hb => ?_⟩, by simp, by omega, hz⟩⟩
    · show IsRangeIter _ _ _ _ _
      rw [hsz]; simpa using Heap.get?_push_size _ rfl
    · obtain ⟨t, rfl⟩ := p; exact RD.int _ _ _
    · exact .inl (List.mem_singleton.mp hb)

theorem sub_ri_reversed : isSubtype (.type "range_iterator") (.type "reversed") = pure false := by rw [isSubtype_type]; kernel_rfl
theorem rangeFields_at {r : Addr} {a b c : Int} {t u w : Tok} {Q : Int × Int × Int → Shared → Prop} {E : Value → Shared → Prop} (hr : IsRange s.heap r a b c t u w) (h : Q (a, b, c) s) : wpAny K.M A (Builtin.Range.rangeFields (.ref r)) Q E s := by
  unfold Builtin.Range.rangeFields
  refine wpAny_bind (wpAny_field (vs := #[.int a t, .int b u, .int c w]) hr rfl (x := .int a t) rfl ?_)
  refine wpAny_bind (wpAny_of_eq (a := some a) rfl ?_)
  refine wpAny_bind (wpAny_field (vs := #[.int a t, .int b u, .int c w]) hr rfl (x := .int b u) rfl ?_)
  refine wpAny_bind (wpAny_of_eq (a := some b) rfl ?_)
  refine wpAny_bind (wpAny_field (vs := #[.int a t, .int b u, .int c w]) hr rfl (x := .int c w) rfl ?_)
  exact wpAny_bind (wpAny_of_eq (a := some c) rfl (wpAny_pure h))
theorem fitsLong {i : Int} (a : -(2 ^ 63) ≤ i) (b : i < 2 ^ 63) : Builtin.Range.rangeFitsLong i = true := by unfold Builtin.Range.rangeFitsLong; simp; omega
theorem call_rangerev {r : Addr} {m : Nat} {t u w : Tok} {Q : Value → Shared → Prop} {E : Value → Shared → Prop} (hr : IsRange s.heap r 0 m 1 t u w) (hm : m < 2 ^ 62)
    (h : Q (.ref s.heap.objs.size) { s with heap := s.heap.push { cls := .type "range_iterator", data := .fields #[rawInt ((m : Int) - 1), rawInt m, rawInt (-1)] } }) : wpAny K.M A (call (.builtin "range.__reversed__") [.ref r]) Q E s := by
  have hT : s.TypeIs (.ref r) "range" := ⟨_, hr, rfl⟩
  refine wpAny_call_entry F.slot_range_reversed hT F.entry_range_reversed ?_ (F.args_range_reversed_1 _)
  unfold Builtin.«range.__reversed__»
  refine wpAny_bind (wpAny_of_eq (a := Value.ref r) rfl ?_)
  have hsz : Builtin.Range.rangeSize 0 (m : Int) 1 = (m : Int) := by rw [rangeSize_one]; split <;> omega
  refine wpAny_bind (rangeFields_at hr ?_)
  dsimp only
  rw [hsz]
  have e : (0 : Int) + ((m : Int) - 1) * 1 = (m : Int) - 1 := by omega
  rw [e, fitsLong (i := 0) (by omega) (by omega), fitsLong (i := (m : Int)) (by omega) (by omega), fitsLong (i := 1) (by omega) (by omega), fitsLong (i := -1) (by omega) (by omega), fitsLong (i := 0 - 1) (by omega) (by omega)]
  simp only [Bool.and_true, Bool.not_true, Bool.false_eq_true, if_false, if_true]
  exact wpAny_bind (wpAny_newObj_type (wpAny_pure ⟨_, rfl, h⟩))
theorem code_rangerev {r : Addr} {m : Nat} {t u w : Tok} {Q : Value → Shared → Prop} {E : Value → Shared → Prop} (hr : IsRange s.heap r 0 m 1 t u w) (hm : m < 2 ^ 62)
    (h : Q (.ref s.heap.objs.size) { s with heap := s.heap.push { cls := .type "range_iterator", data := .fields #[rawInt ((m : Int) - 1), rawInt m, rawInt (-1)] } }) :
    codeAny K.M A (.call (.builtin "reversed.__new__") ⟨[.type "reversed", .ref r], []⟩) (wants Q E) s := by
  have hT : s.TypeIs (.ref r) "range" := ⟨_, hr, rfl⟩
  refine codeAny_of_tree ?_
  show wpAny _ A.in1 (do checkBuiltinCall "reversed.__new__" ⟨[.type "reversed", .ref r], []⟩; again (.builtin "reversed.__new__" ⟨[.type "reversed", .ref r], []⟩)) _ _ s
  refine wpAny_bind (wpAny_of_eq (F.newCall_reversed_1 _) (wpAny_pure ⟨plainId_quiet F.plain_reversed_new _, codeAny_builtin F.entry_reversed_new ?_⟩))
  rw [Around.under_plainId F.plain_reversed_new _]
  unfold Builtin.«reversed.__new__»
  refine wpAny_bind (wpAny_of_eq (newClass_reversed _) ?_)
  refine wpAny_bind (wpAny_of_eq (a := ()) (by first | rfl | kernel_rfl) ?_)
  refine wpAny_bind (wpAny_of_eq (a := ()) (by first | rfl | kernel_rfl) ?_)
  refine wpAny_bind (wpAny_specialOf hT F.slot_range_reversed.lookup ?_)
  refine wpAny_bind (wpAny_of_eq (F.slot_range_reversed.bind _) ?_)
  show wpAny _ _ (if (Value.builtin "range.__reversed__" == Value.none) = true then _ else _) _ _ _
  rw [if_neg (show ¬ ((Value.builtin "range.__reversed__" == Value.none) = true) from Bool.false_ne_true)]
  refine wpAny_bind (wpAny_rule ?_)
  refine wpAny_bind (m := runValue (.call (.builtin "range.__reversed__") ⟨[.ref r], []⟩)) (show wpAny _ _ (call (.builtin "range.__reversed__") [.ref r]) _ _ _ from call_rangerev hr hm ?_)
  first
  | exact wpAny_pure h
  | exact wpAny_bind (wpAny_pure (wpAny_pure h))
theorem call_reversed_range {r : Addr} {m : Nat} {t u w : Tok} {Q : Value → Shared → Prop} {E : Value → Shared → Prop} (hr : IsRange s.heap r 0 m 1 t u w) (hm : m < 2 ^ 62)
    (h : Q (.ref s.heap.objs.size) { s with heap := s.heap.push { cls := .type "range_iterator", data := .fields #[rawInt ((m : Int) - 1), rawInt m, rawInt (-1)] } }) : wpAny K.M A (call (.type "reversed") [.ref r]) Q E s := by
  refine callType_other (U := "range_iterator") (Q₁ := fun obj s₁ => obj = .ref s.heap.objs.size ∧ s₁ = { s with heap := s.heap.push { cls := .type "range_iterator", data := .fields #[rawInt ((m : Int) - 1), rawInt m, rawInt (-1)] } }) (by decide +kernel) F.create_reversed ⟨_, _, F.mro_reversed⟩ F.made_reversed sub_ri_reversed (F.typeCall_reversed_1 _) (code_rangerev hr hm ⟨rfl, rfl⟩) ?_
  rintro obj s₁ ⟨rfl, rfl⟩
  exact ⟨⟨_, Heap.get?_push_size _ rfl, rfl⟩, h⟩

theorem it_reversed {f : Str} {p pos : Pos} {e : Expr} {m k : Nat} (hA : AOk k A) (x : Ev K A env Γ N (.Name f p) (isv (.type "reversed"))) (y : Ev K A env Γ N e (tR 0 m)) (hm : m < 2 ^ 62) (hz : m ≤ sizeLine)
    (he : starEach [e] env = (false, eval e env) :: starEach [] env := by rfl) : It K A env Γ N (.Call (.Name f p) [e] [] pos) m (fun i => tI ((m : Int) - 1 - i)) := fun mu s S =>
  call_go x (.inr (.inl ⟨_, rfl⟩)) (Evs.cons y Evs.nil he) S (fun vs h1 k1 e1 S1 p1 => by
    cases p1 with
    | cons q r =>
      cases r
      obtain ⟨r, t, u, w, rfl, hr⟩ := q
      refine call_reversed_range (s := Sx s h1 k1) (fz_get hr).1 hm ?_
      have up := Ext.push h1 { cls := .type "range_iterator", data := .fields #[rawInt ((m : Int) - 1), rawInt m, rawInt (-1)] }
      have st : IsRangeIter (h1.push { cls := .type "range_iterator", data := .fields #[rawInt ((m : Int) - 1), rawInt m, rawInt (-1)] }) h1.objs.size ((m : Int) - 1) m (-1) := Heap.get?_push_size _ rfl
      refine wpAny_pyIter_rangeiter (s := Sx s _ k1) st ?_
      refine ⟨h1.objs.size, _, k1, rfl, rfl, e1.trans up, fresh_size e1, ⟨_, Heap.get?_push_size _ rfl⟩, ⟨⟨_, _, _, Walks.range hA.h h1.objs.size ((m : Int) - 1) (-1) m, ?_, fun j h st => ⟨_, st⟩, fun target j v s Q E st hQ => owned_pure st rfl rfl (by decide) hQ, fun j v _ p => ?_, fun b hb => ?_⟩, by simp, by omega, hz⟩⟩
      · show IsRangeIter _ _ _ _ _
        simpa using st
      · obtain ⟨t, rfl⟩ := p
        have e : ((m : Int) - 1 + (j : Int) * (-1)) = (m : Int) - 1 - j := by omega
        show RD _ (.int ((m : Int) - 1 + (j : Int) * (-1)) t) (.int ((m : Int) - 1 - j))
        rw [e]; exact RD.int _ _ _
      · exact .inl (List.mem_singleton.mp hb)) he rfl

/-! targets -/
def Tg (K : Wd) (A : Around) (env : Env) (Γ : Gam) (target : Expr) (t : Ty) (Γ' : Gam) (X : List Addr) : Prop :=
  ∀ N mu (s : Shared) v (Q : Unit → Shared → Prop) (E : Value → Shared → Prop), Sat K.β env Γ N mu s.heap → t.P (fz s.heap mu) v → (∀ h' tk, Sat K.β env Γ' N mu h' → Chg X s.heap h' → Q () (Sx s h' tk)) → wpAny K.M A (assign target env v) Q E s
theorem store_local {x : Str} {t : Ty} {v : Value} {Q : Unit → Shared → Prop} {E : Value → Shared → Prop} (hk : env.kindOf x = some .local) (S : Sat K.β env Γ N mu s.heap) (hv : t.P (fz s.heap mu) v)
    (k : ∀ h' tk, Sat K.β env ((x, t) :: Γ) N mu h' → Chg [env.locals] s.heap h' → Q () (Sx s h' tk)) : wpAny K.M A (storeName env x v) Q E s := by
  obtain ⟨m, hm⟩ := S.frame
  refine wpAny_storeName_local hk hm (fun h' hn hs => ?_) (by rw [S.ok.fn]; rfl)
  obtain ⟨S', c⟩ := S.store_local hk hm hn hs hv
  exact k _ _ S' c
theorem tg_name {x : Str} {p : Pos} {t : Ty} (hk : env.kindOf x = some .local) : Tg K A env Γ (.Name x p) t ((x, t) :: Γ) [env.locals] := fun N mu s v Q E S hv k =>
  wpAny_assign_Name (store_local hk S hv k)
theorem tg_cell {x : Str} {p : Pos} {t : Ty} {c : Addr} (hk : env.kindOf x = some .cell) (hc : env.cells.lookup x = some c) : Tg K A env Γ (.Name x p) t ((x, t) :: Γ) [c] := fun N mu s v Q E S hv k => by
  obtain ⟨v₀, hv₀⟩ := S.cells x c (mem_of_lookup hc)
  refine wpAny_assign_Name (wpAny_storeName_cell S.ok.fn hk hc hv₀ fun h' hn hs => ?_)
  obtain ⟨S', cc⟩ := S.store_cell hk hc hn hs hv
  exact k _ s.toks S' cc
theorem tg_pair {x y : Str} {p q r : Pos} {kk : Nat} {k : Nat} {d e : PyData} (hA : AOk k A) (hx : env.kindOf x = some .local) (hy : env.kindOf y = some .local) : Tg K A env Γ (.Tuple [.Name x p, .Name y q] kk r) (tT [d, e]) ((y, dat e) :: (x, dat d) :: Γ) [env.locals] := fun N mu s v Q E S hv k => by
  obtain ⟨a, its, rfl, l, rs⟩ := RD.tuple_inv hv
  have l' : IsTup s.heap a its := (isTp_ext l (fz_ext _ _)).isTup
  have hsz : its.size = 2 := by have := rds_length rs; simpa using this
  refine assign_Tuple_tuple hA.h l' (by rw [hsz]; rfl) rfl fun h1 hb => ?_
  have e1 : Ext s.heap h1 := fun b o q => hb b o (Nat.ne_of_lt (Heap.lt_size q)) q
  have rs' := RDs.mono rs (fz_mono mu e1)
  generalize its.toList = l at rs'
  cases rs' with
  | cons r1 rs' =>
    cases rs' with
    | cons r2 rs' =>
      cases rs'
      refine wpAny_assignInOrder_more (wpAny_mono (tg_name (p := p) (t := dat d) hx N mu (Sx s h1 s.toks) _ (fun _ s' => _) no (S.ext e1) r1 fun h2 k2 S2 c2 => ?_) (fun _ _ z => z) fun _ _ z => z.elim)
      refine wpAny_assignInOrder_more (wpAny_mono (tg_name (p := q) (t := dat e) hy N mu (Sx s h2 k2) _ (fun _ s' => _) no S2 (RD.mono r2 (fz_chg c2 fun b hb => by rw [List.mem_singleton.mp hb]; exact S2.hid _ own_locals)) fun h3 k3 S3 c3 => ?_) (fun _ _ z => z) fun _ _ z => z.elim)
      exact wpAny_assignInOrder_none (k h3 k3 S3 (((Chg.of_ext e1).trans c2).trans c3))

/-! for -/
theorem At.over {X : List Addr} (a : At K h₀ D env Γ N mu h) (S : Sat K.β env Γ' N mu' h') (c : Chg X h h') (hX : ∀ b ∈ X, b ∈ own env N ∨ h₀.get? b = none) : At K h₀ D env Γ' N mu' h' where
  sat := S
  chg := ⟨fun b o hb e => c.keep b o (fun q => (hX b q).elim (fun z => (a.od b z).elim (fun z => by rw [z] at e; cases e) hb) fun z => by rw [z] at e; cases e) (a.chg.keep b o hb e), fun b o e => let ⟨o', e'⟩ := a.chg.live b o e; c.live b o' e'⟩
  od := a.od
end
end Mine

namespace Mine
section
variable {K : Wd} {A : Around} {env : Env} {Γ Γ' : Gam} {N N' : Led} {mu mu' : List Addr} {s : Shared} {h₀ h h' : Heap} {D : List Addr} {I : Addr} {n i : Nat} {T : Nat → Ty}
variable {Q : Flow → Shared → Prop} {E : Value → Shared → Prop} {rest : List Stmt} {pos p : Pos}
theorem Sat.drop1 (S : Sat K.β env Γ N ([I] ++ mu) h) (kp : ∀ b o, b ≠ I → h.get? b = some o → h'.get? b = some o) (hI : I ∉ own env N) (hb : K.β.hb.get? I = none) (hmu : I ∉ mu) : Sat K.β env Γ N mu h' := by
  have c : Ext (fz h ([I] ++ mu)) (fz h' mu) := fun b o e => by
    obtain ⟨e, q⟩ := fz_get e
    exact fz_of (kp b o (fun z => q (by simp [z])) e) fun z => q (List.mem_append_right _ z)
  have kk : ∀ b, b ∈ own env N → ∀ o, h.get? b = some o → h'.get? b = some o := fun b q o e => kp b o (fun z => hI (z ▸ q)) e
  have hln : ∀ {a : Addr} {m : Str → Option Value}, a ∈ own env N → h.Ns a m → h'.Ns a m := fun q x => let ⟨o, es, ep, e, r⟩ := x; ⟨o, es, ep, kk _ q _ e, r⟩
  have hlc : ∀ {a : Addr} {v : Option Value}, a ∈ own env N → h.IsCell a v → h'.IsCell a v := fun q x => let ⟨o, e, r⟩ := x; ⟨o, kk _ q _ e, r⟩
  have hll : ∀ {a : Addr} {v : Array Value}, a ∈ own env N → h.PlainList a v → h'.PlainList a v := fun q x => let ⟨o, e⟩ := x; ⟨o, kk _ q _ e⟩
  refine ⟨fun b o e => kp b o (fun z => by rw [z, hb] at e; cases e) (S.base b o e), S.low, S.ok, fun x t z => ?_, let ⟨m, hm⟩ := S.frame; ⟨m, hln own_locals hm⟩, fun x c z => let ⟨v, hv⟩ := S.cells x c z; ⟨v, hlc (own_cell z) hv⟩,
    fun p hp => let ⟨its, l, r⟩ := S.lists p hp; ⟨its, hll (own_list hp) l, RDs.mono r c⟩, fun b q => ?_, S.ndup, fun b q => ?_⟩
  · rcases S.vars x t z with ⟨kx, m, v, e1, e2, e3⟩ | ⟨kx, ce, v, e1, e2, e3⟩
    · exact .inl ⟨kx, m, v, hln own_locals e1, e2, t.mono _ _ _ e3 c⟩
    · exact .inr ⟨kx, ce, v, e1, hlc (own_cell (mem_of_lookup e1)) e2, t.mono _ _ _ e3 c⟩
  · rcases List.mem_append.mp (S.hid b q) with z | z
    · exact absurd (List.mem_singleton.mp z ▸ q) hI
    · exact z
  · obtain ⟨o, e⟩ := S.live b (List.mem_append_right _ q)
    exact ⟨o, kp b o (fun z => hmu (z ▸ q)) e⟩
theorem fresh_low (S : Ext K.β.hb h) (hn : h.get? I = none) : K.β.hb.get? I = none := by
  cases z : K.β.hb.get? I with
  | none => rfl
  | some o => have := S _ _ z; rw [hn] at this; cases this
theorem fresh_off (S : Sat K.β env Γ N mu h) (hn : h.get? I = none) : I ∉ mu := fun q => by obtain ⟨o, e⟩ := S.live I q; rw [hn] at e; cases e
theorem own_eq (e : N'.map (·.1) = N.map (·.1)) : own env N' = own env N := by unfold own; rw [e]

theorem x_forJ {target iter : Expr} {body : List Stmt} {X : List Addr} (Γf Γt : Nat → Gam) (Nf : Nat → Led) (J : Nat → Prop) (a : At K h₀ D env Γ N mu s.heap) (hi : It K A env Γ N iter n T) (h0 : Sub (Γf 0) Γ) (hJ0 : J 0) (hN0 : Nf 0 = N) (hN : ∀ i, i ≤ n → (Nf i).map (·.1) = N.map (·.1))
    (hX : ∀ b ∈ X, b ∈ own env N) (tg : ∀ i, Tg K A env (Γf i) target (T i) (Γt i) X)
    (turn : ∀ i mu' h tk (E' : Value → Shared → Prop), i < n → J i → (∀ b ∈ mu, b ∈ mu') → At K h₀ D env (Γt i) (Nf i) mu' h → wpAny K.M A (execs body env) (fun f s' => match f with
      | .next | .cont => ∃ h' tk', s' = Sx s h' tk' ∧ J (i + 1) ∧ At K h (own env N) env (Γf (i + 1)) (Nf (i + 1)) mu' h'
      | .brk => wpAny K.M A (execs rest env) Q E s'
      | .ret v => Q (.ret v) s') E' (Sx s h tk))
    (done : ∀ h tk, J n → At K h₀ D env (Γf n) (Nf n) mu h → wpAny K.M A (execs rest env) Q E (Sx s h tk))
    (hs : ∀ x, foldedSetIterable iter env x = pure x := by intro _; rfl) : wpAny K.M A (execs (.For target iter body [] pos :: rest) env) Q E s := by
  refine wpAny_execs_cons (wpAny_For (hi.use a.sat fun I h1 k1 e1 hI hlI it => ?_) hs)
  have hI₀ : h₀.get? I = none := by
    cases z : h₀.get? I with
    | none => rfl
    | some o => obtain ⟨o', e'⟩ := a.chg.live I o z; rw [hI] at e'; cases e'
  have hIb : K.β.hb.get? I = none := fresh_low a.sat.base hI
  have hImu := fresh_off a.sat hI
  have hIo : I ∉ own env N := fun q => hImu (a.sat.hid _ q)
  have a1 : At K h₀ D env (Γf 0) (Nf 0) ([I] ++ mu) h1 := by
    rw [hN0]
    refine At.over (X := []) a ((a.sat.more e1 (fun b hb => by rw [List.mem_singleton.mp hb]; exact hI) (fun b hb => by rw [List.mem_singleton.mp hb]; exact hlI)).sub h0) (Chg.of_ext e1) fun _ q => nomatch q
  refine codeAny_forLoop_any (fun m s' => ∃ i h tk, m = n - i ∧ s' = Sx s h tk ∧ J i ∧ At K h₀ D env (Γf i) (Nf i) ([I] ++ mu) h ∧ ItAt K A I n T i ([I] ++ mu) h) ?_ (n - 0) ⟨0, h1, k1, rfl, rfl, hJ0, a1, it⟩
  rintro m s' ⟨i, h, tk, rfl, rfl, hJ, a', it'⟩
  have ow : i ≤ n → own env (Nf i) = own env N := fun q => own_eq (hN i q)
  refine it'.next (target := target) (s := Sx s h tk) (fun hlt v h2 k2 c2 it2 p2 go => ?_) (fun e h2 k2 kp => wpAny_execs_nil ?_)
  · have ow := ow (Nat.le_of_lt hlt)
    have c2m : ∀ b ∈ [I], b ∈ [I] ++ mu := fun b hb => List.mem_append_left _ hb
    have S2 : Sat K.β env (Γf i) (Nf i) ([I] ++ mu) h2 := a'.sat.chg c2 c2m (fun b hb => by rw [List.mem_singleton.mp hb, ow]; exact hIo) (fun b hb => by rw [List.mem_singleton.mp hb]; exact hIb)
    have a2 : At K h₀ D env (Γf i) (Nf i) ([I] ++ mu) h2 := a'.over S2 c2 fun b hb => .inr (by rw [List.mem_singleton.mp hb]; exact hI₀)
    refine go target _ _ _ rfl (tg i (Nf i) ([I] ++ mu) (Sx s h2 k2) v _ _ S2 p2 fun h3 k3 S3 c3 => ?_)
    have hX' : ∀ b ∈ X, b ∈ own env (Nf i) := fun b hb => by rw [ow]; exact hX b hb
    have a3 : At K h₀ D env (Γt i) (Nf i) ([I] ++ mu) h3 := a2.over S3 c3 fun b hb => .inl (hX' b hb)
    have it3 : ItAt K A I n T (i + 1) ([I] ++ mu) h3 := it2.step c3 (fun b hb => a2.sat.hid _ (hX' b hb)) fun q => hIo (hX _ q)
    refine wpAny_mono (turn i ([I] ++ mu) h3 k3 _ hlt hJ (fun b hb => List.mem_append_right _ hb) a3) (fun f s' hf => ?_) fun _ _ x => x
    have nx : ∀ h4 k4, J (i + 1) → At K h3 (own env N) env (Γf (i + 1)) (Nf (i + 1)) ([I] ++ mu) h4 → ∃ m, m < n - i ∧ ∃ i h tk, m = n - i ∧ Sx s h4 k4 = Sx s h tk ∧ J i ∧ At K h₀ D env (Γf i) (Nf i) ([I] ++ mu) h ∧ ItAt K A I n T i ([I] ++ mu) h := fun h4 k4 hJ' a4 =>
      ⟨n - (i + 1), by omega, i + 1, h4, k4, rfl, rfl, hJ', a3.join (by rw [ow]; exact a4), it3.step a4.chg (fun b hb => by rw [← ow] at hb; exact a3.sat.hid b hb) hIo⟩
    cases f with
    | next => obtain ⟨h4, k4, rfl, hJ', a4⟩ := hf; exact nx h4 k4 hJ' a4
    | cont => obtain ⟨h4, k4, rfl, hJ', a4⟩ := hf; exact nx h4 k4 hJ' a4
    | brk => exact hf
    | ret v => exact hf
  · subst e
    have ow := ow (Nat.le_refl _)
    have S2 : Sat K.β env (Γf i) (Nf i) mu h2 := a'.sat.drop1 kp (by rw [ow]; exact hIo) hIb hImu
    refine done h2 k2 hJ ⟨S2, ⟨fun b o hb e => kp b o (fun z => by rw [z, hI₀] at e; cases e) (a'.chg.keep b o hb e), fun b o e => ?_⟩, a'.od⟩
    obtain ⟨o', e'⟩ := a'.chg.live b o e
    exact ⟨o', kp b o' (fun z => by rw [z, hI₀] at e; cases e) e'⟩
theorem x_for {target iter : Expr} {body : List Stmt} {X : List Addr} (Γf Γt : Nat → Gam) (Nf : Nat → Led) (a : At K h₀ D env Γ N mu s.heap) (hi : It K A env Γ N iter n T) (h0 : Sub (Γf 0) Γ) (hN0 : Nf 0 = N) (hN : ∀ i, i ≤ n → (Nf i).map (·.1) = N.map (·.1))
    (hX : ∀ b ∈ X, b ∈ own env N) (tg : ∀ i, Tg K A env (Γf i) target (T i) (Γt i) X)
    (turn : ∀ i mu' h tk (E' : Value → Shared → Prop), i < n → (∀ b ∈ mu, b ∈ mu') → At K h₀ D env (Γt i) (Nf i) mu' h → wpAny K.M A (execs body env) (fun f s' => match f with
      | .next | .cont => ∃ h' tk', s' = Sx s h' tk' ∧ At K h (own env N) env (Γf (i + 1)) (Nf (i + 1)) mu' h'
      | .brk => wpAny K.M A (execs rest env) Q E s'
      | .ret v => Q (.ret v) s') E' (Sx s h tk))
    (done : ∀ h tk, At K h₀ D env (Γf n) (Nf n) mu h → wpAny K.M A (execs rest env) Q E (Sx s h tk))
    (hs : ∀ x, foldedSetIterable iter env x = pure x := by intro _; rfl) : wpAny K.M A (execs (.For target iter body [] pos :: rest) env) Q E s :=
  x_forJ Γf Γt Nf (fun _ => True) a hi h0 trivial hN0 hN hX tg (fun i mu' h tk E' hi _ hm z => wpAny_mono (turn i mu' h tk E' hi hm z) (fun f s' hf => by
    cases f with
    | next => obtain ⟨h', tk', e, a⟩ := hf; exact ⟨h', tk', e, trivial, a⟩
    | cont => obtain ⟨h', tk', e, a⟩ := hf; exact ⟨h', tk', e, trivial, a⟩
    | brk => exact hf
    | ret v => exact hf) fun _ _ x => x) (fun h tk _ z => done h tk z) hs
end
end Mine

namespace Mine
section
variable {K : Wd} {A : Around} {env : Env} {Γ Γ' : Gam} {N N' : Led} {mu mu' : List Addr} {s : Shared} {h₀ h h' : Heap} {D : List Addr} {I : Addr} {n i : Nat} {T : Nat → Ty}

theorem Sat.relist {X : List Addr} (S : Sat K.β env Γ N mu h) (c : Chg X h h') (hX : ∀ b ∈ X, b ∈ N.map (·.1)) (e : N'.map (·.1) = N.map (·.1)) (hl : ∀ p ∈ N', ∃ its, h'.PlainList p.1 its ∧ RDs (fz h' mu) its.toList p.2) : Sat K.β env Γ N' mu h' := by
  have inown : ∀ b ∈ X, b ∈ own env N := fun b hb => List.mem_append_right _ (hX b hb)
  have hmu : ∀ b ∈ X, b ∈ mu := fun b hb => S.hid _ (inown b hb)
  have k := fz_chg c hmu
  have nL : ∀ b ∈ X, b ∉ own env [] := fun b hb q => by
    obtain ⟨p, hp, rfl⟩ := List.mem_map.mp (hX b hb)
    rcases own_mem.mp q with q | ⟨x, q⟩ | ⟨_, q⟩
    · exact list_ne_locals S.ndup hp q
    · exact list_ne_cell S.ndup hp q rfl
    · cases q
  refine ⟨fun b o z => c.keep b o (fun q => by rw [S.low _ (inown b q)] at z; cases z) (S.base b o z), by rw [own_eq e]; exact S.low, S.ok,
    fun x t z => ((S.vars x t z).chg c nL).imp fun u hu => t.mono _ _ u hu k, let ⟨m, hm⟩ := S.frame; ⟨m, ns_chg hm c fun q => nL _ q own_locals⟩,
    fun x b z => let ⟨v, hv⟩ := S.cells x b z; ⟨v, isCell_chg hv c fun q => nL _ q (own_cell z)⟩, hl, by rw [own_eq e]; exact S.hid, by rw [own_eq e]; exact S.ndup, fun b hb => let ⟨o, z⟩ := S.live b hb; c.live b o z⟩

def Tests (K : Wd) (A : Around) (env : Env) (Γ : Gam) (N : Led) (ifs : List Expr) (b : Bool) : Prop :=
  ∀ mu s, Sat K.β env Γ N mu s.heap → wpAny K.M A (forIn ifs true fun c r => if r = true then do let ok ← isTrue c env (eval c env); pure (ForInStep.yield ok) else pure (ForInStep.yield r)) (fun ok s' => ok = b ∧ ∃ h' tk, s' = Sx s h' tk ∧ Ext s.heap h') no s
theorem tests_nil : Tests K A env Γ N [] true := fun mu s S => wpAny_tests_nil ⟨rfl, s.heap, s.toks, rfl, Ext.refl _⟩
theorem tests_one {c : Expr} {b : Bool} (x : Tr K A env Γ N c b) : Tests K A env Γ N [c] b := fun mu s S => wpAny_tests_one (x mu s S)

theorem ItAt.self {Q : Value → Shared → Prop} {E : Value → Shared → Prop} (a : ItAt K A I n T i mu s.heap) (q : Q (.ref I) s) : wpAny K.M A (pyIter (.ref I)) Q E s := by
  obtain ⟨⟨fp, P, St, W, st, _⟩, _⟩ := a
  exact W.self i s Q E st q

/-- an expression that changes at most W, lists of the ledger -/
def EvW (K : Wd) (A : Around) (env : Env) (Γ : Gam) (N : Led) (e : Expr) (t : Ty) (N' : Led) (W : List Addr) : Prop :=
  ∀ mu s, Sat K.β env Γ N mu s.heap → wpAny K.M A (eval e env) (fun v s' => ∃ h' tk, s' = Sx s h' tk ∧ Chg W s.heap h' ∧ Sat K.β env Γ N' mu h' ∧ t.P (fz h' mu) v) no s
theorem EvW.use {e : Expr} {t : Ty} {W : List Addr} {Q : Value → Shared → Prop} {E : Value → Shared → Prop} (g : EvW K A env Γ N e t N' W) (S : Sat K.β env Γ N mu s.heap) (k : ∀ v h' tk, Chg W s.heap h' → Sat K.β env Γ N' mu h' → t.P (fz h' mu) v → Q v (Sx s h' tk)) : wpAny K.M A (eval e env) Q E s :=
  wpAny_mono (g mu s S) (by rintro v s' ⟨h', tk, rfl, x, y, z⟩; exact k v h' tk x y z) fun _ _ f => f.elim
theorem Ev.w {e : Expr} {t : Ty} (g : Ev K A env Γ N e t) : EvW K A env Γ N e t N [] := fun mu s S =>
  wpAny_mono (g mu s S) (by rintro v s' ⟨h', tk, rfl, x, y⟩; exact ⟨h', tk, rfl, Chg.of_ext x, S.ext x, y⟩) fun _ _ f => f
theorem EvM.w {e : Expr} {t : Ty} (g : EvM K A env Γ N e t N') : EvW K A env Γ N e t N' (N.map (·.1)) := g
theorem EvW.ev {e : Expr} {t : Ty} (g : EvW K A env Γ N e t N []) : Ev K A env Γ N e t := fun mu s S =>
  wpAny_mono (g mu s S) (by rintro v s' ⟨h', tk, rfl, x, y, z⟩; exact ⟨h', tk, rfl, x.ext, z⟩) fun _ _ f => f
theorem EvW.m {e : Expr} {t : Ty} {W : List Addr} (g : EvW K A env Γ N e t N' W) (hW : ∀ b ∈ W, b ∈ N.map (·.1)) : EvM K A env Γ N e t N' := fun mu s S =>
  wpAny_mono (g mu s S) (by rintro v s' ⟨h', tk, rfl, x, y⟩; exact ⟨h', tk, rfl, x.mono hW, y⟩) fun _ _ f => f

/-- the loop of a comprehension -/
def Loops (K : Wd) (A : Around) (e : Expr) (d : Nat) (cenv : Env) (Γ : Gam) (N N' : Led) (as as' : List PyData) (n : Nat) (T : Nat → Ty) (W : List Addr) : Prop :=
  ∀ I Dd mu hr X (s : Shared) (R : Result → Shared → Prop), Sat K.β cenv Γ ((Dd, as) :: N) ([I] ++ mu) s.heap → ItAt K A I n T 0 ([I] ++ mu) s.heap → I ∉ mu → K.β.hb.get? I = none → Chg X hr s.heap → (∀ b ∈ W, b ∈ X) →
    (I ∈ X ∨ hr.get? I = none) → (cenv.locals ∈ X ∨ hr.get? cenv.locals = none) → (Dd ∈ X ∨ hr.get? Dd = none) → I ∉ X → I ∉ own cenv ((Dd, as) :: N) →
    (∀ h' tk, Sat K.β cenv Γ ((Dd, as') :: N') mu h' → Chg X hr h' → R (.ok .next) (Sx s h' tk)) → codeAny K.M A (.compLoop e d (.ref I) (.ref Dd) cenv) R s

theorem Chg.comp1 {X Y : List Addr} {hr h h' : Heap} (c : Chg X hr h) (d : Chg Y h h') (hy : ∀ b ∈ Y, b ∈ X ∨ hr.get? b = none) : Chg X hr h' :=
  ⟨fun b o hb e => d.keep b o (fun q => (hy b q).elim hb fun z => by rw [z] at e; cases e) (c.keep b o hb e), fun b o e => let ⟨o', e'⟩ := c.live b o e; d.live b o' e'⟩

theorem own_set' {Dd : Addr} {as as' : List PyData} (e : N'.map (·.1) = N.map (·.1)) : own env ((Dd, as') :: N') = own env ((Dd, as) :: N) := own_eq (by simp [e])

theorem loops_last {elt target : Expr} {gens : List Comprehension} {scope : Scope} {cpos : Pos} {d : Nat} {ifs : List Expr} {p0 : Pos} {cenv : Env} {Γc : Gam} (Γt : Nat → Gam) (Nf : Nat → Led) (b : Nat → Bool) (dd : Nat → PyData) {as : List PyData} {W : List Addr} (hW : ∀ b ∈ W, b ∈ (Nf 0).map (·.1))
    (hturn : ∀ it acc env, compTurn (.ListComp elt gens scope cpos) d it acc env = (do
      standAt p0
      match ← pyNext it with
      | none => pure (.done .next)
      | some v =>
        letOwnedTupleGo target it v
        assign target env v
        let mut ok := true
        for c in ifs do
          if ok then ok ← isTrue c env (eval c env)
        if ok then
          (do let _ ← call (.builtin "list.append") [acc, ← eval elt env])
        again (.compLoop (.ListComp elt gens scope cpos) d it acc env)))
    (hN : ∀ i, i ≤ n → (Nf i).map (·.1) = (Nf 0).map (·.1)) (hNs : ∀ i, b i = false → Nf (i + 1) = Nf i) (tg : ∀ i, Tg K A cenv Γc target (T i) (Γt i) [cenv.locals]) (hsub : ∀ i, Sub Γc (Γt i))
    (ht : ∀ i, i < n → Tests K A cenv (Γt i) (Nf i) ifs (b i)) (he : ∀ i, i < n → b i = true → EvW K A cenv (Γt i) (Nf i) elt (dat (dd i)) (Nf (i + 1)) W) (hsz : as.length + n ≤ sizeLine) :
    Loops K A (.ListComp elt gens scope cpos) d cenv Γc (Nf 0) (Nf n) as (as ++ ((List.range n).filter b).map dd) n T W := by
  intro I Dd mu hr X s R S it hImu hIb c hX hIX hCX hDX hIX' hIo k
  let acc := fun i => as ++ ((List.range i).filter b).map dd
  have acc_len : ∀ i, (acc i).length ≤ as.length + i := fun i => by
    have := List.length_filter_le b (List.range i)
    simp only [acc, List.length_append, List.length_map, List.length_range] at *
    omega
  refine codeAny_loop rfl (fun m s' => ∃ i h tk, m = n - i ∧ s' = Sx s h tk ∧ Sat K.β cenv Γc ((Dd, acc i) :: Nf i) ([I] ++ mu) h ∧ ItAt K A I n T i ([I] ++ mu) h ∧ Chg X hr h) (fun m s' hI => ?_) (n - 0)
    ⟨0, s.heap, s.toks, rfl, rfl, by simpa [acc] using S, it, c⟩
  obtain ⟨i, h, tk, rfl, rfl, S', it', c'⟩ := hI
  show wpAny _ A ((compTurn (.ListComp elt gens scope cpos) d (.ref I) (.ref Dd) cenv).onRaise (fun x => do noteFrame x cenv; theTreesLotGoes x)) _ _ _
  refine wpAny_noted ?_
  rw [hturn]
  have ow : ∀ j, j ≤ n → own cenv ((Dd, acc j) :: Nf j) = own cenv ((Dd, as) :: Nf 0) := fun j hj => own_set' (hN j hj)
  have hIo' : ∀ j, j ≤ n → I ∉ own cenv ((Dd, acc j) :: Nf j) := fun j hj => by rw [ow j hj]; exact hIo
  refine wpAny_bind (wpAny_standAt (wpAny_bind (it'.next (target := target) (s := Sx s h tk) (fun hlt v h2 k2 c2 it2 p2 go => ?_) (fun e h2 k2 kp => wpAny_pure ?_))))
  · have hle := Nat.le_of_lt hlt
    have S2 : Sat K.β cenv Γc ((Dd, acc i) :: Nf i) ([I] ++ mu) h2 := S'.chg c2 (fun b hb => List.mem_append_left _ hb) (fun b hb => by rw [List.mem_singleton.mp hb]; exact hIo' i hle) (fun b hb => by rw [List.mem_singleton.mp hb]; exact hIb)
    have C2 : Chg X hr h2 := c'.comp1 c2 fun b hb => by rw [List.mem_singleton.mp hb]; exact hIX
    refine wpAny_bind (go target _ _ _ rfl (wpAny_bind (tg i ((Dd, acc i) :: Nf i) ([I] ++ mu) (Sx s h2 k2) v _ _ S2 p2 fun h3 k3 S3 c3 => ?_)))
    have C3 : Chg X hr h3 := C2.comp1 c3 fun b hb => by rw [List.mem_singleton.mp hb]; exact hCX
    have it3 : ItAt K A I n T (i + 1) ([I] ++ mu) h3 := it2.step c3 (fun b hb => by rw [List.mem_singleton.mp hb]; exact S2.hid _ own_locals) (fun q => hIo' i hle (by rw [List.mem_singleton.mp q]; exact own_locals))
    have dN : (Nf i).Sublist ((Dd, acc i) :: Nf i) := List.sublist_cons_self _ _
    refine wpAny_bind (wpAny_mono (ht i hlt ([I] ++ mu) (Sx s h3 k3) (S3.dropN dN)) ?_ fun _ _ f => f.elim)
    rintro ok s' ⟨rfl, h4, k4, rfl, e4⟩
    have S4 := S3.ext e4
    have C4 : Chg X hr h4 := C3.comp1 (Chg.of_ext (D := []) e4) fun _ q => nomatch q
    have it4 := it3.ext e4
    cases hb : b i with
    | false =>
      refine wpAny_pure ⟨rfl, n - (i + 1), by omega, i + 1, h4, k4, rfl, rfl, ?_, it4, C4⟩
      have : acc (i + 1) = acc i := by simp [acc, List.range_succ, hb]
      rw [this, hNs i hb]
      exact S4.sub (hsub i)
    | true =>
      refine wpAny_bind (wpAny_bind (EvW.use (he i hlt hb) (S4.dropN dN) fun y h5 k5 c5 S5 p5 => ?_))
      have hNe : (Nf (i + 1)).map (·.1) = (Nf i).map (·.1) := (hN (i + 1) hlt).trans (hN i hle).symm
      have hWi : ∀ b ∈ W, b ∈ (Nf i).map (·.1) := fun b hb => by rw [hN i hle]; exact hW b hb
      have hinN : ∀ b ∈ W, b ∈ ((Dd, acc i) :: Nf i).map (·.1) := fun b hb => List.mem_cons_of_mem _ (hWi b hb)
      have mu5 : ∀ b ∈ W, b ∈ [I] ++ mu := fun b hb => S4.hid _ (List.mem_append_right _ (hinN b hb))
      have hDN : Dd ∉ W := fun q => by
        have := lists_nodup S4.ndup
        rw [List.map_cons, List.nodup_cons] at this
        exact this.1 (hWi _ q)
      have S5' : Sat K.β cenv (Γt i) ((Dd, acc i) :: Nf (i + 1)) ([I] ++ mu) h5 := S4.relist c5 hinN (by simp [hNe]) fun p hp => by
        rcases List.mem_cons.mp hp with rfl | hp
        · obtain ⟨its, l, r⟩ := S4.lists (Dd, acc i) (by simp)
          exact ⟨its, plain_chg l c5 hDN, RDs.mono r (fz_chg c5 mu5)⟩
        · exact S5.lists p hp
      obtain ⟨its, l, r⟩ := S5'.lists (Dd, acc i) (by simp)
      have hlen : its.size = (acc i).length := by have := rds_length r; simpa using this
      refine wpAny_bind (wpAny_list_append_plain (s := Sx s h5 k5) (hsz := by have := acc_len i; omega) l fun h6 l6 s6 => wpAny_pure (wpAny_pure ⟨rfl, n - (i + 1), by omega, i + 1, h6, k5, rfl, rfl, ?_, ?_, ?_⟩))
      all_goals
        have c6 : Chg [Dd] h5 h6 := Chg.of_same s6 fun _ _ => let ⟨_, q⟩ := l6; ⟨_, q⟩
        have D6 : ∀ b ∈ [Dd], b ∈ [I] ++ mu := fun b hb => by rw [List.mem_singleton.mp hb]; exact S5'.hid _ (own_list (ds := acc i) (by simp))
      · have : acc (i + 1) = acc i ++ [dd i] := by simp [acc, List.range_succ, hb]
        rw [this]
        have z := Sat.setList (i := 0) (ds' := acc i ++ [dd i]) S5' rfl c6 l6 (by
          simp only [Array.toList_push]
          exact All2.append (RDs.mono r (fz_chg c6 D6)) (.cons (RD.mono p5 (fz_chg c6 D6)) .nil))
        exact z.sub (hsub i)
      · refine (it4.step c5 mu5 fun q => hIo' i hle (List.mem_append_right _ (hinN _ q))).step c6 D6 fun q => hIo' i hle (by rw [List.mem_singleton.mp q]; exact own_list (ds := acc i) (by simp))
      · refine (C4.comp1 c5 fun b hb => .inl (hX b hb)).comp1 c6 fun b hb => by rw [List.mem_singleton.mp hb]; exact hDX
  · subst e
    refine k h2 k2 (S'.drop1 kp (hIo' i (Nat.le_refl _)) hIb hImu) ⟨fun b o hb e => kp b o (fun z => ?_) (c'.keep b o hb e), fun b o e => ?_⟩
    · rcases hIX with q | q
      · exact hIX' q
      · rw [z, q] at e; cases e
    · obtain ⟨o', e'⟩ := c'.live b o e
      refine ⟨o', kp b o' (fun z => ?_) e'⟩
      rcases hIX with q | q
      · exact hIX' q
      · rw [z, q] at e; cases e
end
end Mine

namespace Mine
section
variable {K : Wd} {A : Around} {env : Env} {Γ Γ' : Gam} {N N' : Led} {mu mu' : List Addr} {s : Shared} {h₀ h h' : Heap} {D : List Addr} {I : Addr} {n i : Nat} {T : Nat → Ty}

theorem comp_start1 {elt : Expr} {g0 : Comprehension} {target iter : Expr} {ifs : List Expr} {scope : Scope} {pos : Pos} {it acc : Value} {R : Result → Shared → Prop}
    (h0 : codeAny K.M A (.compLoop (.ListComp elt [g0, ⟨target, iter, ifs, 0⟩] scope pos) 1 it acc env) R s)
    (h : wpAny K.M A (pyIter it) (fun it' s' => codeAny K.M A (.compLoop (.ListComp elt [g0, ⟨target, iter, ifs, 0⟩] scope pos) 1 it' acc env) R s') (notedBy K.M A env fun x s' => R (.error x) s') s) :
    codeAny K.M A (.compStart (.ListComp elt [g0, ⟨target, iter, ifs, 0⟩] scope pos) 1 it acc env) R s := by
  refine codeAny_of_tree ?_
  show wpAny _ _ ((compStart (.ListComp elt [g0, ⟨target, iter, ifs, 0⟩] scope pos) 1 it acc env).onRaise (fun x => do noteFrame x env; standAt theWindowsPlace)) _ _ s
  refine wpAny_notedAt ?_
  unfold compStart
  show wpAny _ _ (ask >>= _) _ _ s
  refine wpAny_bind (wpAny_askSetting (wpAny_ite ?_))
  split
  · first
      | exact wpAny_bind (wpAny_pure (wpAny_pure (And.intro rfl h0)))
      | exact wpAny_pure (And.intro rfl h0)
  · first
      | exact wpAny_bind (wpAny_rule (wpAny_bind (wpAny_standAt (wpAny_bind (wpAny_mono h (fun it' s' h' => wpAny_pure (And.intro rfl h')) fun _ _ x => x)))))
      | (refine wpAny_bind (wpAny_rule ?_); show wpAny _ _ (standAt iter.pos >>= _) _ _ s; exact wpAny_bind (wpAny_standAt (wpAny_bind (wpAny_mono h (fun it' s' h' => wpAny_pure (And.intro rfl h')) fun _ _ x => x))))

theorem turn_nest (elt t0 i0 t1 i1 : Expr) (ifs1 : List Expr) (scope : Scope) (pos : Pos) (it acc : Value) (env : Env) :
    compTurn (.ListComp elt [⟨t0, i0, [], 0⟩, ⟨t1, i1, ifs1, 0⟩] scope pos) 0 it acc env = (do
      standAt i0.pos
      match ← pyNext it with
      | none => pure (.done .next)
      | some v =>
        letOwnedTupleGo t0 it v
        assign t0 env v
        let x ← eval i1 env
        standAt i1.pos
        let x ← foldedSetIterable i1 env x
        let _ ← runOwn (.compStart (.ListComp elt [⟨t0, i0, [], 0⟩, ⟨t1, i1, ifs1, 0⟩] scope pos) 1 (← holding [x] (pyIter x)) acc env) env
        again (.compLoop (.ListComp elt [⟨t0, i0, [], 0⟩, ⟨t1, i1, ifs1, 0⟩] scope pos) 0 it acc env)) := by rfl
theorem turn_last1 (elt target iter : Expr) (g0 : Comprehension) (ifs : List Expr) (scope : Scope) (pos : Pos) (it acc : Value) (env : Env) :
    compTurn (.ListComp elt [g0, ⟨target, iter, ifs, 0⟩] scope pos) 1 it acc env = (do
      standAt iter.pos
      match ← pyNext it with
      | none => pure (.done .next)
      | some v =>
        letOwnedTupleGo target it v
        assign target env v
        let mut ok := true
        for c in ifs do
          if ok then ok ← isTrue c env (eval c env)
        if ok then
          (do let _ ← call (.builtin "list.append") [acc, ← eval elt env])
        again (.compLoop (.ListComp elt [g0, ⟨target, iter, ifs, 0⟩] scope pos) 1 it acc env)) := by rfl

theorem loops_nest {elt t0 i0 t1 i1 : Expr} {ifs1 : List Expr} {scope : Scope} {pos : Pos} {cenv : Env} {Γc : Gam} (Γt : Nat → Gam) {m : Nat} {T2 : Nat → Ty} (dd : Nat → Nat → PyData) {as : List PyData} {W : List Addr} (hW : ∀ b ∈ W, b ∈ N.map (·.1))
    (tg : ∀ i, Tg K A cenv Γc t0 (T i) (Γt i) [cenv.locals]) (hsub : ∀ i, Sub Γc (Γt i)) (hi : ∀ i, i < n → It K A cenv (Γt i) N i1 m T2)
    (hl : ∀ i, i < n → ∀ as, as.length + m ≤ sizeLine → Loops K A (.ListComp elt [⟨t0, i0, [], 0⟩, ⟨t1, i1, ifs1, 0⟩] scope pos) 1 cenv (Γt i) N N as (as ++ (List.range m).map (dd i)) m T2 W) (hsz : as.length + n * m ≤ sizeLine)
    (hs : ∀ x, foldedSetIterable i1 cenv x = pure x := by intro _; rfl) :
    Loops K A (.ListComp elt [⟨t0, i0, [], 0⟩, ⟨t1, i1, ifs1, 0⟩] scope pos) 0 cenv Γc N N as (as ++ (List.range n).flatMap fun i => (List.range m).map (dd i)) n T W := by
  intro I Dd mu hr X s R S it hImu hIb c hX hIX hCX hDX hIX' hIo k
  let acc := fun i => as ++ (List.range i).flatMap fun i => (List.range m).map (dd i)
  have acc_len : ∀ i, (acc i).length = as.length + i * m := fun i => by
    simp only [acc, List.length_append]
    congr 1
    induction i with
    | zero => simp
    | succ i ih => rw [List.range_succ, List.flatMap_append, List.length_append, ih]; simp [Nat.succ_mul]
  refine codeAny_loop rfl (fun m s' => ∃ i h tk, m = n - i ∧ s' = Sx s h tk ∧ Sat K.β cenv Γc ((Dd, acc i) :: N) ([I] ++ mu) h ∧ ItAt K A I n T i ([I] ++ mu) h ∧ Chg X hr h) (fun mm s' hI => ?_) (n - 0)
    ⟨0, s.heap, s.toks, rfl, rfl, by simpa [acc] using S, it, c⟩
  obtain ⟨i, h, tk, rfl, rfl, S', it', c'⟩ := hI
  show wpAny _ A ((compTurn (.ListComp elt [⟨t0, i0, [], 0⟩, ⟨t1, i1, ifs1, 0⟩] scope pos) 0 (.ref I) (.ref Dd) cenv).onRaise (fun x => do noteFrame x cenv; theTreesLotGoes x)) _ _ _
  refine wpAny_noted ?_
  rw [turn_nest]
  have ow : ∀ j, own cenv ((Dd, acc j) :: N) = own cenv ((Dd, as) :: N) := fun j => own_set' rfl
  have hIo' : ∀ j, I ∉ own cenv ((Dd, acc j) :: N) := fun j => by rw [ow j]; exact hIo
  refine wpAny_bind (wpAny_standAt (wpAny_bind (it'.next (target := t0) (s := Sx s h tk) (fun hlt v h2 k2 c2 it2 p2 go => ?_) (fun e h2 k2 kp => wpAny_pure ?_))))
  · have S2 : Sat K.β cenv Γc ((Dd, acc i) :: N) ([I] ++ mu) h2 := S'.chg c2 (fun b hb => List.mem_append_left _ hb) (fun b hb => by rw [List.mem_singleton.mp hb]; exact hIo' i) (fun b hb => by rw [List.mem_singleton.mp hb]; exact hIb)
    have C2 : Chg X hr h2 := c'.comp1 c2 fun b hb => by rw [List.mem_singleton.mp hb]; exact hIX
    refine wpAny_bind (go t0 _ _ _ rfl (wpAny_bind (tg i ((Dd, acc i) :: N) ([I] ++ mu) (Sx s h2 k2) v _ _ S2 p2 fun h3 k3 S3 c3 => ?_)))
    have C3 : Chg X hr h3 := C2.comp1 c3 fun b hb => by rw [List.mem_singleton.mp hb]; exact hCX
    have it3 : ItAt K A I n T (i + 1) ([I] ++ mu) h3 := it2.step c3 (fun b hb => by rw [List.mem_singleton.mp hb]; exact S2.hid _ own_locals) (fun q => hIo' i (by rw [List.mem_singleton.mp q]; exact own_locals))
    have dN : N.Sublist ((Dd, acc i) :: N) := List.sublist_cons_self _ _
    refine wpAny_bind (wpAny_mono (hi i hlt ([I] ++ mu) (Sx s h3 k3) (S3.dropN dN)) (fun x s₁ h₁ => ?_) fun _ _ f => f.elim)
    refine wpAny_bind (wpAny_standAt (wpAny_bind (wpAny_of_eq (hs x) (wpAny_bind (wpAny_holding (wpAny_mono h₁ ?_ fun _ _ f => f.elim))))))
    rintro _ _ ⟨I2, h4, k4, rfl, rfl, e4, f4, l4, it4⟩
    have S4 : Sat K.β cenv (Γt i) ((Dd, acc i) :: N) ([I2] ++ ([I] ++ mu)) h4 := S3.more e4 (fun b hb => by rw [List.mem_singleton.mp hb]; exact f4) (fun b hb => by rw [List.mem_singleton.mp hb]; exact l4)
    have hI2mu : I2 ∉ [I] ++ mu := fresh_off S3 f4
    have hI2o : I2 ∉ own cenv ((Dd, acc i) :: N) := fun q => hI2mu (S3.hid _ q)
    refine wpAny_bind (wpAny_runOwn ?_)
    have lt : (i + 1) * m ≤ n * m := Nat.mul_le_mul_right m hlt
    have main : ∀ RR : Result → Shared → Prop, (∀ h5 k5, Sat K.β cenv (Γt i) ((Dd, acc i ++ (List.range m).map (dd i)) :: N) ([I] ++ mu) h5 → Chg (cenv.locals :: Dd :: W) h3 h5 → RR (.ok .next) (Sx s h5 k5)) →
        codeAny K.M A (.compLoop (.ListComp elt [⟨t0, i0, [], 0⟩, ⟨t1, i1, ifs1, 0⟩] scope pos) 1 (.ref I2) (.ref Dd) cenv) RR (Sx s h4 k4) := fun RR kk => by
      refine hl i hlt (acc i) (by have := acc_len i; rw [Nat.succ_mul] at lt; omega) I2 Dd ([I] ++ mu) h3 (cenv.locals :: Dd :: W) (Sx s h4 k4) _ S4 it4 hI2mu (fresh_low S3.base f4) (Chg.of_ext e4) (fun b hb => List.mem_cons_of_mem _ (List.mem_cons_of_mem _ hb)) (.inr f4) (.inl (by simp)) (.inl (by simp)) (fun q => hI2o ?_) hI2o kk
      rcases List.mem_cons.mp q with q | q
      · rw [q]; exact own_locals
      · rcases List.mem_cons.mp q with q | q
        · rw [q]; exact own_list (ds := acc i) (by simp)
        · exact List.mem_append_right _ (List.mem_cons_of_mem _ (hW _ q))
    have hin : ∀ b ∈ cenv.locals :: Dd :: W, b ∈ own cenv ((Dd, acc i) :: N) := fun b hb => by
      rcases List.mem_cons.mp hb with q | q
      · rw [q]; exact own_locals
      · rcases List.mem_cons.mp q with q | q
        · rw [q]; exact own_list (ds := acc i) (by simp)
        · exact List.mem_append_right _ (List.mem_cons_of_mem _ (hW _ q))
    have fin : ∀ h5 k5, Sat K.β cenv (Γt i) ((Dd, acc i ++ (List.range m).map (dd i)) :: N) ([I] ++ mu) h5 → Chg (cenv.locals :: Dd :: W) h3 h5 →
        ∃ m, m < n - i ∧ ∃ i h tk, m = n - i ∧ Sx s h5 k5 = Sx s h tk ∧ Sat K.β cenv Γc ((Dd, acc i) :: N) ([I] ++ mu) h ∧ ItAt K A I n T i ([I] ++ mu) h ∧ Chg X hr h := fun h5 k5 S5 c5 => by
      refine ⟨n - (i + 1), by omega, i + 1, h5, k5, rfl, rfl, ?_, ?_, ?_⟩
      · have : acc (i + 1) = acc i ++ (List.range m).map (dd i) := by simp [acc, List.range_succ, List.flatMap_append]
        rw [this]
        exact S5.sub (hsub i)
      · exact it3.step c5 (fun b hb => S3.hid _ (hin b hb)) fun q => hIo' i (hin _ q)
      · refine C3.comp1 c5 fun b hb => ?_
        rcases List.mem_cons.mp hb with q | q
        · rw [q]; exact hCX
        · rcases List.mem_cons.mp q with q | q
          · rw [q]; exact hDX
          · exact .inl (hX b q)
    exact comp_start1 (main _ fun h5 k5 S5 c5 => wpAny_pure ⟨rfl, fin h5 k5 S5 c5⟩) (it4.self (s := Sx s h4 k4) (main _ fun h5 k5 S5 c5 => wpAny_pure ⟨rfl, fin h5 k5 S5 c5⟩))
  · subst e
    refine k h2 k2 (S'.drop1 kp (hIo' i) hIb hImu) ⟨fun b o hb e => kp b o (fun z => ?_) (c'.keep b o hb e), fun b o e => ?_⟩
    · rcases hIX with q | q
      · exact hIX' q
      · rw [z, q] at e; cases e
    · obtain ⟨o', e'⟩ := c'.live b o e
      refine ⟨o', kp b o' (fun z => ?_) e'⟩
      rcases hIX with q | q
      · exact hIX' q
      · rw [z, q] at e; cases e
end
end Mine

namespace Mine
def Caps (env : Env) (scope : Scope) (cl : List (Str × Addr)) (Γ : Gam) : Gam → Prop
  | [] => True
  | (x, t) :: r => (((relabel scope env).names.lookup x = some .cell ∨ (relabel scope env).names.lookup x = some .free) ∧ cl.lookup x = env.cells.lookup x ∧ (env.kindOf x = some .cell ∨ env.kindOf x = some .free) ∧ Γ.lookup x = some t) ∧ Caps env scope cl Γ r
theorem Caps.look {env : Env} {scope : Scope} {cl : List (Str × Addr)} {Γ : Gam} : ∀ {Γc : Gam}, Caps env scope cl Γ Γc → ∀ {x : Str} {t : Ty}, Γc.lookup x = some t →
    ((relabel scope env).names.lookup x = some .cell ∨ (relabel scope env).names.lookup x = some .free) ∧ cl.lookup x = env.cells.lookup x ∧ (env.kindOf x = some .cell ∨ env.kindOf x = some .free) ∧ Γ.lookup x = some t
  | [], _, x, t, e => by simp at e
  | (y, u) :: r, b, x, t, e => by
    rw [List.lookup_cons] at e
    cases hb : x == y with
    | true =>
      rw [hb] at e
      have : x = y := beq_iff_eq.mp hb
      subst this
      simp only [Option.some.injEq] at e
      subst e
      exact b.1
    | false => rw [hb] at e; exact Caps.look b.2 e
section
variable {K : Wd} {A : Around} {env : Env} {Γ Γ' Γc : Gam} {N N' : Led} {mu mu' : List Addr} {s : Shared} {h₀ h h' : Heap} {D : List Addr} {I : Addr} {n i : Nat} {T : Nat → Ty}

theorem comp_sat {scope : Scope} {cl : List (Str × Addr)} {C Dd I : Addr} {m : Str → Option Value} (S : Sat K.β env Γ N ([I] ++ ([C, Dd] ++ mu)) h) (hkind : scope.kind = .function) (hsub : ∀ p ∈ cl, p ∈ env.cells) (hnd : (cl.map (·.1)).Nodup) (hcap : Caps env scope cl Γ Γc)
    (hC : h.Ns C m) (hD : h.PlainList Dd #[]) (lC : K.β.hb.get? C = none) (lD : K.β.hb.get? Dd = none) (oC : C ∉ own env N) (oD : Dd ∉ own env N) (hCD : C ≠ Dd) :
    Sat K.β (compEnvC scope cl C env) Γc ((Dd, []) :: N) ([I] ++ ([C, Dd] ++ mu)) h := by
  have hl : (compEnvC scope cl C env).locals = C := rfl
  have hc : (compEnvC scope cl C env).cells = cl := rfl
  have om : ∀ b ∈ own (compEnvC scope cl C env) ((Dd, []) :: N), b = C ∨ b = Dd ∨ b ∈ own env N := fun b q => by
    rcases own_mem.mp q with q | ⟨x, q⟩ | ⟨ds, q⟩
    · exact .inl q
    · exact .inr (.inr (own_cell (hsub _ q)))
    · rcases List.mem_cons.mp q with q | q
      · cases q; exact .inr (.inl rfl)
      · exact .inr (.inr (own_list q))
  have ndc : (cl.map (·.2)).Nodup := by
    have hn := cells_nodup S.ndup
    clear hcap hc om
    induction cl with
    | nil => exact List.nodup_nil
    | cons p r ih =>
      rw [List.map_cons, List.nodup_cons] at hnd ⊢
      refine ⟨fun q => ?_, ih (fun z hz => hsub z (List.mem_cons_of_mem _ hz)) hnd.2 rfl⟩
      obtain ⟨z, hz, e⟩ := List.mem_map.mp q
      have e1 := hsub p List.mem_cons_self
      have e2 := hsub z (List.mem_cons_of_mem _ hz)
      have := nodup_addr hn (x := p.1) (y := z.1) (c := p.2) e1 (by rw [← e]; exact e2)
      exact hnd.1 (List.mem_map.mpr ⟨z, hz, this.symm⟩)
  refine ⟨S.base, fun b q => ?_, ⟨hkind, S.ok.gl, S.ok.bl⟩, fun x t e => ?_, ⟨m, hC⟩, fun x c q => S.cells x c (hsub _ q), fun p hp => ?_, fun b q => ?_, ?_, S.live⟩
  · rcases om b q with rfl | rfl | q
    · exact lC
    · exact lD
    · exact S.low b q
  · obtain ⟨k1, k2, k3, k4⟩ := hcap.look e
    rcases S.vars x t k4 with ⟨kx, _⟩ | ⟨_, c, v, e1, e2, e3⟩
    · rcases k3 with k3 | k3 <;> rw [k3] at kx <;> cases kx
    · exact .inr ⟨k1, c, v, k2.trans e1, e2, e3⟩
  · rcases List.mem_cons.mp hp with rfl | hp
    · exact ⟨#[], hD, .nil⟩
    · exact S.lists p hp
  · rcases om b q with rfl | rfl | q
    · simp
    · simp
    · exact S.hid b q
  · show (C :: cl.map (·.2) ++ Dd :: N.map (·.1)).Nodup
    have cin : ∀ b ∈ cl.map (·.2), b ∈ own env N := fun b q => by
      obtain ⟨p, hp, rfl⟩ := List.mem_map.mp q
      exact own_cell (x := p.1) (hsub _ hp)
    have nin : ∀ b ∈ N.map (·.1), b ∈ own env N := fun b q => List.mem_append_right _ q
    refine List.nodup_append.mpr ⟨List.nodup_cons.mpr ⟨fun q => oC (cin _ q), ndc⟩, List.nodup_cons.mpr ⟨fun q => oD (nin _ q), lists_nodup S.ndup⟩, fun x hx y hy e => ?_⟩
    subst e
    rcases List.mem_cons.mp hx with e | hx
    · rcases List.mem_cons.mp hy with e' | hy
      · exact hCD (e.symm.trans e')
      · exact oC (e ▸ nin _ hy)
    · rcases List.mem_cons.mp hy with e' | hy
      · exact oD (e' ▸ cin _ hx)
      · obtain ⟨p, hp, rfl⟩ := List.mem_map.mp hx
        obtain ⟨q, hq, e⟩ := List.mem_map.mp hy
        exact list_ne_cell S.ndup (b := q.1) (ds := q.2) hq (x := p.1) (hsub _ hp) e

/-- a comprehension: source, list, frame, loop -/
theorem comp_core {elt target iter : Expr} {ifs : List Expr} {gs : List Comprehension} {scope : Scope} {cl : List (Str × Addr)} {pos : Pos} {ds : List PyData} {W : List Addr} {RR : Value → Addr → Result → Shared → Prop} {E : Value → Shared → Prop}
    (hcell : ∀ y ∈ scope.names, y.2 ≠ .cell) (hkind : scope.kind = .function) (hsub : ∀ p ∈ cl, p ∈ env.cells) (hnd : (cl.map (·.1)).Nodup) (hcap : Caps env scope cl Γ Γc) (hi : It K A env Γ N iter n T) (hN : N'.map (·.1) = N.map (·.1)) (hW : ∀ b ∈ W, b ∈ N.map (·.1))
    (hl : ∀ C, Loops K A (.ListComp elt (⟨target, iter, ifs, 0⟩ :: gs) scope pos) 0 (compEnvC scope cl C env) Γc N N' [] ds n T W) (S : Sat K.β env Γ N mu s.heap)
    (k : ∀ D C h' tk m, s.heap.get? C = none → s.heap.get? D = none → D ≠ C → h'.Ns C m → Chg W s.heap h' → (∃ o, h'.get? C = some o) →
      (∀ mu₀ h'', (∀ b ∈ mu₀, b = C) → (∀ b o, b ≠ C → h'.get? b = some o → h''.get? b = some o) → (∀ b ∈ mu₀, ∃ o, h''.get? b = some o) → Sat K.β env Γ N' (mu₀ ++ mu) h'' ∧ RD (fz h'' (mu₀ ++ mu)) (.ref D) (.list ds) ∧ ∃ its, h''.PlainList D its ∧ RDs (fz h'' ([D] ++ (mu₀ ++ mu))) its.toList ds) → RR (.ref D) C (.ok .next) (Sx s h' tk)) :
    wpAny K.M A (eval iter env) (fun x s₁ => wpAny K.M A (pyIter x) (fun it s₂ => wpAny K.M A (newList []) (fun acc s₃ =>
      wpAny K.M A (newFunctionEnv scope env.globals cl [] env.qual none .none (some env)) (fun cenv s₄ =>
        codeAny K.M A (.compStart (.ListComp elt (⟨target, iter, ifs, 0⟩ :: gs) scope pos) 0 it acc { cenv with scope := relabel scope env }) (RR acc cenv.locals) s₄) E s₃) E s₂) E s₁) E s := by
  refine hi.use S fun I h1 k1 e1 hI hlI it => ?_
  refine wpAny_newObj_type (wpAny_newFunctionEnv hcell (by intro y hy; simp at hy) (fun h₁ hns₁ hsb₁ => ?_) hkind)
  dsimp only at hns₁ hsb₁ ⊢
  generalize hH2 : h1.push { cls := .type "list", dict := none, data := .seq ([] : List Value).toArray } = H2 at hns₁ hsb₁ ⊢
  have hC : H2.objs.size = h1.objs.size + 1 := by rw [← hH2, Heap.size_push]
  have old : ∀ b o, h1.get? b = some o → h₁.get? b = some o := fun b o e => hsb₁.extBut b o (by have := Heap.lt_size e; rw [hC]; exact Nat.ne_of_lt (Nat.lt_succ_of_lt this)) (Heap.get?_push_of_some _ (hH2 ▸ Heap.get?_push_of_some _ e))
  have hDC : h1.objs.size ≠ H2.objs.size := by rw [hC]; exact Nat.ne_of_lt (Nat.lt_succ_self _)
  have hD : h₁.PlainList h1.objs.size #[] := ⟨0, hsb₁.extBut _ _ hDC (Heap.get?_push_of_some _ (hH2 ▸ Heap.get?_push_size _ rfl))⟩
  have new1 : ∀ b, h1.objs.size ≤ b → h1.get? b = none := fun b q => by
    cases z : h1.get? b with
    | none => rfl
    | some o => exact absurd (Heap.lt_size z) (Nat.not_lt.mpr q)
  have nD : h1.get? h1.objs.size = none := new1 _ (Nat.le_refl _)
  have nC : h1.get? H2.objs.size = none := new1 _ (by rw [hC]; exact Nat.le_succ _)
  have up : ∀ b, h1.get? b = none → s.heap.get? b = none := fun b q => by
    cases z : s.heap.get? b with
    | none => rfl
    | some o => rw [e1 _ _ z] at q; cases q
  generalize H2.objs.size = C at *
  generalize h1.objs.size = Dd at *
  have hIC : I ≠ C := fun q => by obtain ⟨o, e⟩ := hlI; rw [q, nC] at e; cases e
  have hID : I ≠ Dd := fun q => by obtain ⟨o, e⟩ := hlI; rw [q, nD] at e; cases e
  have liveC : ∃ o, h₁.get? C = some o := ns_live hns₁
  have liveD : ∃ o, h₁.get? Dd = some o := let ⟨_, e⟩ := hD; ⟨_, e⟩
  have hnew : ∀ b ∈ [I] ++ [C, Dd], s.heap.get? b = none := fun b q => by
    simp at q
    rcases q with rfl | rfl | rfl
    · exact hI
    · exact up _ nC
    · exact up _ nD
  have S1 : Sat K.β env Γ N ([I] ++ ([C, Dd] ++ mu)) h₁ := by
    have z := S.more (nw := [I] ++ [C, Dd]) (h' := h₁) (fun b o e => old b o (e1 b o e)) hnew (fun b q => by
      simp at q
      rcases q with rfl | rfl | rfl
      · obtain ⟨o, e⟩ := hlI; exact ⟨o, old _ _ e⟩
      · exact liveC
      · exact liveD)
    simpa using z
  have off : ∀ b, s.heap.get? b = none → b ∉ own env N := fun b q z => fresh_off S q (S.hid b z)
  have S2 := comp_sat (cl := cl) (scope := scope) (Γc := Γc) S1 hkind hsub hnd hcap hns₁ hD (fresh_low S.base (up _ nC)) (fresh_low S.base (up _ nD)) (off _ (up _ nC)) (off _ (up _ nD)) (Ne.symm hDC)
  have it2 : ItAt K A I n T 0 ([I] ++ ([C, Dd] ++ mu)) h₁ := by
    have z := it.more (nw := [C, Dd]) (h' := h₁) old (fun b q => by simp at q; rcases q with rfl | rfl; exact nC; exact nD)
    obtain ⟨⟨fp, P, St, W, st, hl, go, ty, of⟩, x1, x2, x3⟩ := z
    have mm : ∀ b, b ∈ [I] ++ ([C, Dd] ++ mu) ↔ b ∈ [C, Dd] ++ ([I] ++ mu) := fun b => by simp; constructor <;> rintro (h | h | h | h) <;> simp [h]
    exact ⟨⟨fp, P, St, W, st, hl, go, fun j v hj p => (T j).mono _ _ _ (ty j v hj p) (fz_less fun b q => (mm b).mp q), fun b q => (of b q).imp id fun z => ⟨fun w => z.1 ((mm b).mp w), z.2⟩⟩, (mm _).mpr x1, x2, x3⟩
  have main : ∀ s' : Shared, s' = Sx s h₁ (k1 + 0) → codeAny K.M A (.compLoop (.ListComp elt (⟨target, iter, ifs, 0⟩ :: gs) scope pos) 0 (.ref I) (.ref Dd) (compEnvC scope cl C env)) (RR (.ref Dd) C) s' := by
    rintro s' rfl
    refine hl C I Dd ([C, Dd] ++ mu) s.heap W (Sx s h₁ (k1 + 0)) _ S2 it2 ?_ (fresh_low S.base hI) (Chg.of_ext fun b o e => old b o (e1 b o e)) (fun b q => q) (.inr hI) (.inr (up _ nC)) (.inr (up _ nD)) ?_ ?_ fun h5 k5 S5 c5 => ?_
    · intro q
      simp at q
      rcases q with q | q | q
      · exact hIC q
      · exact hID q
      · exact fresh_off S hI q
    · exact fun q => off _ hI (List.mem_append_right _ (hW _ q))
    · intro q
      rcases own_mem.mp q with q | ⟨x, q⟩ | ⟨ds, q⟩
      · exact hIC q
      · exact off _ hI (own_cell (hsub _ q))
      · rcases List.mem_cons.mp q with q | q
        · cases q; exact hID rfl
        · exact off _ hI (own_list q)
    · obtain ⟨m5, hm5⟩ := S5.frame
      refine k Dd C h5 k5 m5 (up _ nC) (up _ nD) hDC hm5 c5 (ns_live hm5) fun mu₀ h6 hmu₀ kp lC => ?_
      have cF : Chg W s.heap h6 := ⟨fun b o hb e => kp b o (fun z => by rw [z, up _ nC] at e; cases e) (c5.keep b o hb e), fun b o e => by
        obtain ⟨o', e'⟩ := c5.live b o e
        exact ⟨o', kp b o' (fun z => by rw [z, up _ nC] at e; cases e) e'⟩⟩
      have exF : Ext (fz h5 ([C, Dd] ++ mu)) (fz h6 (mu₀ ++ mu)) := fun b o e => by
        obtain ⟨e, q⟩ := fz_get e
        refine fz_of (kp b o (fun z => q (by simp [z])) e) fun z => q ?_
        rcases List.mem_append.mp z with z | z
        · rw [hmu₀ b z]; simp
        · exact List.mem_append_right _ z
      have lF : ∀ p ∈ N', ∃ its, h6.PlainList p.1 its ∧ RDs (fz h6 mu) its.toList p.2 := fun p hp => by
        obtain ⟨its, l, r⟩ := S5.lists p (List.mem_cons_of_mem _ hp)
        have : p.1 ≠ C := fun q => off C (up _ nC) (List.mem_append_right _ (by rw [← q, ← hN]; exact List.mem_map.mpr ⟨p, hp, rfl⟩))
        refine ⟨its, by obtain ⟨o, e⟩ := l; exact ⟨o, kp _ _ this e⟩, RDs.mono r (Ext.trans exF (fz_less fun b q => List.mem_append_right _ q))⟩
      have S6 := S.relist cF hW hN lF
      refine ⟨?_, ?_, ?_⟩
      · -- C may stay hidden
        have hCo : C ∉ own env N' := by rw [own_eq hN]; exact off C (up _ nC)
        exact ⟨S6.base, S6.low, S6.ok, fun x t e => by
            have := S.vars x t e
            have nX : ∀ b ∈ W, b ∉ own env [] := fun b hb q => by
              obtain ⟨p, hp, rfl⟩ := List.mem_map.mp (hW b hb)
              rcases own_mem.mp q with q | ⟨x, q⟩ | ⟨_, q⟩
              · exact list_ne_locals S.ndup hp q
              · exact list_ne_cell S.ndup hp q rfl
              · cases q
            refine (this.chg cF nX).imp fun u hu => t.mono _ _ u hu fun b o e => ?_
            obtain ⟨e, q⟩ := fz_get e
            refine fz_of (cF.keep b o (fun z => q (S.hid _ (List.mem_append_right _ (hW _ z)))) e) fun z => ?_
            rcases List.mem_append.mp z with z | z
            · rw [hmu₀ b z, up _ nC] at e; cases e
            · exact q z, S6.frame, S6.cells, fun p hp => by
            obtain ⟨its, l, r⟩ := S5.lists p (List.mem_cons_of_mem _ hp)
            obtain ⟨its', l', _⟩ := lF p hp
            have : its' = its := by
              have hne : p.1 ≠ C := fun q => off C (up _ nC) (List.mem_append_right _ (by rw [← q, ← hN]; exact List.mem_map.mpr ⟨p, hp, rfl⟩))
              obtain ⟨n1, e⟩ := l
              obtain ⟨n2, e'⟩ := l'
              rw [kp _ _ hne e] at e'
              cases e'; rfl
            exact ⟨its', l', by rw [this]; exact RDs.mono r exF⟩, fun b q => List.mem_append_right _ (S6.hid b q), S6.ndup, fun b q => by
            rcases List.mem_append.mp q with q | q
            · exact lC b q
            · exact S6.live b q⟩
      · obtain ⟨its, l, r⟩ := S5.lists (Dd, ds) (by simp)
        refine RD.list (its := its) ?_ (RDs.mono r exF)
        obtain ⟨o, e⟩ := l
        refine ⟨o, fz_of (kp _ _ hDC e) fun z => ?_⟩
        rcases List.mem_append.mp z with z | z
        · exact hDC (hmu₀ _ z)
        · exact fresh_off S (up _ nD) z
      · obtain ⟨its, ⟨o, e⟩, r⟩ := S5.lists (Dd, ds) (by simp)
        refine ⟨its, ⟨o, kp _ _ hDC e⟩, RDs.mono r fun b o e => ?_⟩
        obtain ⟨e, q⟩ := fz_get e
        refine fz_of (kp b o (fun z => q (by simp [z])) e) fun z => q ?_
        rcases List.mem_append.mp z with z | z
        · rw [List.mem_singleton.mp z]; simp
        · rcases List.mem_append.mp z with z | z
          · rw [hmu₀ b z]; simp
          · exact List.mem_append_right _ z
  exact codeAny_compStart_list (main _ rfl) (it2.self (s := Sx s h₁ (k1 + 0)) (main _ rfl))
end
end Mine

namespace Mine
section
variable {K : Wd} {A : Around} {env : Env} {Γ Γ' Γc : Gam} {N N' : Led} {mu mu' : List Addr} {s : Shared} {h₀ h h' : Heap} {D : List Addr} {I : Addr} {n i : Nat} {T : Nat → Ty}

theorem ev_comp {elt target iter : Expr} {ifs : List Expr} {gs : List Comprehension} {scope : Scope} {cl : List (Str × Addr)} {pos : Pos} {ds : List PyData} {W : List Addr}
    (hclos : closureFor scope env = pure cl) (hcell : ∀ y ∈ scope.names, y.2 ≠ .cell) (hkind : scope.kind = .function) (hnames : ∀ x ∈ scope.names, x.2 = .local → scope.names.lookup x.1 = some .local)
    (hsub : ∀ p ∈ cl, p ∈ env.cells) (hnd : (cl.map (·.1)).Nodup) (hcap : Caps env scope cl Γ Γc) (hi : It K A env Γ N iter n T) (hN : N'.map (·.1) = N.map (·.1)) (hW : ∀ b ∈ W, b ∈ N.map (·.1))
    (hl : ∀ C, Loops K A (.ListComp elt (⟨target, iter, ifs, 0⟩ :: gs) scope pos) 0 (compEnvC scope cl C env) Γc N N' [] ds n T W)
    (hs : ∀ x, foldedSetIterable iter env x = pure x := by intro _; rfl) : EvW K A env Γ N (.ListComp elt (⟨target, iter, ifs, 0⟩ :: gs) scope pos) (tL ds) N' W := fun mu s S => by
  rw [eval_ListComp]
  refine wpAny_comprehension_free (use := none) rfl hs hclos hkind hnames (comp_core (RR := fun acc C => compPost K.M A no none _ acc C) hcell hkind hsub hnd hcap hi hN hW hl S ?_)
  intro D C h' tk m nC nD hDC hm c lC fin
  refine ⟨m, hm, fun h'' hs'' => ?_⟩
  have kp : ∀ b o, b ≠ C → h'.get? b = some o → h''.get? b = some o := fun b o hb e => hs''.extBut b o hb e
  obtain ⟨S', r, _⟩ := fin [] h'' (fun _ q => nomatch q) kp (fun _ q => nomatch q)
  refine ⟨h'', tk, rfl, ⟨fun b o hb e => kp b o (fun z => by rw [z, nC] at e; cases e) (c.keep b o hb e), fun b o e => ?_⟩, S', r⟩
  obtain ⟨o', e'⟩ := c.live b o e
  exact ⟨o', kp b o' (fun z => by rw [z, nC] at e; cases e) e'⟩

/-- the value is a new list -/
def EvF (K : Wd) (A : Around) (env : Env) (Γ : Gam) (N : Led) (e : Expr) (ds : List PyData) : Prop :=
  ∀ mu s, Sat K.β env Γ N mu s.heap → wpAny K.M A (eval e env) (fun v s' => ∃ b its h' tk, v = .ref b ∧ s' = Sx s h' tk ∧ Ext s.heap h' ∧ s.heap.get? b = none ∧ h'.PlainList b its ∧ RDs (fz h' ([b] ++ mu)) its.toList ds) no s
theorem evf_comp {elt target iter : Expr} {ifs : List Expr} {gs : List Comprehension} {scope : Scope} {cl : List (Str × Addr)} {pos : Pos} {ds : List PyData}
    (hclos : closureFor scope env = pure cl) (hcell : ∀ y ∈ scope.names, y.2 ≠ .cell) (hkind : scope.kind = .function) (hnames : ∀ x ∈ scope.names, x.2 = .local → scope.names.lookup x.1 = some .local)
    (hsub : ∀ p ∈ cl, p ∈ env.cells) (hnd : (cl.map (·.1)).Nodup) (hcap : Caps env scope cl Γ Γc) (hi : It K A env Γ N iter n T)
    (hl : ∀ C, Loops K A (.ListComp elt (⟨target, iter, ifs, 0⟩ :: gs) scope pos) 0 (compEnvC scope cl C env) Γc N N [] ds n T [])
    (hs : ∀ x, foldedSetIterable iter env x = pure x := by intro _; rfl) : EvF K A env Γ N (.ListComp elt (⟨target, iter, ifs, 0⟩ :: gs) scope pos) ds := fun mu s S => by
  rw [eval_ListComp]
  refine wpAny_comprehension_free (use := none) rfl hs hclos hkind hnames (comp_core (W := []) (RR := fun acc C => compPost K.M A no none _ acc C) hcell hkind hsub hnd hcap hi rfl (fun _ q => nomatch q) hl S ?_)
  intro D C h' tk m nC nD hDC hm c lC fin
  refine ⟨m, hm, fun h'' hs'' => ?_⟩
  have kp : ∀ b o, b ≠ C → h'.get? b = some o → h''.get? b = some o := fun b o hb e => hs''.extBut b o hb e
  obtain ⟨_, _, its, l, r⟩ := fin [] h'' (fun _ q => nomatch q) kp (fun _ q => nomatch q)
  exact ⟨D, its, h'', tk, rfl, rfl, fun b o e => kp b o (fun z => by rw [z, nC] at e; cases e) (c.ext b o e), nD, l, r⟩

/-- x = [...], the store ahead of the names' end -/
theorem x_assign_comp {Q : Flow → Shared → Prop} {E : Value → Shared → Prop} {rest : List Stmt} {elt target iter : Expr} {ifs : List Expr} {gs : List Comprehension} {scope : Scope} {cl : List (Str × Addr)} {pos spos py : Pos} {y : Str} {ds : List PyData} {W : List Addr}
    (a : At K h₀ D env Γ N mu s.heap) (hsw : swapsWith (.ListComp elt (⟨target, iter, ifs, 0⟩ :: gs) scope pos) (some (.Name y py)) spos.line env = pure true) (hy : env.kindOf y = some .local)
    (hclos : closureFor scope env = pure cl) (hcell : ∀ y ∈ scope.names, y.2 ≠ .cell) (hkind : scope.kind = .function) (hnames : ∀ x ∈ scope.names, x.2 = .local → scope.names.lookup x.1 = some .local)
    (hsub : ∀ p ∈ cl, p ∈ env.cells) (hnd : (cl.map (·.1)).Nodup) (hcap : Caps env scope cl Γ Γc) (hi : It K A env Γ N iter n T) (hN : N'.map (·.1) = N.map (·.1)) (hW : ∀ b ∈ W, b ∈ N.map (·.1))
    (hl : ∀ C, Loops K A (.ListComp elt (⟨target, iter, ifs, 0⟩ :: gs) scope pos) 0 (compEnvC scope cl C env) Γc N N' [] ds n T W)
    (k : ∀ h' tk, At K h₀ D env ((y, tL ds) :: Γ) N' mu h' → wpAny K.M A (execs rest env) Q E (Sx s h' tk))
    (hs : ∀ x, foldedSetIterable iter env x = pure x := by intro _; rfl) : wpAny K.M A (execs (.Assign [.Name y py] (.ListComp elt (⟨target, iter, ifs, 0⟩ :: gs) scope pos) spos :: rest) env) Q E s := by
  refine wpAny_execs_cons ?_
  rw [exec_Assign_Name_used _ _ _ _ hsw]
  refine wpAny_bind (wpAny_standAt (wpAny_bind ?_))
  show wpAny _ A (do let _ ← comprehension (.ListComp elt (⟨target, iter, ifs, 0⟩ :: gs) scope pos) scope env _ (newList []) false (eval iter env) (some (assign (.Name y py) env))) _ _ s
  refine wpAny_bind (wpAny_mono (wpAny_comprehension_free (use := some (assign (.Name y py) env)) (Q := fun _ s' => wpAny K.M A (execs rest env) Q E s') rfl hs hclos hkind hnames
    (comp_core (RR := fun acc C => compPost K.M A E (some (assign (.Name y py) env)) _ acc C) hcell hkind hsub hnd hcap hi hN hW hl a.sat ?_)) (fun _ s' hq => wpAny_pure (wpAny_pure hq)) fun _ _ e => e)
  intro Dd C h' tk m nC nD hDC hm c lC fin
  show wpAny _ A (assign (.Name y py) env (.ref Dd)) _ _ _
  obtain ⟨S', r, _⟩ := fin [C] h' (fun b q => List.mem_singleton.mp q) (fun b o _ e => e) (fun b q => by rw [List.mem_singleton.mp q]; exact lC)
  refine wpAny_assign_Name (store_local (t := tL ds) (s := Sx s h' tk) hy S' r fun h2 k2 S2 c2 => ?_)
  have nCl : C ≠ env.locals := fun q => fresh_off a.sat nC (by rw [q]; exact a.sat.hid _ own_locals)
  refine ⟨m, ns_chg hm c2 (by simpa using nCl), fun h3 hs3 => k h3 k2 ?_⟩
  have nC₀ : h₀.get? C = none := by
    cases z : h₀.get? C with
    | none => rfl
    | some o => obtain ⟨o', e'⟩ := a.chg.live C o z; rw [nC] at e'; cases e'
  have kp : ∀ b o, b ≠ C → h2.get? b = some o → h3.get? b = some o := fun b o hb e => hs3.extBut b o hb e
  have hCo : C ∉ own env N' := by rw [own_eq hN]; exact fun q => fresh_off a.sat nC (a.sat.hid _ q)
  have S3 : Sat K.β env ((y, tL ds) :: Γ) N' mu h3 := S2.drop1 kp hCo (fresh_low a.sat.base nC) (fresh_off a.sat nC)
  have in1 : ∀ b ∈ W, b ∈ own env N := fun b q => List.mem_append_right _ (hW b q)
  refine a.next S3 ⟨fun b o hb e => ?_, fun b o e => ?_⟩ fun b q => .inl (by rw [own_eq hN] at q; exact q)
  · have hbC : b ≠ C := fun z => by rw [z, nC] at e; cases e
    exact kp b o hbC (c2.keep b o (fun q => hb (by rw [List.mem_singleton.mp q]; exact own_locals)) (c.keep b o (fun q => hb (in1 b q)) e))
  · have hbC : b ≠ C := fun z => by rw [z, nC] at e; cases e
    obtain ⟨o1, e1⟩ := c.live b o e
    obtain ⟨o2, e2⟩ := c2.live b o1 e1
    exact ⟨o2, kp b o2 hbC e2⟩

/-- one clause, a name, items that change nothing -/
theorem range_map_getD (ds : List PyData) : (List.range ds.length).map (fun i => ds.getD i .none) = ds := by
  apply List.ext_getElem (by simp)
  intro i h1 h2
  have h2' : i < ds.length := h2
  simp [List.getD, h2']
end
end Mine

namespace Mine
section
variable {K : Wd} {A : Around} {env : Env} {Γ Γ' Γc : Gam} {N N' : Led} {mu mu' : List Addr} {s : Shared} {h₀ h h' : Heap} {D : List Addr} {I : Addr} {n i : Nat} {T : Nat → Ty}

/-- o.name(e…): the arguments behind, then the builtin -/
theorem method_go {o : Expr} {name : Str} {apos pos : Pos} {e : Expr} {es : List Expr} {Tn id : String} {ts : List Ty} {t : Ty} {Q : Value → Shared → Prop} {E : Value → Shared → Prop} (x : Ev K A env Γ N o t) (y : Evs K A env Γ N (e :: es) ts) (S : Sat K.β env Γ N mu s.heap)
    (pa : PlainAttrs Tn) (slot : Slot Tn name id) (hty : typeOf (.builtin id) = pure (.type "method_descriptor"))
    (hT : ∀ v h' tk, Ext s.heap h' → t.P (fz h' mu) v → (Sx s h' tk).TypeIs v Tn ∧ (∀ a, v = .ref a → ∃ ob, h'.get? a = some ob ∧ ob.dict = none))
    (c : ∀ v vs h' tk, Ext s.heap h' → Sat K.β env Γ N mu h' → t.P (fz h' mu) v → All2 (fun v t => t.P (fz h' mu) v) vs ts → wpAny K.M A (call (.builtin id) (v :: vs)) Q E (Sx s h' tk))
    (hbase : attributeBase o name env (eval o env) = eval o env := by rfl)
    (hfew : ((backTo pos (starEach (e :: es) env)).all (fun x => !x.1) && (backToKw pos (keywordEach [] env)).all (fun x => x.1.isSome) && decide ((e :: es).length + ([] : List Keyword).length + (if ([] : List Keyword).isEmpty then 0 else 1) < 30)) = true := by rfl)
    (hline : (apos.endLine == pos.line) = true := by rfl) (he : starEach (e :: es) env = (false, eval e env) :: starEach es env := by rfl) (hp : (backTo pos (starEach es env)).any (·.1) = false := by rfl) : wpAny K.M A (eval (.Call (.Attribute o name apos) (e :: es) [] pos) env) Q E s := by
  refine wpAny_Call_method hbase hfew hline pa slot hty (x.use S fun v h1 k1 e1 p1 => ⟨(hT v h1 k1 e1 p1).1, (hT v h1 k1 e1 p1).2, ?_⟩)
  have y' := y pos mu (Sx s h1 k1) (S.ext e1)
  rw [he] at y' ⊢
  refine callWith_of (P := fun h => Ext K.β.hb h) (by show ((false || (backTo pos (starEach es env)).any (·.1)) || false) = false; rw [hp]; rfl) (fun h eh => Kept.looks (.inl ⟨_, rfl⟩) h eh) (Calls.evalArgs_plain ?_)
  refine wpAny_mono y' ?_ fun _ _ z => z.elim
  rintro vs s' ⟨h2, k2, rfl, e2, p2⟩
  exact ⟨(S.ext (e1.trans e2)).base, c v vs h2 k2 (e1.trans e2) (S.ext (e1.trans e2)) (t.mono _ _ _ p1 (fz_mono mu e2)) p2⟩
theorem method_go0 {o : Expr} {name : Str} {apos pos : Pos} {Tn id : String} {t : Ty} {Q : Value → Shared → Prop} {E : Value → Shared → Prop} (x : Ev K A env Γ N o t) (S : Sat K.β env Γ N mu s.heap)
    (pa : PlainAttrs Tn) (slot : Slot Tn name id) (hty : typeOf (.builtin id) = pure (.type "method_descriptor"))
    (hT : ∀ v h' tk, Ext s.heap h' → t.P (fz h' mu) v → (Sx s h' tk).TypeIs v Tn ∧ (∀ a, v = .ref a → ∃ ob, h'.get? a = some ob ∧ ob.dict = none))
    (c : ∀ v h' tk, Ext s.heap h' → Sat K.β env Γ N mu h' → t.P (fz h' mu) v → wpAny K.M A (call (.builtin id) [v]) Q E (Sx s h' tk))
    (hbase : attributeBase o name env (eval o env) = eval o env := by rfl) (hline : (apos.endLine == pos.line) = true := by rfl) : wpAny K.M A (eval (.Call (.Attribute o name apos) [] [] pos) env) Q E s := by
  refine wpAny_Call_method hbase rfl hline pa slot hty (x.use S fun v h1 k1 e1 p1 => ⟨(hT v h1 k1 e1 p1).1, (hT v h1 k1 e1 p1).2, ?_⟩)
  refine callWith_of (P := fun h => Ext K.β.hb h) rfl (fun h eh => Kept.looks (.inl ⟨_, rfl⟩) h eh) (PySem.evalArgs_none ?_)
  exact ⟨(S.ext e1).base, c v h1 k1 e1 (S.ext e1) p1⟩

/-! the ledger's lists: append, pop, truth -/
theorem ev_append {x : Str} {px apos pos : Pos} {e : Expr} {a : Addr} {j : Nat} {ds : List PyData} {d : PyData} (hx : Γ.lookup x = some (isv (.ref a))) (hN : N[j]? = some (a, ds)) (y : Ev K A env Γ N e (dat d)) (hz : ds.length ≤ sizeLine)
    (he : starEach [e] env = (false, eval e env) :: starEach [] env := by rfl) (hbase : attributeBase (.Name x px) "append" env (eval (.Name x px) env) = eval (.Name x px) env := by rfl)
    (hfew : ((backTo pos (starEach [e] env)).all (fun x => !x.1) && (backToKw pos (keywordEach [] env)).all (fun x => x.1.isSome) && decide ([e].length + ([] : List Keyword).length + (if ([] : List Keyword).isEmpty then 0 else 1) < 30)) = true := by rfl)
    (hline : (apos.endLine == pos.line) = true := by rfl) (hp : (backTo pos (starEach [] env)).any (·.1) = false := by rfl)
    (hn : (x == ("__classdict__" : Str)) = false := by decide) (hb : (x == ("__debug__" : Str)) = false := by decide) :
    EvM K A env Γ N (.Call (.Attribute (.Name x px) "append" apos) [e] [] pos) (dat .none) (N.set j (a, ds ++ [d])) := fun mu s S => by
  have hm := List.mem_of_getElem? hN
  refine method_go (ev_name hx hn hb) (Evs.cons y Evs.nil he) S PySem.F.plainAttrs_list PySem.F.slot_list_append PySem.F.type_list_append (fun v h1 k1 e1 p1 => ?_) (fun v vs h1 k1 e1 S1 p1 p2 => ?_) hbase hfew hline he hp
  · have p1 : v = .ref a := p1
    subst p1
    obtain ⟨its, l, r⟩ := (S.ext e1).lists _ hm
    exact ⟨l.isList.typeIs, fun b hb => by cases hb; obtain ⟨_, e⟩ := l; exact ⟨_, e, rfl⟩⟩
  · have p1 : v = .ref a := p1
    subst p1
    cases p2 with
    | cons q p2 =>
      cases p2
      obtain ⟨its, l, r⟩ := S1.lists _ hm
      have es : its.size = ds.length := by have := rds_length r; simpa using this
      refine wpAny_list_append_plain (s := Sx s h1 k1) l (fun h2 l2 s2 => ?_) (by rw [es]; exact hz)
      have c2 : Chg [a] h1 h2 := Chg.of_same s2 fun _ _ => let ⟨_, q⟩ := l2; ⟨_, q⟩
      have k2 := fz_chg (mu := mu) c2 fun b hb => by rw [List.mem_singleton.mp hb]; exact S1.hid _ (own_list hm)
      refine ⟨h2, k1, rfl, (Chg.of_ext e1).trans (c2.mono fun b hb => by rw [List.mem_singleton.mp hb]; exact List.mem_map.mpr ⟨_, hm, rfl⟩), S1.setList hN c2 l2 ?_, RD.none _⟩
      simp only [Array.toList_push]
      exact All2.append (RDs.mono r k2) (.cons (RD.mono q k2) .nil)
theorem ev_pop {x : Str} {px apos pos : Pos} {a : Addr} {j : Nat} {ds : List PyData} {d : PyData} (hx : Γ.lookup x = some (isv (.ref a))) (hN : N[j]? = some (a, ds ++ [d])) (hz : ds.length + 1 ≤ sizeLine)
    (hbase : attributeBase (.Name x px) "pop" env (eval (.Name x px) env) = eval (.Name x px) env := by rfl) (hline : (apos.endLine == pos.line) = true := by rfl)
    (hn : (x == ("__classdict__" : Str)) = false := by decide) (hb : (x == ("__debug__" : Str)) = false := by decide) :
    EvM K A env Γ N (.Call (.Attribute (.Name x px) "pop" apos) [] [] pos) (dat d) (N.set j (a, ds)) := fun mu s S => by
  have hm := List.mem_of_getElem? hN
  refine method_go0 (ev_name hx hn hb) S PySem.F.plainAttrs_list PySem.F.slot_list_pop PySem.F.type_list_pop (fun v h1 k1 e1 p1 => ?_) (fun v h1 k1 e1 S1 p1 => ?_) hbase hline
  · have p1 : v = .ref a := p1
    subst p1
    obtain ⟨its, l, r⟩ := (S.ext e1).lists _ hm
    exact ⟨l.isList.typeIs, fun b hb => by cases hb; obtain ⟨_, e⟩ := l; exact ⟨_, e, rfl⟩⟩
  · have p1 : v = .ref a := p1
    subst p1
    obtain ⟨its, l, r⟩ := S1.lists _ hm
    have es : its.size = ds.length + 1 := by have := rds_length r; simpa using this
    obtain ⟨nn, hl⟩ := l
    obtain ⟨y, hy, ry⟩ := getD_of r (i := ds.length) (d := d) (by simp)
    have hy' : its[its.size - 1]? = some y := by rw [es]; simpa using hy
    refine call_meets (s := Sx s h1 k1) PySem.F.slot_list_pop ⟨_, hl, rfl⟩ PySem.F.entry_list_pop (PySem.F.args_list_pop_1 _) (PySem.MeetsSeq.list_pop_last a its nn y hy' (by rw [es]; exact hz)) ⟨hl, ?_⟩
    have l2 : (h1.update a (Obj.mapSeq fun xs => xs.eraseIdxIfInBounds (its.size - 1))).PlainList a (its.eraseIdxIfInBounds (its.size - 1)) := ⟨_, PySem.IsL.update hl _⟩
    have s2 : Heap.SameBut a h1 (h1.update a (Obj.mapSeq fun xs => xs.eraseIdxIfInBounds (its.size - 1))) := Heap.SameBut.update ..
    generalize h1.update a (Obj.mapSeq fun xs => xs.eraseIdxIfInBounds (its.size - 1)) = h2 at l2 s2
    have c2 : Chg [a] h1 h2 := Chg.of_same s2 fun _ _ => let ⟨_, q⟩ := l2; ⟨_, q⟩
    have k2 := fz_chg (mu := mu) c2 fun b hb => by rw [List.mem_singleton.mp hb]; exact S1.hid _ (own_list hm)
    refine ⟨h2, k1, rfl, (Chg.of_ext e1).trans (c2.mono fun b hb => by rw [List.mem_singleton.mp hb]; exact List.mem_map.mpr ⟨_, hm, rfl⟩), S1.setList hN c2 l2 ?_, RD.mono ry k2⟩
    have e3 : (its.eraseIdxIfInBounds (its.size - 1)).toList = its.toList.dropLast := by
      rw [Array.eraseIdxIfInBounds, dif_pos (by omega), Array.toList_eraseIdx, List.dropLast_eq_take, List.eraseIdx_eq_take_drop_succ]
      simp only [Array.length_toList]
      rw [List.drop_of_length_le (by simp; omega), List.append_nil]
    rw [e3]
    have := All2.dropLast (RDs.mono r k2)
    simpa [RDs] using this
theorem tr_list_mut {x : Str} {px : Pos} {a : Addr} {j : Nat} {ds : List PyData} (hx : Γ.lookup x = some (isv (.ref a))) (hN : N[j]? = some (a, ds)) (hz : ds.length < 2 ^ 62)
    (hn : (x == ("__classdict__" : Str)) = false := by decide) (hb : (x == ("__debug__" : Str)) = false := by decide) : Tr K A env Γ N (.Name x px) (!ds.isEmpty) := fun mu s S => by
  refine wpAny_isTrue_value ((ev_name (t := isv (.ref a)) hx hn hb : Ev K A env Γ N (.Name x px) _).use S fun v h1 k1 e1 p1 => ?_)
  have p1 : v = .ref a := p1
  subst p1
  obtain ⟨its, l, r⟩ := (S.ext e1).lists _ (List.mem_of_getElem? hN)
  have es : its.size = ds.length := by have := rds_length r; simpa using this
  refine wpAny_truthy_list (s := Sx s h1 k1) l.isList (by rw [es]; omega) ⟨?_, h1, _, rfl, e1⟩
  cases ds with
  | nil => simp at es; simp [es]
  | cons d ds => cases hi : its.isEmpty with
    | false => rfl
    | true => simp at hi; subst hi; simp at es
end
end Mine

namespace Mine
structure CompOk (env : Env) (scope : Scope) (cl : List (Str × Addr)) (Γ Γc : Gam) : Prop where
  clos : closureFor scope env = pure cl
  cell : ∀ y ∈ scope.names, y.2 ≠ .cell
  kind : scope.kind = .function
  names : ∀ x ∈ scope.names, x.2 = .local → scope.names.lookup x.1 = some .local
  sub : ∀ p ∈ cl, p ∈ env.cells
  nd : (cl.map (·.1)).Nodup
  cap : Caps env scope cl Γ Γc
section
variable {K : Wd} {A : Around} {env : Env} {Γ Γ' Γc : Gam} {N N' : Led} {mu mu' : List Addr} {s : Shared} {h₀ h h' : Heap} {D : List Addr} {I : Addr} {n i : Nat} {T : Nat → Ty}
theorem filter_true (n : Nat) : (List.range n).filter (fun _ => true) = List.range n := List.filter_eq_self.mpr fun _ _ => rfl
theorem loops_map {elt iter target : Expr} {scope : Scope} {cl : List (Str × Addr)} {pos : Pos} (Γt : Nat → Gam) (dd : Nat → PyData) {C : Addr} (tg : ∀ i, Tg K A (compEnvC scope cl C env) Γc target (T i) (Γt i) [(compEnvC scope cl C env).locals]) (hsub : ∀ i, Sub Γc (Γt i))
    (he : ∀ i, i < n → Ev K A (compEnvC scope cl C env) (Γt i) N elt (dat (dd i))) (hz : n ≤ sizeLine) :
    Loops K A (.ListComp elt [⟨target, iter, [], 0⟩] scope pos) 0 (compEnvC scope cl C env) Γc N N [] ((List.range n).map dd) n T [] := by
  have := loops_last (K := K) (A := A) (n := n) (T := T) (cenv := compEnvC scope cl C env) (Γc := Γc) (elt := elt) (target := target) (ifs := []) (d := 0) (gens := [⟨target, iter, [], 0⟩]) (scope := scope) (cpos := pos) (p0 := iter.pos) Γt (fun _ => N) (fun _ => true) dd (as := []) (W := []) (fun _ q => nomatch q)
    (fun it acc env => compTurn_list elt target iter [] scope pos it acc env) (fun _ _ => rfl) (fun _ q => nomatch q) tg hsub (fun i hi => tests_nil) (fun i hi _ => (he i hi).w) (by simpa using hz)
  rwa [filter_true, List.nil_append] at this
theorem loops_filter {elt iter target c : Expr} {scope : Scope} {cl : List (Str × Addr)} {pos : Pos} (Γt : Nat → Gam) (b : Nat → Bool) (dd : Nat → PyData) {C : Addr} (tg : ∀ i, Tg K A (compEnvC scope cl C env) Γc target (T i) (Γt i) [(compEnvC scope cl C env).locals]) (hsub : ∀ i, Sub Γc (Γt i))
    (ht : ∀ i, i < n → Tr K A (compEnvC scope cl C env) (Γt i) N c (b i)) (he : ∀ i, i < n → Ev K A (compEnvC scope cl C env) (Γt i) N elt (dat (dd i))) (hz : n ≤ sizeLine) :
    Loops K A (.ListComp elt [⟨target, iter, [c], 0⟩] scope pos) 0 (compEnvC scope cl C env) Γc N N [] (((List.range n).filter b).map dd) n T [] := by
  have := loops_last (K := K) (A := A) (n := n) (T := T) (cenv := compEnvC scope cl C env) (Γc := Γc) (elt := elt) (target := target) (ifs := [c]) (d := 0) (gens := [⟨target, iter, [c], 0⟩]) (scope := scope) (cpos := pos) (p0 := iter.pos) Γt (fun _ => N) b dd (as := []) (W := []) (fun _ q => nomatch q)
    (fun it acc env => compTurn_list elt target iter [c] scope pos it acc env) (fun _ _ => rfl) (fun _ _ => rfl) tg hsub (fun i hi => tests_one (ht i hi)) (fun i hi _ => (he i hi).w) (by simpa using hz)
  rwa [List.nil_append] at this
theorem ev_map {elt iter : Expr} {x : Str} {px : Pos} {scope : Scope} {cl : List (Str × Addr)} {pos : Pos} (Γc : Gam) (dd : Nat → PyData) (co : CompOk env scope cl Γ Γc) (hx : scope.names.lookup x = some .local) (hsub : ∀ t, Sub Γc ((x, t) :: Γc)) (hi : It K A env Γ N iter n T)
    (he : ∀ C i, i < n → Ev K A (compEnvC scope cl C env) ((x, T i) :: Γc) N elt (dat (dd i))) (hz : n ≤ sizeLine) (hs : ∀ x, foldedSetIterable iter env x = pure x := by intro _; rfl) :
    Ev K A env Γ N (.ListComp elt [⟨.Name x px, iter, [], 0⟩] scope pos) (tL ((List.range n).map dd)) :=
  (ev_comp co.clos co.cell co.kind co.names co.sub co.nd co.cap hi rfl (W := []) (fun _ q => nomatch q) (fun C => loops_map (fun i => (x, T i) :: Γc) dd (fun i => tg_name (lookup_relabel_local hx)) (fun i => hsub _) (he C) hz) hs).ev
theorem ev_map2 {elt iter : Expr} {x y : Str} {px py pt : Pos} {kk k : Nat} {scope : Scope} {cl : List (Str × Addr)} {pos : Pos} {d1 d2 : Nat → PyData} (hA : AOk k A) (Γc : Gam) (dd : Nat → PyData) (co : CompOk env scope cl Γ Γc) (hx : scope.names.lookup x = some .local) (hy : scope.names.lookup y = some .local) (hsub : ∀ t u, Sub Γc ((y, t) :: (x, u) :: Γc))
    (hi : It K A env Γ N iter n (fun i => tT [d1 i, d2 i])) (he : ∀ C i, i < n → Ev K A (compEnvC scope cl C env) ((y, dat (d2 i)) :: (x, dat (d1 i)) :: Γc) N elt (dat (dd i))) (hz : n ≤ sizeLine) (hs : ∀ x, foldedSetIterable iter env x = pure x := by intro _; rfl) :
    Ev K A env Γ N (.ListComp elt [⟨.Tuple [.Name x px, .Name y py] kk pt, iter, [], 0⟩] scope pos) (tL ((List.range n).map dd)) :=
  (ev_comp co.clos co.cell co.kind co.names co.sub co.nd co.cap hi rfl (W := []) (fun _ q => nomatch q) (fun C => loops_map (fun i => (y, dat (d2 i)) :: (x, dat (d1 i)) :: Γc) dd (fun i => tg_pair hA (lookup_relabel_local hx) (lookup_relabel_local hy)) (fun i => hsub _ _) (he C) hz) hs).ev
theorem ev_filter {elt iter c : Expr} {x : Str} {px : Pos} {scope : Scope} {cl : List (Str × Addr)} {pos : Pos} (Γc : Gam) (b : Nat → Bool) (dd : Nat → PyData) (co : CompOk env scope cl Γ Γc) (hx : scope.names.lookup x = some .local) (hsub : ∀ t, Sub Γc ((x, t) :: Γc)) (hi : It K A env Γ N iter n T)
    (ht : ∀ C i, i < n → Tr K A (compEnvC scope cl C env) ((x, T i) :: Γc) N c (b i)) (he : ∀ C i, i < n → Ev K A (compEnvC scope cl C env) ((x, T i) :: Γc) N elt (dat (dd i))) (hz : n ≤ sizeLine) (hs : ∀ x, foldedSetIterable iter env x = pure x := by intro _; rfl) :
    Ev K A env Γ N (.ListComp elt [⟨.Name x px, iter, [c], 0⟩] scope pos) (tL (((List.range n).filter b).map dd)) :=
  (ev_comp co.clos co.cell co.kind co.names co.sub co.nd co.cap hi rfl (W := []) (fun _ q => nomatch q) (fun C => loops_filter (fun i => (x, T i) :: Γc) b dd (fun i => tg_name (lookup_relabel_local hx)) (fun i => hsub _) (ht C) (he C) hz) hs).ev
/-- the items change the ledger -/
theorem ev_mapM {elt iter : Expr} {x : Str} {px : Pos} {scope : Scope} {cl : List (Str × Addr)} {pos : Pos} (Γc : Gam) (Nf : Nat → Led) (dd : Nat → PyData) (co : CompOk env scope cl Γ Γc) (hx : scope.names.lookup x = some .local) (hsub : ∀ t, Sub Γc ((x, t) :: Γc)) (hi : It K A env Γ (Nf 0) iter n T) (hN : ∀ i, i ≤ n → (Nf i).map (·.1) = (Nf 0).map (·.1))
    (he : ∀ C i, i < n → EvM K A (compEnvC scope cl C env) ((x, T i) :: Γc) (Nf i) elt (dat (dd i)) (Nf (i + 1))) (hz : n ≤ sizeLine) (hs : ∀ x, foldedSetIterable iter env x = pure x := by intro _; rfl) :
    EvM K A env Γ (Nf 0) (.ListComp elt [⟨.Name x px, iter, [], 0⟩] scope pos) (tL ((List.range n).map dd)) (Nf n) := by
  refine EvW.m (W := (Nf 0).map (·.1)) ?_ (fun _ q => q)
  refine ev_comp co.clos co.cell co.kind co.names co.sub co.nd co.cap hi (hN n (Nat.le_refl _)) (fun _ q => q) (fun C => ?_) hs
  have := loops_last (K := K) (A := A) (n := n) (T := T) (cenv := compEnvC scope cl C env) (Γc := Γc) (elt := elt) (target := .Name x px) (ifs := []) (d := 0) (gens := [⟨.Name x px, iter, [], 0⟩]) (scope := scope) (cpos := pos) (p0 := iter.pos) (fun i => (x, T i) :: Γc) Nf (fun _ => true) dd (as := []) (W := (Nf 0).map (·.1)) (fun _ q => q)
    (fun it acc env => compTurn_list elt (.Name x px) iter [] scope pos it acc env) hN (fun _ q => nomatch q) (fun i => tg_name (lookup_relabel_local hx)) (fun i => hsub _) (fun i hi => tests_nil) (fun i hi _ => by have := he C i hi; exact fun mu s S => by have z := this mu s S; rwa [hN i (Nat.le_of_lt hi)] at z) (by simpa using hz)
  rwa [filter_true, List.nil_append] at this
theorem x_retM {Q : Flow → Shared → Prop} {E : Value → Shared → Prop} {rest : List Stmt} {pos : Pos} {e : Expr} {t : Ty} (a : At K h₀ D env Γ N mu s.heap) (he : EvM K A env Γ N e t N') (hN : N'.map (·.1) = N.map (·.1)) (k : ∀ v h' tk, At K h₀ D env Γ N' mu h' → t.P (fz h' mu) v → Q (.ret v) (Sx s h' tk)) : wpAny K.M A (execs (.Return (some e) pos :: rest) env) Q E s :=
  wpAny_execs_cons (wpAny_Return_some (he.at a hN fun v h1 k1 a1 p1 => k v h1 k1 a1 p1))
/-- a fresh list goes into the ledger -/
theorem evf_list {es : List Expr} {pos : Pos} {ds : List PyData} (x : Evs K A env Γ N es (ds.map dat)) (hz : ds.length ≤ sizeLine) : EvF K A env Γ N (.List es pos) ds := fun mu s S =>
  wpAny_List (x.use S fun vs h1 k1 e1 p1 => ⟨by rw [all2_length_map p1]; exact hz, _, vs.toArray, _, k1, rfl, rfl, e1.trans (Ext.push _ _), fresh_size e1, ⟨0, Heap.get?_push_size _ rfl⟩, by
    have hn : h1.get? h1.objs.size = none := fresh_size (Ext.refl _)
    exact RDs.mono (rds_of_tys p1) (fz_new (nw := [h1.objs.size]) (Ext.push _ _) fun b hb => by rw [List.mem_singleton.mp hb]; exact hn)⟩)
theorem evf_map {elt iter : Expr} {x : Str} {px : Pos} {scope : Scope} {cl : List (Str × Addr)} {pos : Pos} (Γc : Gam) (dd : Nat → PyData) (co : CompOk env scope cl Γ Γc) (hx : scope.names.lookup x = some .local) (hsub : ∀ t, Sub Γc ((x, t) :: Γc)) (hi : It K A env Γ N iter n T)
    (he : ∀ C i, i < n → Ev K A (compEnvC scope cl C env) ((x, T i) :: Γc) N elt (dat (dd i))) (hz : n ≤ sizeLine) (hs : ∀ x, foldedSetIterable iter env x = pure x := by intro _; rfl) :
    EvF K A env Γ N (.ListComp elt [⟨.Name x px, iter, [], 0⟩] scope pos) ((List.range n).map dd) :=
  evf_comp co.clos co.cell co.kind co.names co.sub co.nd co.cap hi (fun C => loops_map (fun i => (x, T i) :: Γc) dd (fun i => tg_name (lookup_relabel_local hx)) (fun i => hsub _) (he C) hz) hs
theorem x_assign_new {Q : Flow → Shared → Prop} {E : Value → Shared → Prop} {rest : List Stmt} {pos p : Pos} {x : Str} {e : Expr} {ds : List PyData} (a : At K h₀ D env Γ N mu s.heap) (he : EvF K A env Γ N e ds) (hk : CanStore env x)
    (k : ∀ b h' tk, b ∉ mu → At K h₀ D env ((x, isv (.ref b)) :: Γ) ((b, ds) :: N) ([b] ++ mu) h' → wpAny K.M A (execs rest env) Q E (Sx s h' tk))
    (hs : swapsWith e (some (.Name x p)) pos.line env = pure false := by rfl) : wpAny K.M A (execs (.Assign [.Name x p] e pos :: rest) env) Q E s :=
  wpAny_execs_cons (wpAny_Assign_Name (wpAny_mono (he mu s a.sat) (by
    rintro v s' ⟨b, its, h1, k1, rfl, rfl, e1, hb, l, r⟩
    have S1 := a.sat.addList e1 hb l r
    have a1 : At K h₀ D env Γ ((b, ds) :: N) ([b] ++ mu) h1 := a.next S1 (Chg.of_ext e1) fun c hc => by
      rcases own_mem.mp hc with q | ⟨y, q⟩ | ⟨ds', q⟩
      · exact .inl (own_mem.mpr (.inl q))
      · exact .inl (own_cell q)
      · rcases List.mem_cons.mp q with q | q
        · cases q; exact .inr hb
        · exact .inl (own_list q)
    exact x_store (t := isv (.ref b)) (s := Sx s h1 k1) a1 hk rfl fun h' tk a' => k b h' tk (fresh_off a.sat hb) a') fun _ _ z => z.elim) hs)
end
end Mine

namespace Mine

/-! the program's defs, by their place -/
def fdOf : Stmt → FD
  | .FunctionDef n a b _ _ _ sc _ _ _ => ⟨n, a, b, sc⟩
  | _ => ⟨"", ⟨[], [], none, [], [], none, []⟩, [], default⟩
def fdAt (i : Nat) : FD := fdOf (PySem.Challenge.pw_op0063_01.main.body.getD i (.Pass default))
def dSLD : FD := fdAt 1
def dCmp : FD := fdAt 2
def dHE : FD := fdAt 14
def dPush : FD := fdAt 19
def dPop : FD := fdAt 20
def dHeapify : FD := fdAt 21
def dSD : FD := fdAt 22
def dSU : FD := fdAt 23
def dNumbers : FD := fdAt 25
def dOctets : FD := fdAt 26
def dSign : FD := fdAt 27
def dInOrder : FD := fdAt 28
def dWords : FD := fdAt 29
def dLaid : FD := fdAt 30
def dOpening : FD := fdAt 31
def dRow : FD := fdAt 32
def dGreedy : FD := fdAt 33
def dOff : FD := fdAt 34
def dOnce : FD := fdAt 35
def dHolds : FD := fdAt 36
def dLaw : FD := fdAt 37

theorem map_get {val : Nat → PyData} {l : List Nat} {i : Nat} (h : i < l.length) : (l.map val)[i]? = some (val (l.getD i 0)) := by
  rw [List.getElem?_map, List.getElem?_eq_getElem h]; simp [List.getD, h]
theorem getD_lt {l : List Nat} {n i : Nat} (hl : ∀ k ∈ l, k < n) (h : i < l.length) : l.getD i 0 < n := by
  have : l.getD i 0 = l[i] := by simp [List.getD, h]
  rw [this]; exact hl _ (List.getElem_mem h)
theorem set_lt {l : List Nat} {n i x : Nat} (hl : ∀ k ∈ l, k < n) (hx : x < n) : ∀ k ∈ l.set i x, k < n := fun k hk => by
  rcases List.mem_or_eq_of_mem_set hk with q | q
  · exact hl k q
  · rw [q]; exact hx

/-! the heap's functions on ranks -/
def sdLoop (new start : Nat) : Nat → Nat → List Nat → List Nat × Nat
  | 0, pos, l => (l, pos)
  | f + 1, pos, l => if start < pos then
      (if new < l.getD ((pos - 1) / 2) 0 then sdLoop new start f ((pos - 1) / 2) (l.set pos (l.getD ((pos - 1) / 2) 0)) else (l, pos)) else (l, pos)
def siftdownF (l : List Nat) (start pos : Nat) : List Nat :=
  let r := sdLoop (l.getD pos 0) start pos pos l
  r.1.set r.2 (l.getD pos 0)

def suNext (l : List Nat) (c : Nat) : Nat := if c + 1 < l.length then (if l.getD c 0 < l.getD (c + 1) 0 then c else c + 1) else c
def suLoop : Nat → Nat → List Nat → List Nat × Nat
  | 0, pos, l => (l, pos)
  | f + 1, pos, l => if 2 * pos + 1 < l.length then suLoop f (suNext l (2 * pos + 1)) (l.set pos (l.getD (suNext l (2 * pos + 1)) 0)) else (l, pos)
def siftupF (l : List Nat) (pos : Nat) : List Nat :=
  let r := suLoop l.length pos l
  siftdownF (r.1.set r.2 (l.getD pos 0)) pos r.2
def popF (l : List Nat) : Nat × List Nat :=
  match l.dropLast with
  | [] => (l.getD (l.length - 1) 0, [])
  | x :: r => (x, siftupF ((x :: r).set 0 (l.getD (l.length - 1) 0)) 0)
def pushF (l : List Nat) (x : Nat) : List Nat := siftdownF (l ++ [x]) 0 l.length
def heapifyL : Nat → List Nat → List Nat
  | 0, l => l
  | i + 1, l => heapifyL i (siftupF l i)
def heapifyF (l : List Nat) : List Nat := heapifyL (l.length / 2) l
def popsF : Nat → List Nat → List Nat
  | 0, _ => []
  | n + 1, l => (popF l).1 :: popsF n (popF l).2
theorem sdLoop_length (new start : Nat) : ∀ (f pos : Nat) (l : List Nat), (sdLoop new start f pos l).1.length = l.length
  | 0, _, _ => rfl
  | f + 1, pos, l => by
    unfold sdLoop
    split
    · split
      · rw [sdLoop_length new start f]; simp
      · rfl
    · rfl
theorem sdLoop_lt {n : Nat} (new start : Nat) : ∀ (f pos : Nat) (l : List Nat), pos < l.length → (∀ k ∈ l, k < n) → (∀ k ∈ (sdLoop new start f pos l).1, k < n)
  | 0, _, _, _, h => h
  | f + 1, pos, l, hp, h => by
    unfold sdLoop
    split
    · split
      · exact sdLoop_lt new start f _ _ (by simp; omega) (set_lt h (getD_lt h (by omega)))
      · exact h
    · exact h
theorem siftdownF_length (l : List Nat) (start pos : Nat) : (siftdownF l start pos).length = l.length := by
  unfold siftdownF; simp [sdLoop_length]
theorem siftdownF_lt {n : Nat} {l : List Nat} {start pos : Nat} (hp : pos < l.length) (h : ∀ k ∈ l, k < n) : ∀ k ∈ siftdownF l start pos, k < n := by
  unfold siftdownF
  exact set_lt (sdLoop_lt _ _ _ _ _ hp h) (getD_lt h hp)
theorem suNext_lt {l : List Nat} {c : Nat} (h : c < l.length) : suNext l c < l.length ∧ c ≤ suNext l c ∧ suNext l c ≤ c + 1 := by
  unfold suNext; split
  · split <;> omega
  · omega
theorem suLoop_length : ∀ (f pos : Nat) (l : List Nat), (suLoop f pos l).1.length = l.length
  | 0, _, _ => rfl
  | f + 1, pos, l => by
    unfold suLoop
    split
    · rw [suLoop_length f]; simp
    · rfl
theorem suLoop_ok {n : Nat} : ∀ (f pos : Nat) (l : List Nat), pos < l.length → (∀ k ∈ l, k < n) → (∀ k ∈ (suLoop f pos l).1, k < n) ∧ (suLoop f pos l).2 < l.length
  | 0, _, _, hp, h => ⟨h, hp⟩
  | f + 1, pos, l, hp, h => by
    unfold suLoop
    split
    · rename_i hc
      have q := suNext_lt hc
      have := suLoop_ok f (suNext l (2 * pos + 1)) (l.set pos (l.getD (suNext l (2 * pos + 1)) 0)) (by simp; omega) (set_lt h (getD_lt h q.1))
      simpa using this
    · exact ⟨h, hp⟩
theorem siftupF_length (l : List Nat) (pos : Nat) : (siftupF l pos).length = l.length := by
  unfold siftupF; simp [siftdownF_length, suLoop_length]
theorem siftupF_lt {n : Nat} {l : List Nat} {pos : Nat} (hp : pos < l.length) (h : ∀ k ∈ l, k < n) : ∀ k ∈ siftupF l pos, k < n := by
  unfold siftupF
  have q := suLoop_ok l.length pos l hp h
  exact siftdownF_lt (by simp [suLoop_length]; exact q.2) (set_lt q.1 (getD_lt h hp))

theorem half_eq (p : Nat) (h : 0 < p) : ((p : Int) - 1).fdiv (2 ^ (1 : Int).toNat) = (((p - 1) / 2 : Nat) : Int) := by
  have e : ((p : Int) - 1) = ((p - 1 : Nat) : Int) := by omega
  rw [e]
  show ((p - 1 : Nat) : Int).fdiv 2 = _
  rw [Int.fdiv_eq_ediv_of_nonneg _ (by decide)]
  rfl

/-- how two items are held against each other -/
def CmpLt (K : Wd) (val : Nat → PyData) (n : Nat) : Prop := ∀ A k, AOk k A → ∀ i j, i < n → j < n → Op2 K A (compareOp .Lt) (dat (val i)) (dat (val j)) (tB (decide (i < j)))

theorem plain_name {x : Str} {p : Pos} : Plain (.Name x p) := fun _ _ => rfl
theorem plain_int {i : Int} {k : Nat} {p : Pos} : Plain (.Constant (.int i) k p) := fun _ _ => rfl
theorem plain_bin {l r : Expr} {o : Operator} {p : Pos} : Plain (.BinOp l o r p) := fun _ _ => rfl
end Mine

namespace Mine

structure SdI (n len new start : Nat) (R : List Nat × Nat) where
  l : List Nat
  p : Nat
  f : Nat
  h1 : p ≤ f
  h2 : p < l.length
  h3 : l.length = len
  h4 : ∀ k ∈ l, k < n
  h5 : sdLoop new start f p l = R

theorem siftdown_ok {K : Wd} {f : Addr} {val : Nat → PyData} {n : Nat} {ks : List Nat} {start pos : Nat} (hd : K.β.HasDef dSD f) (H : CmpLt K val n) (hn : ∀ k ∈ ks, k < n) (hp : pos < ks.length) (hz : ks.length ≤ 2 ^ 20) (j : Nat) :
    FnM K (j + 1) f [tI start, tI pos] (dat .none) (ks.map val) ((siftdownF ks start pos).map val) := by
  refine fnM_of (Γ := fun a => [("heap", isv (.ref a)), ("startpos", tI start), ("pos", tI pos)]) hd rfl rfl rfl (by decide) (fun a vals hv => ?_) ?_
  · cases hv with
    | @cons v1 _ _ _ _ hv => cases hv with
      | @cons v2 _ _ _ _ hv =>
        cases hv
        exact ⟨[("heap", .ref a), ("startpos", v1), ("pos", v2)], fun _ _ _ => rfl, by rfl, fun L cd g hp => by
          cases hp with
          | cons p1 hp => cases hp with
            | cons p2 _ => exact ⟨.inl ⟨rfl, _, rfl, rfl⟩, .inl ⟨rfl, _, rfl, p1⟩, .inl ⟨rfl, _, rfl, p2⟩, trivial⟩⟩
  · intro A L cd a mu h₀ s Q hA z k
    have hnew : ks.getD pos 0 < n := getD_lt hn hp
    refine x_assign z (ev_item_mut (j := 0) rfl rfl (ev_name rfl) plain_name (by omega) (by omega) (map_get hp)) (.inl rfl) fun h1 t1 a1 => ?_
    generalize hR : sdLoop (ks.getD pos 0) start pos pos ks = R
    have hF : siftdownF ks start pos = R.1.set R.2 (ks.getD pos 0) := by unfold siftdownF; rw [hR]
    refine x_while (ι := SdI n ks.length (ks.getD pos 0) start R)
      (fun i => [("newitem", dat (val (ks.getD pos 0))), ("heap", isv (.ref a)), ("startpos", tI start), ("pos", tI i.p)]) (fun i => [(a, i.l.map val)]) (fun i => i.p) (fun i => decide ((start : Int) < i.p))
      ⟨ks, pos, pos, Nat.le_refl _, hp, rfl, hn, hR⟩ a1 (fun i => tr_cmp (ev_name rfl) (ev_name rfl) op_gt) (fun i h t E' hb z => ?_) (fun i h t hb z => ?_)
    · have hsp : start < i.p := by have := of_decide_eq_true hb; omega
      have hl := i.h2
      have hlen := i.h3
      have hpp : (i.p - 1) / 2 < i.l.length := by omega
      refine x_assign z (ev_bin (ev_bin (ev_name rfl) ev_int op_sub) ev_int (op_shr (by decide))) (.inl rfl) fun h2 t2 a2 => ?_
      rw [half_eq i.p (by omega)] at a2
      refine x_assign a2 (ev_item_mut (j := 0) rfl rfl (ev_name rfl) plain_name (by omega) (by omega) (map_get hpp)) (.inl rfl) fun h3 t3 a3 => ?_
      refine x_if a3 (tr_cmp (ev_name rfl) (ev_name rfl) (H A j hA _ _ hnew (getD_lt i.h4 hpp))) (fun hc h4 t4 a4 => ?_) (fun hc h4 t4 a4 => ?_)
      · have hc : ks.getD pos 0 < i.l.getD ((i.p - 1) / 2) 0 := of_decide_eq_true hc
        refine x_set (j := 0) a4 rfl rfl (ev_name rfl) (ev_name rfl) (by omega) (by simp; omega) (by omega) fun h5 t5 a5 => ?_
        refine x_assign a5 (ev_name rfl) (.inl rfl) fun h6 t6 a6 => ?_
        refine x_cont ?_
        cases hf : i.f with
        | zero => have := i.h1; omega
        | succ f =>
          have h5 := i.h5
          rw [hf, sdLoop, if_pos hsp, if_pos hc] at h5
          refine ⟨⟨i.l.set i.p (i.l.getD ((i.p - 1) / 2) 0), (i.p - 1) / 2, f, by have := i.h1; omega, by simp; omega, by simp [i.h3], set_lt i.h4 (getD_lt i.h4 hpp), h5⟩, h6, t6, by show (i.p - 1) / 2 < i.p; omega, rfl, ?_⟩
          simp only [List.set_cons_zero, Int.toNat_natCast, ← List.map_set] at a6
          refine At.sub a6 ?_
          exact ⟨rfl, rfl, rfl, rfl, trivial⟩
      · have hc : ¬ ks.getD pos 0 < i.l.getD ((i.p - 1) / 2) 0 := of_decide_eq_false hc
        refine x_nil (x_brk ?_)
        have h5 := i.h5
        have e : (i.l, i.p) = R := by
          refine Eq.trans ?_ h5
          cases hf : i.f with
          | zero => rfl
          | succ f => rw [sdLoop, if_pos hsp, if_neg hc]
        refine x_set (j := 0) a4 rfl rfl (ev_name rfl) (ev_name rfl) (by omega) (by simp; omega) (by omega) fun h7 t7 a7 => x_nil ?_
        have e2 : ((i.l.map val).set (Int.toNat i.p) (val (ks.getD pos 0))) = (siftdownF ks start pos).map val := by
          have e1 : i.l = R.1 := congrArg Prod.fst e
          have e2 : i.p = R.2 := congrArg Prod.snd e
          rw [hF, ← e1, ← e2, List.map_set]; rfl
        simp only [List.set_cons_zero, e2] at a7
        exact k _ h7 t7 _ _ a7 (fun _ q => q) (RD.none _)
    · have hsp : ¬ start < i.p := by have := of_decide_eq_false hb; omega
      have e : (i.l, i.p) = R := by
        refine Eq.trans ?_ i.h5
        cases hf : i.f with
        | zero => rfl
        | succ f => rw [sdLoop, if_neg hsp]
      have hl := i.h2
      have hlen := i.h3
      refine x_set (j := 0) z rfl rfl (ev_name rfl) (ev_name rfl) (by omega) (by simp; omega) (by omega) fun h7 t7 a7 => x_nil ?_
      have e2 : ((i.l.map val).set (Int.toNat i.p) (val (ks.getD pos 0))) = (siftdownF ks start pos).map val := by
        have e1 : i.l = R.1 := congrArg Prod.fst e
        have e2 : i.p = R.2 := congrArg Prod.snd e
        rw [hF, ← e1, ← e2, List.map_set]; rfl
      simp only [List.set_cons_zero, e2] at a7
      exact k _ h7 t7 _ _ a7 (fun _ q => q) (RD.none _)
end Mine

namespace Mine

structure SuI (n len : Nat) (R : List Nat × Nat) where
  l : List Nat
  p : Nat
  f : Nat
  h1 : len ≤ f + p
  h2 : p < l.length
  h3 : l.length = len
  h4 : ∀ k ∈ l, k < n
  h5 : suLoop f p l = R

theorem boot_len : bootBuiltins "len" = some (.builtin "len") := by kernel_rfl

/-- what the defs' names lead to -/
structure Nm (β : Bs) (x : Str) (u : Value) : Prop where
  g : β.mg x = some u
structure Bn (β : Bs) (x : Str) (u : Value) : Prop where
  g : β.mg x = none
  b : bootBuiltins x = some u

theorem HasDef.kept {β : Bs} {d : FD} {f : Addr} (h : β.HasDef d f) : Kept β (.ref f) := let ⟨o, _, _, _, _, a, b, _⟩ := h; .inr (.inr ⟨f, o, _, rfl, a, b⟩)
theorem HasDef.name {β : Bs} {d : FD} {f : Addr} (h : β.HasDef d f) : β.mg d.name = some (.ref f) := let ⟨_, _, _, _, e, _⟩ := h; e

theorem siftup_ok {K : Wd} {f fd : Addr} {val : Nat → PyData} {n : Nat} {ks : List Nat} {pos : Nat} (hd : K.β.HasDef dSU f) (hsd : K.β.HasDef dSD fd) (hlen : Bn K.β "len" (.builtin "len")) (H : CmpLt K val n) (hn : ∀ k ∈ ks, k < n) (hp : pos < ks.length) (hz : ks.length ≤ 2 ^ 20) (j : Nat) :
    FnM K (j + 2) f [tI pos] (dat .none) (ks.map val) ((siftupF ks pos).map val) := by
  refine fnM_of (Γ := fun a => [("heap", isv (.ref a)), ("pos", tI pos)]) hd rfl rfl rfl (by decide) (fun a vals hv => ?_) ?_
  · cases hv with
    | @cons v1 _ _ _ _ hv =>
        cases hv
        exact ⟨[("heap", .ref a), ("pos", v1)], fun _ _ _ => rfl, by rfl, fun L cd g hp => by
          cases hp with
          | cons p1 hp => exact ⟨.inl ⟨rfl, _, rfl, rfl⟩, .inl ⟨rfl, _, rfl, p1⟩, trivial⟩⟩
  · intro A L cd a mu h₀ s Q hA z k
    have hnew : ks.getD pos 0 < n := getD_lt hn hp
    refine x_assign z (ev_len_mut (j := 0) (ev_blt rfl hlen.g hlen.b) rfl rfl (by rw [sizeLine_eq]; simp; omega)) (.inl rfl) fun h1 t1 a1 => ?_
    refine x_assign a1 (ev_name rfl) (.inl rfl) fun h2 t2 a2 => ?_
    refine x_assign a2 (ev_item_mut (j := 0) rfl rfl (ev_name rfl) plain_name (by omega) (by omega) (map_get hp)) (.inl rfl) fun h3 t3 a3 => ?_
    refine x_assign a3 (ev_bin (ev_bin ev_int (ev_name rfl) (op_mul (.of_left (by decide)))) ev_int op_add) (.inl rfl) fun h4 t4 a4 => ?_
    generalize hR : suLoop ks.length pos ks = R
    have hF : siftupF ks pos = siftdownF (R.1.set R.2 (ks.getD pos 0)) pos R.2 := by unfold siftupF; rw [hR]
    have hRo := suLoop_ok ks.length pos ks hp hn
    have hRl := suLoop_length ks.length pos ks
    rw [hR] at hRo hRl
    refine x_while (ι := SuI n ks.length R)
      (fun i => [("childpos", tI (2 * i.p + 1 : Nat)), ("newitem", dat (val (ks.getD pos 0))), ("startpos", tI pos), ("endpos", tI ks.length), ("heap", isv (.ref a)), ("pos", tI i.p)]) (fun i => [(a, i.l.map val)]) (fun i => ks.length - i.p) (fun i => decide (((2 * i.p + 1 : Nat) : Int) < (ks.length : Nat)))
      ⟨ks, pos, ks.length, by omega, hp, rfl, hn, hR⟩ (by
        refine At.sub a4 ?_
        have e : (((2 * pos + 1 : Nat)) : Int) = 2 * (pos : Int) + 1 := by omega
        rw [e]
        simp only [List.length_map]
        exact ⟨rfl, rfl, rfl, rfl, rfl, rfl, trivial⟩) (fun i => tr_cmp (ev_name rfl) (ev_name rfl) op_lt) (fun i h t E' hb z => ?_) (fun i h t hb z => ?_)
    · have hc : 2 * i.p + 1 < ks.length := by have := of_decide_eq_true hb; omega
      have hl := i.h2
      have hlen' := i.h3
      have hc' : 2 * i.p + 1 < i.l.length := by omega
      have q := suNext_lt hc'
      refine x_assign z (ev_bin (ev_name rfl) ev_int op_add) (.inl rfl) fun h5 t5 a5 => ?_
      have eC : (((2 * i.p + 1 : Nat) : Int) + 1) = ((2 * i.p + 2 : Nat) : Int) := by omega
      rw [eC] at a5
      refine x_if (b := (decide (((2 * i.p + 2 : Nat) : Int) < (ks.length : Nat)) && !(decide (i.l.getD (2 * i.p + 1) 0 < i.l.getD (2 * i.p + 2) 0)))) a5 (tr_and (tr_cmp (ev_name rfl) (ev_name rfl) op_lt) fun hr => by
          have hr := of_decide_eq_true hr
          have hr' : 2 * i.p + 2 < i.l.length := by omega
          exact tr_not (tr_cmp (ev_item_mut (j := 0) rfl rfl (ev_name rfl) plain_name (by omega) (by omega) (map_get hc')) (ev_item_mut (j := 0) rfl rfl (ev_name rfl) plain_name (by omega) (by omega) (map_get hr')) (H A _ hA _ _ (getD_lt i.h4 hc') (getD_lt i.h4 hr'))))
        (fun hcc h6 t6 a6 => ?_) (fun hcc h6 t6 a6 => ?_)
      · refine x_assign a6 (ev_name rfl) (.inl rfl) fun h7 t7 a7 => x_nil ?_
        have e : 2 * i.p + 2 = suNext i.l (2 * i.p + 1) := by
          simp only [Bool.and_eq_true, decide_eq_true_eq, Bool.not_eq_true', decide_eq_false_iff_not] at hcc
          unfold suNext
          rw [if_pos (by omega), if_neg hcc.2]
        rw [e] at a7
        refine x_set (j := 0) a7 rfl rfl (ev_item_mut (j := 0) rfl rfl (ev_name rfl) plain_name (by omega) (by omega) (map_get q.1)) (ev_name rfl) (by omega) (by simp; omega) (by omega) fun h8 t8 a8 => ?_
        refine x_assign a8 (ev_name rfl) (.inl rfl) fun h9 t9 a9 => ?_
        refine x_assign a9 (ev_bin (ev_bin ev_int (ev_name rfl) (op_mul (.of_left (by decide)))) ev_int op_add) (.inl rfl) fun h10 t10 a10 => x_nil ?_
        cases hf : i.f with
        | zero => have := i.h1; omega
        | succ f =>
          have h5 := i.h5
          rw [hf, suLoop, if_pos hc'] at h5
          refine ⟨⟨i.l.set i.p (i.l.getD (suNext i.l (2 * i.p + 1)) 0), suNext i.l (2 * i.p + 1), f, by have := i.h1; omega, by simp; omega, by simp [i.h3], set_lt i.h4 (getD_lt i.h4 q.1), h5⟩, h10, t10, by show ks.length - suNext i.l (2 * i.p + 1) < ks.length - i.p; omega, rfl, ?_⟩
          simp only [List.set_cons_zero, Int.toNat_natCast, ← List.map_set] at a10
          refine At.sub a10 ?_
          have e2 : (((2 * suNext i.l (2 * i.p + 1) + 1 : Nat)) : Int) = 2 * ((suNext i.l (2 * i.p + 1) : Nat) : Int) + 1 := by omega
          show Sub [("childpos", tI (2 * suNext i.l (2 * i.p + 1) + 1 : Nat)), _, _, _, _, _] _
          rw [e2]
          exact ⟨rfl, rfl, rfl, rfl, rfl, rfl, trivial⟩
      · refine x_nil ?_
        have e : 2 * i.p + 1 = suNext i.l (2 * i.p + 1) := by
          simp only [Bool.and_eq_false_iff, decide_eq_false_iff_not, Bool.not_eq_false', decide_eq_true_eq] at hcc
          unfold suNext
          rcases hcc with hcc | hcc
          · rw [if_neg (by omega)]
          · by_cases h2 : 2 * i.p + 1 + 1 < i.l.length
            · rw [if_pos h2, if_pos hcc]
            · rw [if_neg h2]
        have a7 : At K h₀ [a] (envOfC dSU.name dSU.scope L f cd) [("childpos", tI (suNext i.l (2 * i.p + 1) : Nat)), ("newitem", dat (val (ks.getD pos 0))), ("startpos", tI pos), ("endpos", tI ks.length), ("heap", isv (.ref a)), ("pos", tI i.p)] [(a, i.l.map val)] mu h6 := by
          rw [← e]
          exact At.sub a6 ⟨rfl, rfl, rfl, rfl, rfl, rfl, trivial⟩
        refine x_set (j := 0) a7 rfl rfl (ev_item_mut (j := 0) rfl rfl (ev_name rfl) plain_name (by omega) (by omega) (map_get q.1)) (ev_name rfl) (by omega) (by simp; omega) (by omega) fun h8 t8 a8 => ?_
        refine x_assign a8 (ev_name rfl) (.inl rfl) fun h9 t9 a9 => ?_
        refine x_assign a9 (ev_bin (ev_bin ev_int (ev_name rfl) (op_mul (.of_left (by decide)))) ev_int op_add) (.inl rfl) fun h10 t10 a10 => x_nil ?_
        cases hf : i.f with
        | zero => have := i.h1; omega
        | succ f =>
          have h5 := i.h5
          rw [hf, suLoop, if_pos hc'] at h5
          refine ⟨⟨i.l.set i.p (i.l.getD (suNext i.l (2 * i.p + 1)) 0), suNext i.l (2 * i.p + 1), f, by have := i.h1; omega, by simp; omega, by simp [i.h3], set_lt i.h4 (getD_lt i.h4 q.1), h5⟩, h10, t10, by show ks.length - suNext i.l (2 * i.p + 1) < ks.length - i.p; omega, rfl, ?_⟩
          simp only [List.set_cons_zero, Int.toNat_natCast, ← List.map_set] at a10
          refine At.sub a10 ?_
          have e2 : (((2 * suNext i.l (2 * i.p + 1) + 1 : Nat)) : Int) = 2 * ((suNext i.l (2 * i.p + 1) : Nat) : Int) + 1 := by omega
          show Sub [("childpos", tI (2 * suNext i.l (2 * i.p + 1) + 1 : Nat)), _, _, _, _, _] _
          rw [e2]
          exact ⟨rfl, rfl, rfl, rfl, rfl, rfl, trivial⟩
    · have hc : ¬ 2 * i.p + 1 < i.l.length := by have := of_decide_eq_false hb; have := i.h3; omega
      have e : (i.l, i.p) = R := by
        refine Eq.trans ?_ i.h5
        cases hf : i.f with
        | zero => rfl
        | succ f => rw [suLoop, if_neg hc]
      have hl := i.h2
      have hlen' := i.h3
      have e1 : i.l = R.1 := congrArg Prod.fst e
      have e2 : i.p = R.2 := congrArg Prod.snd e
      refine x_set (j := 0) z rfl rfl (ev_name rfl) (ev_name rfl) (by omega) (by simp; omega) (by omega) fun h7 t7 a7 => ?_
      simp only [List.set_cons_zero, Int.toNat_natCast, ← List.map_set, e1, e2] at a7
      refine x_expr a7 (ev_callM (j := 0) (ev_glob rfl (HasDef.name hsd)) (HasDef.kept hsd) rfl rfl (Evs.cons (ev_name rfl) (Evs.cons (ev_name rfl) Evs.nil)) (siftdown_ok hsd H (set_lt hRo.1 hnew) (by simp [hRl]; exact hRo.2) (by simp [hRl]; exact hz) j A hA)) rfl fun h8 t8 a8 => x_nil ?_
      simp only [List.set_cons_zero, ← hF] at a8
      exact k _ h8 t8 _ _ a8 (fun _ q => q) (RD.none _)
end Mine

namespace Mine
theorem boot_range : bootBuiltins "range" = some (.type "range") := by kernel_rfl
theorem boot_reversed : bootBuiltins "reversed" = some (.type "reversed") := by kernel_rfl
variable {K : Wd}
theorem Ev.as {A : Around} {env : Env} {Γ : Gam} {N : Led} {e : Expr} {t t' : Ty} (x : Ev K A env Γ N e t) (h : t = t') : Ev K A env Γ N e t' := h ▸ x
theorem noPylong (a b : Int) (hb : (if b == 0 then 0 else b.natAbs.log2 / 30 + 1) ≤ 300) : Builtin.divisionGoesByPylong a b = false := by
  unfold Builtin.divisionGoesByPylong
  simp only [Bool.and_eq_false_iff, decide_eq_false_iff_not, Nat.not_lt]
  exact .inl hb

theorem push_ok {f fd : Addr} {val : Nat → PyData} {n : Nat} {ks : List Nat} {x : Nat} (hd : K.β.HasDef dPush f) (hsd : K.β.HasDef dSD fd) (hlen : Bn K.β "len" (.builtin "len")) (H : CmpLt K val n) (hn : ∀ k ∈ ks, k < n) (hx : x < n) (hz : ks.length < 2 ^ 20) (j : Nat) :
    FnM K (j + 2) f [dat (val x)] (dat .none) (ks.map val) ((pushF ks x).map val) := by
  refine fnM_of (Γ := fun a => [("heap", isv (.ref a)), ("item", dat (val x))]) hd rfl rfl rfl (by decide) (fun a vals hv => ?_) ?_
  · cases hv with
    | @cons v1 _ _ _ _ hv =>
        cases hv
        exact ⟨[("heap", .ref a), ("item", v1)], fun _ _ _ => rfl, by rfl, fun L cd g hp => by
          cases hp with
          | cons p1 hp => exact ⟨.inl ⟨rfl, _, rfl, rfl⟩, .inl ⟨rfl, _, rfl, p1⟩, trivial⟩⟩
  · intro A L cd a mu h₀ s Q hA z k
    refine x_expr z (ev_append (j := 0) rfl rfl (ev_name rfl) (by rw [sizeLine_eq]; simp; omega)) rfl fun h1 t1 a1 => ?_
    have e1 : ks.map val ++ [val x] = (ks ++ [x]).map val := by simp
    simp only [List.set_cons_zero, e1] at a1
    have e2 : (((ks ++ [x]).map val).length : Int) - 1 = (ks.length : Nat) := by simp
    have c := siftdown_ok (ks := ks ++ [x]) (start := 0) (pos := ks.length) hsd H (by intro k hk; rcases List.mem_append.mp hk with q | q; exact hn k q; rw [List.mem_singleton.mp q]; exact hx) (by simp) (by simp; omega) j A hA
    rw [← e2] at c
    refine x_expr a1 (ev_callM (j := 0) (ev_glob rfl (HasDef.name hsd)) (HasDef.kept hsd) rfl rfl
      (Evs.cons ev_int (Evs.cons (ev_bin (ev_len_mut (j := 0) (ev_blt rfl hlen.g hlen.b) rfl rfl (by rw [sizeLine_eq]; simp; omega)) ev_int op_sub) Evs.nil)) c) rfl fun h2 t2 a2 => x_nil ?_
    simp only [List.set_cons_zero] at a2
    exact k _ h2 t2 _ _ a2 (fun _ q => q) (RD.none _)

theorem popF_cons {x : Nat} {r : List Nat} {l : List Nat} (h : l.dropLast = x :: r) : popF l = (x, siftupF ((x :: r).set 0 (l.getD (l.length - 1) 0)) 0) := by unfold popF; rw [h]
theorem popF_nil {l : List Nat} (h : l.dropLast = []) : popF l = (l.getD (l.length - 1) 0, []) := by unfold popF; rw [h]

theorem pop_ok {f fd fu : Addr} {val : Nat → PyData} {n : Nat} {ks : List Nat} (hd : K.β.HasDef dPop f) (hsd : K.β.HasDef dSD fd) (hsu : K.β.HasDef dSU fu) (hlen : Bn K.β "len" (.builtin "len")) (H : CmpLt K val n) (hn : ∀ k ∈ ks, k < n) (hne : ks ≠ []) (hz : ks.length ≤ 2 ^ 20) (j : Nat) :
    FnM K (j + 3) f [] (dat (val (popF ks).1)) (ks.map val) ((popF ks).2.map val) := by
  refine fnM_of (Γ := fun a => [("heap", isv (.ref a))]) hd rfl rfl rfl (by decide) (fun a vals hv => ?_) ?_
  · cases hv
    exact ⟨[("heap", .ref a)], fun _ _ _ => rfl, by rfl, fun L cd g hp => ⟨.inl ⟨rfl, _, rfl, rfl⟩, trivial⟩⟩
  · intro A L cd a mu h₀ s Q hA z k
    have hpos : 0 < ks.length := List.length_pos_iff.mpr hne
    have eL : ks.map val = ks.dropLast.map val ++ [val (ks.getD (ks.length - 1) 0)] := by
      have h1 := List.dropLast_concat_getLast hne
      have h2 : ks.getLast hne = ks.getD (ks.length - 1) 0 := by rw [List.getLast_eq_getElem]; simp [List.getD, Nat.sub_lt hpos]
      conv => lhs; rw [← h1]
      rw [List.map_append, List.map_singleton, h2]
    rw [eL] at z
    refine x_assignM z (ev_pop (j := 0) rfl rfl (by rw [sizeLine_eq]; simp; omega)) rfl (.inl rfl) fun h1 t1 a1 => ?_
    simp only [List.set_cons_zero] at a1
    refine x_if a1 (tr_list_mut (j := 0) rfl rfl (by simp; omega)) (fun hb h2 t2 a2 => ?_) (fun hb h2 t2 a2 => x_nil ?_)
    · cases hd0 : ks.dropLast with
      | nil => rw [hd0] at hb; simp at hb
      | cons x r =>
        have hp := popF_cons hd0
        have hxr : ∀ k ∈ x :: r, k < n := fun k hk => hn k (List.dropLast_subset _ (hd0 ▸ hk))
        have hln : (x :: r).length = ks.length - 1 := by rw [← hd0]; simp
        have hlast : ks.getD (ks.length - 1) 0 < n := getD_lt hn (by omega)
        rw [hd0] at a2
        refine x_assign a2 (ev_item_mut (j := 0) (d := val x) rfl rfl ev_int plain_int (by omega) (by omega) rfl) (.inl rfl) fun h3 t3 a3 => ?_
        refine x_set (j := 0) a3 rfl rfl (ev_name rfl) ev_int (by omega) (by simp) (by omega) fun h4 t4 a4 => ?_
        have a4 : At K h₀ [a] (envOfC dPop.name dPop.scope L f cd) [("returnitem", dat (val x)), ("lastelt", dat (val (ks.getD (ks.length - 1) 0))), ("heap", isv (.ref a))] [(a, (ks.getD (ks.length - 1) 0 :: r).map val)] mu h4 := a4
        have c := siftup_ok (ks := ks.getD (ks.length - 1) 0 :: r) (pos := 0) hsu hsd hlen H (by intro k hk; rcases List.mem_cons.mp hk with q | q; rw [q]; exact hlast; exact hxr k (List.mem_cons_of_mem _ q)) (by simp) (by simp at hln ⊢; omega) j A hA
        refine x_expr a4 (ev_callM (j := 0) (ev_glob rfl (HasDef.name hsu)) (HasDef.kept hsu) rfl rfl (Evs.cons ev_int Evs.nil) c) rfl fun h5 t5 a5 => ?_
        simp only [List.set_cons_zero] at a5
        refine x_ret a5 (ev_name rfl) fun v h6 t6 a6 p6 => ?_
        rw [hp] at k
        exact k (.ret v) h6 t6 _ _ a6 (fun _ q => q) p6
    · have hd0 : ks.dropLast = [] := by cases q : ks.dropLast with | nil => rfl | cons x r => rw [q] at hb; simp at hb
      have hp := popF_nil hd0
      rw [hd0] at a2
      refine x_ret a2 (ev_name rfl) fun v h6 t6 a6 p6 => ?_
      rw [hp] at k
      exact k (.ret v) h6 t6 _ _ a6 (fun _ q => q) p6

def hstage (m : Nat) : Nat → List Nat → List Nat
  | 0, l => l
  | t + 1, l => siftupF (hstage m t l) (m - 1 - t)
theorem hstage_all (m : Nat) (l : List Nat) : ∀ t, t ≤ m → heapifyL (m - t) (hstage m t l) = heapifyL m l
  | 0, _ => rfl
  | t + 1, h => by
    rw [← hstage_all m l t (by omega)]
    have : m - t = (m - (t + 1)) + 1 := by omega
    rw [this, heapifyL]
    have e : m - 1 - t = m - (t + 1) := by omega
    rw [hstage, e]
theorem hstage_eq (l : List Nat) (m : Nat) : hstage m m l = heapifyL m l := by
  have := hstage_all m l m (Nat.le_refl _)
  rwa [Nat.sub_self, heapifyL] at this
theorem hstage_len (m : Nat) (l : List Nat) : ∀ t, (hstage m t l).length = l.length
  | 0 => rfl
  | t + 1 => by rw [hstage, siftupF_length, hstage_len m l t]
theorem hstage_lt {n : Nat} (m : Nat) (l : List Nat) (hm : m ≤ l.length) (hl : ∀ k ∈ l, k < n) : ∀ t, t ≤ m → ∀ k ∈ hstage m t l, k < n
  | 0, _ => hl
  | t + 1, h => by rw [hstage]; exact siftupF_lt (by rw [hstage_len]; omega) (hstage_lt m l hm hl t (by omega))

theorem heapify_ok {f fd fu : Addr} {val : Nat → PyData} {n : Nat} {ks : List Nat} (hd : K.β.HasDef dHeapify f) (hsd : K.β.HasDef dSD fd) (hsu : K.β.HasDef dSU fu) (hlen : Bn K.β "len" (.builtin "len")) (hrev : Bn K.β "reversed" (.type "reversed")) (hran : Bn K.β "range" (.type "range")) (H : CmpLt K val n) (hn : ∀ k ∈ ks, k < n) (hz : ks.length ≤ 2 ^ 20) (j : Nat) :
    FnM K (j + 3) f [] (dat .none) (ks.map val) ((heapifyF ks).map val) := by
  refine fnM_of (Γ := fun a => [("x", isv (.ref a))]) hd rfl rfl rfl (by decide) (fun a vals hv => ?_) ?_
  · cases hv
    exact ⟨[("x", .ref a)], fun _ _ _ => rfl, by rfl, fun L cd g hp => ⟨.inl ⟨rfl, _, rfl, rfl⟩, trivial⟩⟩
  · intro A L cd a mu h₀ s Q hA z k
    refine x_assign z (ev_len_mut (j := 0) (ev_blt rfl hlen.g hlen.b) rfl rfl (by rw [sizeLine_eq]; simp; omega)) (.inl rfl) fun h1 t1 a1 => ?_
    have em : ((ks.map val).length : Int).fdiv 2 = ((ks.length / 2 : Nat) : Int) := by
      rw [Int.fdiv_eq_ediv_of_nonneg _ (by decide)]; simp
    refine x_for (n := ks.length / 2) (T := fun i => tI (((ks.length / 2 : Nat) : Int) - 1 - i)) (X := [L]) (fun i => [("x", isv (.ref a))]) (fun i => [("i", tI (((ks.length / 2 : Nat) : Int) - 1 - i)), ("x", isv (.ref a))]) (fun t => [(a, (hstage (ks.length / 2) t ks).map val)]) a1
      (it_reversed hA (ev_blt rfl hrev.g hrev.b) (Ev.as (ev_call (ev_blt rfl hran.g hran.b) (.inr (.inl ⟨_, rfl⟩)) (Evs.cons (ev_bin (ev_name rfl) ev_int (op_div (by decide) (noPylong _ _ (by decide)))) Evs.nil) cl_range1) (by rw [em])) (by omega) (by rw [sizeLine_eq]; omega)) ⟨rfl, trivial⟩ rfl (fun _ _ => rfl) (fun b hb => by rw [List.mem_singleton.mp hb]; exact own_locals) (fun i => tg_name rfl) (fun i mu' h2 t2 E' hi hmu a2 => ?_) (fun h2 t2 a2 => x_nil ?_)
    · have ei : (((ks.length / 2 : Nat) : Int) - 1 - i) = ((ks.length / 2 - 1 - i : Nat) : Int) := by omega
      rw [ei] at a2
      refine x_expr a2.here (ev_callM (j := 0) (ev_glob rfl (HasDef.name hsu)) (HasDef.kept hsu) rfl rfl (Evs.cons (ev_name rfl) Evs.nil)
          (siftup_ok hsu hsd hlen H (hstage_lt _ _ (by omega) hn i (by omega)) (by rw [hstage_len]; omega) (by rw [hstage_len]; exact hz) j A hA)) rfl fun h5 t5 a5 => x_nil ?_
      simp only [List.set_cons_zero] at a5
      exact ⟨h5, t5, rfl, At.sub a5 ⟨rfl, trivial⟩⟩
    · rw [hstage_eq] at a2
      exact k _ h2 t2 _ _ a2 (fun _ q => q) (RD.none _)
end Mine

namespace Mine
variable {K : Wd}
theorem boot_chr : bootBuiltins "chr" = some (.builtin "chr") := by kernel_rfl
theorem boot_ord : bootBuiltins "ord" = some (.builtin "ord") := by kernel_rfl

def cmpI (x y : Str) : Int := b2i (decide (y.cps.toList < x.cps.toList)) - b2i (decide (x.cps.toList < y.cps.toList))
theorem cmp_ok {f : Addr} {x y : Str} (hd : K.β.HasDef dCmp f) (j : Nat) : Fn K (j + 1) f [tS x, tS y] (tI (cmpI x y)) := by
  refine fn_of (Γ := [("x", tS x), ("y", tS y)]) hd rfl rfl rfl (by decide) (fun vals hv => ?_) ?_
  · cases hv with
    | @cons v1 _ _ _ _ hv =>
      cases hv with
      | @cons v2 _ _ _ _ hv =>
        cases hv
        exact ⟨[("x", v1), ("y", v2)], fun _ _ _ => rfl, by rfl, fun L cd g hp => by
          cases hp with
          | cons p1 hp => cases hp with
            | cons p2 hp => exact ⟨.inl ⟨rfl, _, rfl, p1⟩, .inl ⟨rfl, _, rfl, p2⟩, trivial⟩⟩
  · intro A L cd mu h₀ s Q hA z k
    exact x_ret z (ev_bin (ev_cmp (ev_name rfl) (ev_name rfl) op_gts) (ev_cmp (ev_name rfl) (ev_name rfl) op_lts) op_subb) fun v h1 t1 a1 p1 => k (.ret v) h1 t1 _ _ _ a1 (fun _ q => q) p1

def oct1 (n : Int) : Int := n.fmod 256
def oct2 (n : Int) : Int := (oct1 n + 1 + (n.fdiv 256).fmod 85).fmod 256
def oct3 (n : Int) : Int := (oct2 n + 1 + (n.fdiv 21760).fmod 85).fmod 256
theorem octets_ok {f : Addr} {n : Int} (hd : K.β.HasDef dOctets f) (j : Nat) : Fn K (j + 1) f [tI n] (tL [.int (oct1 n), .int (oct2 n), .int (oct3 n)]) := by
  refine fn_of (Γ := [("number", tI n)]) hd rfl rfl rfl (by decide) (fun vals hv => ?_) ?_
  · cases hv with
    | @cons v1 _ _ _ _ hv =>
        cases hv
        exact ⟨[("number", v1)], fun _ _ _ => rfl, by rfl, fun L cd g hp => by
          cases hp with
          | cons p1 hp => exact ⟨.inl ⟨rfl, _, rfl, p1⟩, trivial⟩⟩
  · intro A L cd mu h₀ s Q hA z k
    refine x_assign z (ev_bin (ev_name rfl) ev_int (op_mod (by decide))) (.inl rfl) fun h1 t1 a1 => ?_
    refine x_assign a1 (ev_bin (ev_bin (ev_bin (ev_name rfl) ev_int op_add) (ev_bin (ev_bin (ev_name rfl) ev_int (op_div (by decide) (noPylong _ _ (by decide)))) ev_int (op_mod (by decide))) op_add) ev_int (op_mod (by decide))) (.inl rfl) fun h2 t2 a2 => ?_
    refine x_assign a2 (ev_bin (ev_bin (ev_bin (ev_name rfl) ev_int op_add) (ev_bin (ev_bin (ev_name rfl) ev_int (op_div (by decide) (noPylong _ _ (by decide)))) ev_int (op_mod (by decide))) op_add) ev_int (op_mod (by decide))) (.inl rfl) fun h3 t3 a3 => ?_
    exact x_ret a3 (ev_list (ds := [.int (oct1 n), .int (oct2 n), .int (oct3 n)]) (Evs.cons (ev_name rfl) (Evs.cons (ev_name rfl) (Evs.cons (ev_name rfl) Evs.nil))) (by rw [sizeLine_eq]; simp)) fun v h1 t1 a1 p1 => k (.ret v) h1 t1 _ _ _ a1 (fun _ q => q) p1

def safeS : Str := "ABCDEFGHIJKLMNOPQRSTUVWXYZabcdefghijklmnopqrstuvwxyz0123456789-!*+/"
def figS : Str := "0123456789ABCDEF"
def inSafe (o : Nat) : Bool := !(Builtin.Str.occurrences safeS ⟨#[o]⟩ 0 safeS.length 1).isEmpty
def signF (o : Nat) : Str := if inSafe o then ⟨#[o]⟩ else if o = 32 then "_" else ("=" : Str) ++ ⟨#[figS.cps.getD (o / 16) 0]⟩ ++ ⟨#[figS.cps.getD (o % 16) 0]⟩
theorem op_ins {A : Around} {x y : Str} : Op2 K A (compareOp .In) (tS y) (tS x) (tB !(Builtin.Str.occurrences x y 0 x.length 1).isEmpty) := fun mu s v u _ _ p q => by
  obtain ⟨t, rfl⟩ := RD.str_inv p; obtain ⟨t', rfl⟩ := RD.str_inv q
  exact gives_here fun Q k => P.in_str (k _ _ (RD.bool _ _))
theorem fig_at {i : Nat} (h : i < 16) : (seqIndex? (i : Int) figS.length).bind (figS.cps[·]?) = some (figS.cps.getD i 0) := by
  have e : figS.length = 16 := by decide +kernel
  have e2 : figS.cps.size = 16 := by decide +kernel
  have : seqIndex? (i : Int) 16 = some i := by unfold seqIndex?; simp; omega
  rw [e, this]
  show figS.cps[i]? = _
  rw [Array.getElem?_eq_getElem (by omega)]
  simp [Array.getD, e2, h]
theorem sign_ok {f : Addr} {o : Nat} (hd : K.β.HasDef dSign f) (hchr : Bn K.β "chr" (.builtin "chr")) (ho : o < 256) (j : Nat) : Fn K (j + 1) f [tI o] (tS (signF o)) := by
  refine fn_of (Γ := [("octet", tI o)]) hd rfl rfl rfl (by decide) (fun vals hv => ?_) ?_
  · cases hv with
    | @cons v1 _ _ _ _ hv =>
        cases hv
        exact ⟨[("octet", v1)], fun _ _ _ => rfl, by rfl, fun L cd g hp => by
          cases hp with
          | cons p1 hp => exact ⟨.inl ⟨rfl, _, rfl, p1⟩, trivial⟩⟩
  · intro A L cd mu h₀ s Q hA z k
    refine x_assign z ev_str (.inl rfl) fun h1 t1 a1 => ?_
    refine x_assign a1 ev_str (.inl rfl) fun h2 t2 a2 => ?_
    have ec : (Int.toNat (o : Int)) = o := Int.toNat_natCast o
    refine x_if (b := inSafe o) a2 (tr_cmp (ev_call (ev_blt rfl hchr.g hchr.b) (.inl ⟨_, rfl⟩) (Evs.cons (ev_name rfl) Evs.nil) (cl_chr (i := (o : Int)) (by omega) (by omega))) (ev_name rfl) op_ins) (fun hb h3 t3 a3 => ?_) (fun hb h3 t3 a3 => x_nil ?_)
    · refine x_ret a3 (ev_call (ev_blt rfl hchr.g hchr.b) (.inl ⟨_, rfl⟩) (Evs.cons (ev_name rfl) Evs.nil) (cl_chr (i := (o : Int)) (by omega) (by omega))) fun v h4 t4 a4 p4 => k (.ret v) h4 t4 _ _ _ a4 (fun _ q => q) ?_
      have : signF o = ⟨#[o]⟩ := by unfold signF; rw [if_pos hb]
      rw [this]
      exact p4
    · refine x_if (b := decide ((o : Int) = 32)) a3 (tr_cmp (ev_name rfl) ev_int op_eq) (fun hc h4 t4 a4 => ?_) (fun hc h4 t4 a4 => x_nil ?_)
      · refine x_ret a4 ev_str fun v h5 t5 a5 p5 => k (.ret v) h5 t5 _ _ _ a5 (fun _ q => q) ?_
        have : signF o = "_" := by unfold signF; rw [hb, if_neg (by decide), if_pos (by have := of_decide_eq_true hc; omega)]
        rw [this]
        exact p5
      · have e1 : ((o : Int).fdiv 16) = ((o / 16 : Nat) : Int) := by rw [Int.fdiv_eq_ediv_of_nonneg _ (by decide)]; rfl
        have e2 : ((o : Int).fmod 16) = ((o % 16 : Nat) : Int) := by rw [Int.fmod_eq_emod_of_nonneg _ (by decide)]; rfl
        refine x_ret a4 (ev_bin (ev_bin ev_str (ev_sub (ev_name rfl) (Ev.as (ev_bin (ev_name rfl) ev_int (op_div (by decide) (noPylong _ _ (by decide)))) (by rw [e1])) (op_sitem plain_bin (by simp; omega) (fig_at (by omega)))) (op_adds (by rw [sizeLine_eq]; show (1 : Nat) + 1 ≤ 16777216; decide)))
          (ev_sub (ev_name rfl) (Ev.as (ev_bin (ev_name rfl) ev_int (op_mod (by decide))) (by rw [e2])) (op_sitem plain_bin (by simp; omega) (fig_at (Nat.mod_lt _ (by decide))))) (op_adds (by rw [sizeLine_eq]; show (2 : Nat) + 1 ≤ 16777216; decide))) fun v h5 t5 a5 p5 => k (.ret v) h5 t5 _ _ _ a5 (fun _ q => q) ?_
        have : signF o = ("=" : Str) ++ ⟨#[figS.cps.getD (o / 16) 0]⟩ ++ ⟨#[figS.cps.getD (o % 16) 0]⟩ := by unfold signF; rw [hb, if_neg (by decide), if_neg (by have := of_decide_eq_false hc; omega)]
        rw [this]
        exact p5
end Mine

namespace Mine
/-! the signs, in plain lists -/
def safeL : List Nat := [65, 66, 67, 68, 69, 70, 71, 72, 73, 74, 75, 76, 77, 78, 79, 80, 81, 82, 83, 84, 85, 86, 87, 88, 89, 90, 97, 98, 99, 100, 101, 102, 103, 104, 105, 106, 107, 108, 109, 110, 111, 112, 113, 114, 115, 116, 117, 118, 119, 120, 121, 122, 48, 49, 50, 51, 52, 53, 54, 55, 56, 57, 45, 33, 42, 43, 47]
def figL : List Nat := [48, 49, 50, 51, 52, 53, 54, 55, 56, 57, 65, 66, 67, 68, 69, 70]
theorem safeS_eq : safeS.cps.toList = safeL := by decide +kernel
theorem figS_eq : figS.cps.toList = figL := by decide +kernel
theorem blS_eq : ("_" : Str).cps.toList = [95] := by decide +kernel
theorem eqS_eq : ("=" : Str).cps.toList = [61] := by decide +kernel
def signL (o : Nat) : List Nat := if safeL.contains o = true then [o] else if o = 32 then [95] else [61, figL.getD (o / 16) 0, figL.getD (o % 16) 0]
theorem figS_getD (i : Nat) : figS.cps.getD i 0 = figL.getD i 0 := by
  rw [← figS_eq]
  simp [Array.getD, List.getD]
  split <;> simp_all
theorem inSafe_eq (o : Nat) : inSafe o = safeL.contains o := by
  unfold inSafe
  rw [StrLaws.found_one, safeS_eq]
  simp
theorem sign_toList (o : Nat) : (signF o).cps.toList = signL o := by
  unfold signF signL
  rw [inSafe_eq]
  split
  · rfl
  · split
    · exact blS_eq
    · show (("=" : Str).cps ++ #[_] ++ #[_]).toList = _
      simp only [Array.toList_append, eqS_eq, figS_getD]
      rfl
end Mine

namespace Mine
open Builtin
theorem latin_loop (b : Array UInt8) (hz : b.size ≤ sizeLine) {σ : Type} {st₀ : σ} {l : List Nat} (f : Nat → Nat × Array Nat × σ → Sem (ForInStep (Nat × Array Nat × σ)))
    (hf : ∀ x p out st, out.size ≤ sizeLine → p < b.size → f x (p, out, st) = pure (.yield (p + 1, out ++ #[(b.getD p 0).toNat], st))) (hl : l.length = b.size) :
    (do let s ← forIn l (0, #[], st₀) f; pure (s.snd.fst, s.fst)) = (pure (b.map (·.toNat), b.size) : Sem (Array Nat × Nat)) := by
  have key : ∀ (l : List Nat) (p : Nat), p + l.length = b.size → forIn l (p, ((b.toList.take p).map (·.toNat)).toArray, st₀) f = (pure (b.size, b.map (·.toNat), st₀) : Sem _) := by
    intro l
    induction l with
    | nil =>
      intro p hp
      simp at hp
      subst hp
      rw [List.forIn_nil]
      congr 3
      apply Array.ext'
      simp
      rw [List.take_of_length_le (by simp)]
    | cons x l ih =>
      intro p hp
      simp at hp
      rw [List.forIn_cons, hf _ _ _ _ (by simp; omega) (by omega)]
      simp only [pure_bind]
      have e : ((b.toList.take p).map (·.toNat)).toArray ++ #[(b.getD p 0).toNat] = ((b.toList.take (p + 1)).map (·.toNat)).toArray := by
        have hp' : p < b.toList.length := by simp; omega
        rw [List.take_succ_eq_append_getElem hp']
        apply Array.ext'
        have h2 : p < b.size := by omega
        have : b.getD p 0 = b[p] := by unfold Array.getD; rw [dif_pos h2]; rfl
        simp [this]
      rw [e]
      exact ih (p + 1) (by omega)
  have := key l 0 (by omega)
  simp only [List.take_zero, List.map_nil] at this
  rw [this]
  rfl
theorem latin_run (id : String) (b : Array UInt8) (hz : b.size ≤ sizeLine) : _codecs.runDecoder id _codecs.latin1Decoder none true b 0 [] = pure (b.map (·.toNat), b.size) := by
  unfold _codecs.runDecoder
  simp only [Std.Legacy.Range.forIn_eq_forIn_range']
  refine latin_loop b hz _ (fun x p out st h1 h2 => ?_) (by simp)
  show (if out.size > sizeLine then _ else _) = _
  rw [if_neg (by omega), if_neg (by omega)]
  rfl
theorem latin_road {id : String} {b : Array UInt8} : _codecs.decodeRoad id b (PySem.Str.ofString "latin1") none [] = (_codecs.runDecoder id _codecs.latin1Decoder none true b 0 [] >>= fun r => mkStr ⟨r.1⟩) := by kernel_rfl
theorem decode_entry {c : UInt8} {cs : List UInt8} {t t1 : Tok} : «bytes.decode» ⟨[.bytes (c :: cs).toArray t, .str (PySem.Str.ofString "latin1") t1], []⟩ = (mkStr (PySem.Str.ofString "utf-8") >>= fun _ => mkStr (PySem.Str.ofString "latin1") >>= fun e => mkStr (PySem.Str.ofString "bytes.decode") >>= fun d =>
    call (.builtin "_codecs.decode.text") [.bytes (c :: cs).toArray t, e, .none, d] >>= fun v => ret v) := by kernel_rfl
theorem latin_text {b : Array UInt8} {t t1 t2 : Tok} {d : PySem.Str} (hz : b.size ≤ sizeLine) :
    Meets («_codecs.decode.text» ⟨[.bytes b t, .str (PySem.Str.ofString "latin1") t1, .none, .str d t2], []⟩) (fun _ R s => R (.ok (.ret (.str ⟨b.map (·.toNat)⟩ s.toks))) { s with toks := s.toks + 1 }) := by
  refine .of_wp fun prog w A R s h => ?_
  show wpAny _ _ (Bytes.bytesLike _ (.bytes b t) >>= fun r => _) _ _ s
  refine wpAny_bind (wpAny_of_eq KBd.like_eq ?_)
  refine wpAny_bind (wpAny_of_eq KBd.held_eq ?_)
  show wpAny _ _ (_codecs.decodeRoad _ b (PySem.Str.ofString "latin1") none [] >>= fun v => _) _ _ s
  rw [latin_road, latin_run _ _ hz]
  refine wpAny_bind (wpAny_bind (wpAny_pure ?_))
  exact wpAny_mkStr (wpAny_pure ⟨_, rfl, h⟩) (by show (b.map _).size ≤ _; simpa using hz)
theorem latin_meets {c : UInt8} {cs : List UInt8} {t t1 : Tok} (hz : (c :: cs).length ≤ sizeLine) :
    Meets («bytes.decode» ⟨[.bytes (c :: cs).toArray t, .str (PySem.Str.ofString "latin1") t1], []⟩) (fun _ R s => ∀ t' k, R (.ok (.ret (.str ⟨(c :: cs).toArray.map (·.toNat)⟩ t'))) { s with toks := k }) := by
  refine .of_wp fun prog w A R s h => ?_
  rw [decode_entry]
  refine wpAny_bind (wpAny_mkStr ?_ (by decide))
  refine wpAny_bind (wpAny_mkStr ?_ (by decide))
  refine wpAny_bind (wpAny_mkStr ?_ (by decide))
  exact wpAny_bind (call_function_meets KBd.kind_text KBd.plain_text KBd.entry_text (KBd.args_text _ _ _ _) (latin_text (by simpa using hz)) (wpAny_pure ⟨_, rfl, h _ _⟩))
end Mine

namespace Mine
open Builtin
section
variable {prog : Program} {w : World} {A : Around} {E : Value → Shared → Prop} {s : Shared}
structure SignTab (h : Heap) (a : Addr) : Prop where
  ex : ∃ its, h.IsList a its ∧ ∀ c, c < 256 → ∃ t, its[c]? = some (.str (signF c) t)
theorem SignTab.keeps {h h' : Heap} {a : Addr} (x : SignTab h a) (k : Ext h h') : SignTab h' a := let ⟨its, ⟨o, e, r⟩, z⟩ := x; ⟨its, ⟨o, k _ _ e, r⟩, z⟩
theorem tl_ok {a : Addr} {c : Nat} {Q : Str.Mapped → Shared → Prop} (ht : SignTab s.heap a) (hc : c < 256) (h : ∀ k, Q (.text (signF c)) { s with toks := k }) : wpAny (model prog w) A (Str.tableLookup (.ref a) c) Q E s := by
  obtain ⟨its, hl, hi⟩ := ht
  obtain ⟨t, ht⟩ := hi c hc
  unfold Str.tableLookup
  refine wpAny_bind (wpAny_attempt (wpAny_bind (wpAny_mkInt ?_)))
  refine wpAny_getItem_list (s := { s with toks := s.toks + 1 }) (k := (c : Int)) hl (by omega) (by omega) (x := .str (signF c) t) (by simpa using ht) ?_
  exact wpAny_bind (wpAny_of_eq (a := none) rfl (wpAny_bind (wpAny_of_eq (a := some (signF c)) rfl (wpAny_pure (h _)))))
theorem signF_len (c : Nat) : (signF c).length ≤ 3 := by
  unfold signF
  split
  · show 1 ≤ 3; decide
  · split
    · show 1 ≤ 3; decide
    · show ((("=" : PySem.Str).cps ++ #[_]) ++ #[_]).size ≤ 3
      simp; decide
def KnownOk (known : List (Nat × Option Nat)) : Prop := ∀ c a, known.lookup c = some a → ∃ d, a = some d ∧ signF c = ⟨#[d]⟩
def TrI (x : PySem.Str) (s : Shared) (rest : List Nat) (st : List PySem.Str × Nat × Bool × List (Nat × Option Nat) × Bool) (s' : Shared) : Prop :=
  ∃ dn fast known k total, dn ++ rest = x.cps.toList ∧ st = ((dn.map signF).reverse, total, fast, known, false) ∧ s' = { s with toks := k } ∧ total ≤ 3 * dn.length ∧ KnownOk known
theorem translate_meets {a : Addr} {x : PySem.Str} {t : Tok} (hx : ∀ c ∈ x.cps.toList, c < 256) (hne : x.length ≠ 0) (hz : x.length ≤ 1000) {Q : Fin → Shared → Prop} (ht : SignTab s.heap a)
    (h : ∀ t' k, Q (.done (.ret (.str ⟨(x.cps.toList.map signF).foldl (fun acc p => acc ++ p.cps) #[]⟩ t'))) { s with toks := k }) : wpAny (model prog w) A («str.translate» ⟨[.str x t, .ref a], []⟩) Q E s := by
  unfold «str.translate»
  refine wpAny_bind (wpAny_of_eq (a := (Value.str x t, x, Value.ref a)) rfl ?_)
  dsimp only
  rw [if_neg (by simpa using hne)]
  refine wpAny_bind (PyProof.Rows.forIn_array_ _ (TrI x s) _ ?_ ?_ _ _ ⟨[], x.cps.all (· < 128), [], s.toks, 0, rfl, rfl, rfl, Nat.le_refl _, fun c a e => by simp at e⟩)
  · rintro c rest st s' ⟨dn, fast, known, k, total, e, rfl, rfl, ht3, hk⟩
    have hc : c < 256 := hx c (by rw [← e]; simp)
    have hlen : dn.length + (rest.length + 1) = x.length := by have := congrArg List.length e; simp at this; exact this
    dsimp only
    rw [if_neg (by unfold Str.tooLong; rw [sizeLine_eq]; simp; omega)]
    have l3 := signF_len c
    have fin1 : ∀ (known' : List (Nat × Option Nat)) (k' : Nat) (fast' : Bool) (total' : Nat), total' ≤ total + 3 → KnownOk known' → TrI x s rest (signF c :: (dn.map signF).reverse, total', fast', known', false) { s with toks := k' } := fun known' k' fast' total' h1 h2 =>
      ⟨dn ++ [c], fast', known', k', total', by simpa using e, by simp, rfl, by simp; omega, h2⟩
    cases fast with
    | false =>
      rw [if_neg (by simp), if_neg (by simp)]
      exact wpAny_bind (tl_ok (s := { s with toks := k }) ht hc fun k2 => wpAny_pure (fin1 known k2 false _ (by omega) hk))
    | true =>
      rw [if_pos rfl]
      cases hlk : known.lookup c with
      | some av =>
        obtain ⟨d, rfl, hd⟩ := hk c av hlk
        dsimp only
        refine wpAny_bind (wpAny_pure (wpAny_pure ?_))
        show TrI x s rest (⟨#[d]⟩ :: (dn.map signF).reverse, total + 1, true, known, false) _
        rw [← hd]
        exact fin1 _ _ _ _ (by omega) hk
      | none =>
        dsimp only
        refine wpAny_bind (tl_ok (s := { s with toks := k }) ht hc fun k2 => ?_)
        dsimp only
        cases hb : ((signF c).length == 1 && (signF c).cps.all fun x => decide (x < 128)) with
        | true =>
          simp only [if_true]
          obtain ⟨d, hd⟩ : ∃ d, signF c = ⟨#[d]⟩ := by
            have h1 : (signF c).cps.size = 1 := by
              have := (Bool.and_eq_true _ _ ▸ hb).1
              have h2 : (signF c).length = 1 := by simpa using this
              exact h2
            obtain ⟨d, hd⟩ := Array.size_eq_one_iff.mp h1
            exact ⟨d, by rw [← hd]⟩
          have h0 : (signF c).cps[0]? = some d := by rw [hd]; rfl
          rw [h0]
          refine wpAny_bind (wpAny_pure (wpAny_pure ?_))
          show TrI x s rest (⟨#[d]⟩ :: (dn.map signF).reverse, total + 1, true, (c, some d) :: known, false) _
          rw [← hd]
          refine fin1 _ _ _ _ (by omega) fun c' a' ec => ?_
          rw [List.lookup_cons] at ec
          cases hcc : c' == c with
          | true =>
            rw [hcc] at ec
            have : c' = c := by simpa using hcc
            subst this
            simp only [Option.some.injEq] at ec
            exact ⟨d, ec.symm, hd⟩
          | false => rw [hcc] at ec; exact hk c' a' ec
        | false =>
          simp only [Bool.false_eq_true, if_false]
          refine wpAny_bind (wpAny_pure (wpAny_bind (wpAny_rule ?_)))
          exact wpAny_bind (tl_ok (s := { s with toks := k2 }) ht hc fun k3 => wpAny_pure (fin1 known k3 false _ (by omega) hk))
  · rintro st s' ⟨dn, fast, known, k, total, e, rfl, rfl, ht3, hk⟩
    dsimp only
    have hlen : dn.length = x.length := by have := congrArg List.length e; simp at this; exact this
    rw [if_neg (by unfold Str.tooLong; rw [sizeLine_eq]; simp; omega)]
    have e' : dn = x.cps.toList := by simpa using e
    subst e'
    rw [List.reverse_reverse]
    refine wpAny_bind (wpAny_mkStr (wpAny_pure (h _ _)) ?_)
    have : ∀ (l : List Nat) (acc : Array Nat), ((l.map signF).foldl (fun acc p => acc ++ p.cps) acc).size ≤ acc.size + 3 * l.length := by
      intro l
      induction l with
      | nil => simp
      | cons c l ih =>
        intro acc
        simp only [List.map_cons, List.foldl_cons]
        have h1 := ih (acc ++ (signF c).cps)
        have h2 := signF_len c
        have h3 : (signF c).cps.size ≤ 3 := h2
        simp only [Array.size_append, List.length_cons] at h1 ⊢
        omega
    have h1 := this x.cps.toList #[]
    show Array.size _ ≤ sizeLine
    rw [sizeLine_eq]
    simp at h1 hlen ⊢
    omega
end
end Mine

namespace Mine
def hdrS (cs e : PySem.Str) : PySem.Str := [("=?" : PySem.Str), cs, "?q?", e, "?="].foldl (· ++ ·) Str.empty
section
variable {K : Wd} {A : Around} {env : Env} {Γ : Gam} {N : Led} {mu : List Addr}
theorem ev_fmts {e : Expr} {pos : Pos} {x : PySem.Str} (y : Ev K A env Γ N e (tS x)) (hz : x.length ≤ sizeLine) : Ev K A env Γ N (.FormattedValue e 115 none pos) (tS x) := fun mu s S =>
  wpAny_FormattedValue_s (y.use S fun v h1 k1 e1 p1 => by
    obtain ⟨t, rfl⟩ := RD.str_inv p1
    exact SB.convS_str (s := Sx s h1 k1) (fun t' k => wpAny_formatField_str ⟨h1, _, rfl, e1, RD.str _ _ _⟩ ⟨h1, _, rfl, e1, RD.str _ _ _⟩ hz) hz)
theorem joins_ok {E : Value → Shared → Prop} : ∀ (es : List Expr) (xs : List PySem.Str) (acc : PySem.Str) (s : Shared) (Q : PySem.Str → Shared → Prop), All2 (fun e x => Ev K A env Γ N e (tS x)) es xs → Sat K.β env Γ N mu s.heap → acc.length + (xs.map (·.length)).sum ≤ sizeLine →
    (∀ h' tk, Ext s.heap h' → Q (xs.foldl (· ++ ·) acc) (Sx s h' tk)) → Joins K.M A E (evalEach es env) acc Q s
  | _, _, acc, s, Q, .nil, S, hz, k => k s.heap s.toks (Ext.refl _)
  | e :: es, x :: xs, acc, s, Q, .cons y r, S, hz, k => by
    have hz : acc.length + (x.length + (xs.map (·.length)).sum) ≤ sizeLine := by simpa using hz
    have hl : (acc ++ x).length = acc.length + x.length := strLen_append ..
    refine y.use S fun v h1 k1 e1 p1 => ?_
    obtain ⟨t, rfl⟩ := RD.str_inv p1
    exact ⟨x, t, rfl, by rw [hl]; omega, joins_ok es xs (acc ++ x) (Sx s h1 k1) Q r (S.ext e1) (by rw [hl]; omega) fun h' tk e' => k h' tk (e1.trans e')⟩
theorem ev_joined {v₁ v₂ : Expr} {rest : List Expr} {pos : Pos} (xs : List PySem.Str) (y : All2 (fun e x => Ev K A env Γ N e (tS x)) (v₁ :: v₂ :: rest) xs) (hz : (xs.map (·.length)).sum ≤ sizeLine) : Ev K A env Γ N (.JoinedStr (v₁ :: v₂ :: rest) pos) (tS (xs.foldl (· ++ ·) Str.empty)) := fun mu s S =>
  wpAny_JoinedStr (joins_ok _ xs Str.empty s _ y S (by show 0 + _ ≤ _; omega) fun h' tk e => ⟨by
    have : ∀ (xs : List PySem.Str) (acc : PySem.Str), (xs.foldl (· ++ ·) acc).length = acc.length + (xs.map (·.length)).sum := by
      intro xs
      induction xs with
      | nil => simp
      | cons x xs ih => intro acc; simp only [List.foldl_cons, ih, List.map_cons, List.sum_cons]; rw [show (acc ++ x).length = acc.length + x.length from strLen_append ..]; omega
    rw [this]; show 0 + _ ≤ _; omega, h', _, rfl, e, RD.str _ _ _⟩)
end
end Mine

namespace Mine
variable {K : Wd}
def signs (b : List Nat) : PySem.Str := ⟨(b.map signF).foldl (fun acc p => acc ++ p.cps) #[]⟩
def encF (cs : PySem.Str) (b : List Nat) : PySem.Str := if b = [] then "" else hdrS cs (signs b)
abbrev iso : PySem.Str := "iso-8859-1"

def Bs.HasHE (β : Bs) (f : Addr) : Prop :=
  ∃ o pm cd doc T its n t, β.mg dHE.name = some (.ref f) ∧ β.hb.get? f = some o ∧ o.data = .func (methDefD dHE.name dHE.name dHE.params dHE.body dHE.scope pm cd doc (.ref T)) ∧ β.hb.CodeRec cd dHE.name ∧ β.hb.get? T = some ({ cls := .type "tuple", data := .seq its n } : Obj) ∧ its = #[.str iso t]
def Bs.HasMap (β : Bs) : Prop := ∃ a, β.mg "_QUOPRI_HEADER_MAP" = some (.ref a) ∧ SignTab β.hb a
theorem HasHE.kept {β : Bs} {f : Addr} (h : β.HasHE f) : Kept β (.ref f) := let ⟨o, _, _, _, _, _, _, _, _, a, b, _⟩ := h; .inr (.inr ⟨f, o, _, rfl, a, b⟩)
theorem HasHE.name {β : Bs} {f : Addr} (h : β.HasHE f) : β.mg dHE.name = some (.ref f) := let ⟨_, _, _, _, _, _, _, _, e, _⟩ := h; e

theorem args_decode_2 (a b : Value) : argsOk "bytes.decode" ⟨[a, b], []⟩ := by
  unfold argsOk; rw [signature?_of (id := "bytes.decode") (n := ['e', 'd', 'o', 'c', 'e', 'd']) (o := ['s', 'e', 't', 'y', 'b']) (by kernel_rfl) FB.owner_bytes]; kernel_rfl
section
variable {A : Around} {env : Env} {Γ : Gam} {N : Led} {mu : List Addr} {s : Shared}
theorem tr_bytes {e : Expr} {b : Array UInt8} (x : Ev K A env Γ N e (byt b)) (hz : b.size ≤ 1000) (he : ∀ whole, isTrue e env whole = (do let v ← whole; standAt e.pos; holding [v] (truthy v)) := by intro _; rfl) : Tr K A env Γ N e ((b.size : Int) != 0) := fun mu s S => by
  refine wpAny_isTrue_value (x.use S fun v h1 k1 e1 p1 => ?_) (he _)
  obtain ⟨t, rfl⟩ := p1
  exact truthy_bytes (s := Sx s h1 k1) (by omega) ⟨rfl, h1, _, rfl, e1⟩
theorem ev_decode {o : Expr} {apos pos p : Pos} {k : Nat} {b : Array UInt8} (x : Ev K A env Γ N o (byt b)) (hne : b.size ≠ 0) (hz : b.size ≤ 1000)
    (hbase : attributeBase o "decode" env (eval o env) = eval o env := by rfl) (hline : (apos.endLine == pos.line) = true := by rfl) : Ev K A env Γ N (.Call (.Attribute o "decode" apos) [.Constant (.str "latin1") k p] [] pos) (tS ⟨b.map (·.toNat)⟩) := fun mu s S => by
  refine method_go x (Evs.cons ev_str Evs.nil) S FB.plainAttrs_bytes FB.slot_bytes_decode FB.type_bytes_decode (fun v h1 k1 e1 p1 => ?_) (fun v vs h1 k1 e1 S1 p1 p2 => ?_) hbase rfl hline
  · obtain ⟨t, rfl⟩ := p1
    exact ⟨typeIs_bytes _ _ _, fun _ e => nomatch e⟩
  · obtain ⟨t, rfl⟩ := p1
    cases p2 with
    | cons q p2 =>
      cases p2
      obtain ⟨t', rfl⟩ := RD.str_inv q
      obtain ⟨l, rfl⟩ : ∃ l : List UInt8, b = l.toArray := ⟨b.toList, by simp⟩
      cases l with
      | nil => simp at hne
      | cons c cs =>
        refine call_meets (s := Sx s h1 k1) FB.slot_bytes_decode (typeIs_bytes _ _ _) FB.entry_bytes_decode (args_decode_2 _ _) (latin_meets (by rw [sizeLine_eq]; simp at hz ⊢; omega)) fun t' k => ⟨h1, k, rfl, e1, RD.str _ _ _⟩
theorem ev_translate {o e : Expr} {apos pos : Pos} {x : PySem.Str} {a : Addr} (y : Ev K A env Γ N o (tS x)) (z : Ev K A env Γ N e (isv (.ref a))) (ht : SignTab K.β.hb a) (hx : ∀ c ∈ x.cps.toList, c < 256) (hne : x.length ≠ 0) (hz : x.length ≤ 1000)
    (he : starEach [e] env = (false, eval e env) :: starEach [] env := by rfl) (hbase : attributeBase o "translate" env (eval o env) = eval o env := by rfl) (hline : (apos.endLine == pos.line) = true := by rfl)
    (hfew : ((backTo pos (starEach [e] env)).all (fun x => !x.1) && (backToKw pos (keywordEach [] env)).all (fun x => x.1.isSome) && decide ([e].length + ([] : List Keyword).length + (if ([] : List Keyword).isEmpty then 0 else 1) < 30)) = true := by rfl) :
    Ev K A env Γ N (.Call (.Attribute o "translate" apos) [e] [] pos) (tS (signs x.cps.toList)) := fun mu s S => by
  refine method_go y (Evs.cons z Evs.nil he) S PySem.F.plainAttrs_str PySem.F.slot_str_translate PySem.F.type_str_translate (fun v h1 k1 e1 p1 => ?_) (fun v vs h1 k1 e1 S1 p1 p2 => ?_) hbase hfew hline he
  · obtain ⟨t, rfl⟩ := RD.str_inv p1
    exact ⟨typeIs_str _ _ _, fun _ e => nomatch e⟩
  · obtain ⟨t, rfl⟩ := RD.str_inv p1
    cases p2 with
    | cons q p2 =>
      cases p2
      have q : _ = Value.ref a := q
      subst q
      refine wpAny_call_entry (s := Sx s h1 k1) PySem.F.slot_str_translate (typeIs_str _ _ _) PySem.F.entry_str_translate ?_ (PySem.F.args_str_translate_2 _ _)
      exact translate_meets (s := Sx s h1 k1) hx hne hz (ht.keeps S1.base) fun t' k => ⟨_, rfl, h1, k, rfl, e1, RD.str _ _ _⟩
end
theorem signs_len (l : List Nat) : (signs l).length ≤ 3 * l.length := by
  have : ∀ (l : List Nat) (acc : Array Nat), ((l.map signF).foldl (fun acc p => acc ++ p.cps) acc).size ≤ acc.size + 3 * l.length := by
    intro l
    induction l with
    | nil => simp
    | cons c l ih =>
      intro acc
      simp only [List.map_cons, List.foldl_cons]
      have h1 := ih (acc ++ (signF c).cps)
      have h3 : (signF c).cps.size ≤ 3 := signF_len c
      simp only [Array.size_append, List.length_cons] at h1 ⊢
      omega
  have h := this l #[]
  simp at h
  exact h

/-- header_encode, entered with its two names bound -/
theorem he_body {f : Addr} {b : Array UInt8} {cs : PySem.Str} (hm : K.β.HasMap) (hz : b.size ≤ 1000) (hc : cs.length ≤ 1000) {A : Around} {L : Addr} {cd : Value} {mu : List Addr} {h₀ : Heap} {s : Shared} {Q : Flow → Shared → Prop}
    (z : At K h₀ [] (envOfC dHE.name dHE.scope L f cd) [("header_bytes", byt b), ("charset", tS cs)] [] mu s.heap)
    (k : ∀ fl h' tk mu' Γ' N', At K h₀ [] (envOfC dHE.name dHE.scope L f cd) Γ' N' mu' h' → (∀ b ∈ mu, b ∈ mu') → (tS (encF cs (b.toList.map (·.toNat)))).P (fz h' mu') (match fl with | .ret v => v | _ => .none) → Q fl (Sx s h' tk)) :
    wpAny K.M A (execs dHE.body (envOfC dHE.name dHE.scope L f cd)) Q no s := by
  obtain ⟨a, ha, ht⟩ := hm
  refine x_if (b := !((b.size : Int) != 0)) z (tr_not (tr_bytes (ev_name rfl) hz)) (fun hb h1 t1 a1 => ?_) (fun hb h1 t1 a1 => x_nil ?_)
  · refine x_ret a1 ev_str fun v h2 t2 a2 p2 => k (.ret v) h2 t2 _ _ _ a2 (fun _ q => q) ?_
    have e0 : b.size = 0 := by simpa using hb
    have : encF cs (b.toList.map (·.toNat)) = "" := by
      have hb0 : b = #[] := by simpa using e0
      unfold encF
      rw [if_pos (by rw [hb0]; rfl)]
    rw [this]; exact p2
  · have hne : b.size ≠ 0 := by intro q; rw [q] at hb; simp at hb
    have hl : ({ cps := b.map (·.toNat) } : PySem.Str).length = b.size := by show (b.map _).size = _; simp
    have ec : ({ cps := b.map (·.toNat) } : PySem.Str).cps.toList = b.toList.map (·.toNat) := by simp
    refine x_assign a1 (ev_translate (ev_decode (ev_name rfl) hne hz) (ev_glob rfl ha) ht (fun c hc => ?_) (by rw [hl]; exact hne) (by rw [hl]; exact hz)) (.inl rfl) fun h2 t2 a2 => ?_
    · rw [ec] at hc
      obtain ⟨u, _, rfl⟩ := List.mem_map.mp hc
      exact u.toNat_lt
    · rw [ec] at a2
      have hs := signs_len (b.toList.map (·.toNat))
      simp only [List.length_map, Array.length_toList] at hs
      refine x_ret a2 (ev_joined [("=?" : PySem.Str), cs, "?q?", signs (b.toList.map (·.toNat)), "?="] (.cons ev_str (.cons (ev_fmts (ev_name rfl) (by rw [sizeLine_eq]; omega)) (.cons ev_str (.cons (ev_fmts (ev_name rfl) (by rw [sizeLine_eq]; omega)) (.cons ev_str .nil))))) (by rw [sizeLine_eq]; show 2 + (cs.length + (3 + ((signs (b.toList.map (·.toNat))).length + (2 + 0)))) ≤ 16777216; omega)) fun v h3 t3 a3 p3 => k (.ret v) h3 t3 _ _ _ a3 (fun _ q => q) ?_
      have : encF cs (b.toList.map (·.toNat)) = hdrS cs (signs (b.toList.map (·.toNat))) := by
        unfold encF
        rw [if_neg (fun q => hne (by have := congrArg List.length q; simpa using this))]
      rw [this]; exact p3

theorem he_enter {f : Addr} {b : Array UInt8} {cs : PySem.Str} {ts : List Ty} (hd : K.β.HasHE f) (hm : K.β.HasMap) (hz : b.size ≤ 1000) (hc : cs.length ≤ 1000) (j : Nat)
    (H : ∀ (s : Shared) (vs : List Value) g pm cd doc T its n t, Ext g s.heap → s.heap.get? T = some ({ cls := .type "tuple", data := .seq its n } : Obj) → its = #[.str iso t] → All2 (fun v t => t.P g v) vs ts → ∃ v1 v2 t, BindsTo s (methDefD dHE.name dHE.name dHE.params dHE.body dHE.scope pm cd doc (.ref T)) ⟨vs, []⟩ [("header_bytes", v1), ("charset", v2)] ∧ (byt b).P g v1 ∧ v2 = .str cs t) :
    Fn K (j + 1) f ts (tS (encF cs (b.toList.map (·.toNat)))) := fun A hA mu s vs hb hl p => by
  obtain ⟨o, pm, cd, doc, T, its, n, t, _, ho, hdat, hcr, hT, hits⟩ := hd
  obtain ⟨v1, v2, t', hbi, q1, q2⟩ := H s vs _ pm cd doc T its n t (fz_ext s.heap mu) (hb _ _ hT) hits p
  refine wpAny_call (call_methW_ret hA.room (hb _ _ ho) hdat (K.β.nolim.keeps hb) (hcr.keeps hb) hbi (fun x hx => ?_) (fun h₁ F => ?_) rfl rfl rfl (by decide))
  · rcases List.mem_cons.mp hx with rfl | hx
    · rfl
    · rw [List.mem_singleton.mp hx]; rfl
  · have z := fn_at (K := K) (s := s) (N := []) (f := f) (cd := cd) (d := dHE) (cm := fun _ => none) (Γ := [("header_bytes", byt b), ("charset", tS cs)]) hb hl rfl (by decide) F ⟨fun x c e => (by simp [cellsAt] at e; exact nomatch (show ([] : List (Str × Addr)).lookup x = some c from e)), (by show List.Pairwise _ []; exact .nil), fun x c e => (nomatch (show (x, c) ∈ ([] : List (Str × Addr)) from e))⟩ ⟨List.nodup_nil, fun _ q => (nomatch q)⟩
      ⟨.inl ⟨rfl, v1, rfl, q1⟩, .inl ⟨rfl, v2, rfl, by rw [q2]; exact RD.str _ _ _⟩, trivial⟩
    exact he_body (s := Sx s h₁ _) (f := f) (cd := cd) hm hz hc z fun fl h' tk' mu' Γ' N' a' hm' q => ⟨h', tk', rfl, a'.chg.ext, (tS _).mono _ _ _ q (fz_less fun b hb => hm' b (List.mem_append_right _ hb))⟩
theorem he1_ok {f : Addr} {b : Array UInt8} (hd : K.β.HasHE f) (hm : K.β.HasMap) (hz : b.size ≤ 1000) (j : Nat) : Fn K (j + 1) f [byt b] (tS (encF iso (b.toList.map (·.toNat)))) :=
  he_enter hd hm hz (by decide +kernel) j fun s vs g pm cd doc T its n t e hT hi p => by
    cases p with
    | @cons v1 _ _ _ q1 p =>
      cases p
      exact ⟨v1, .str iso t, t, BindsTo.of_defaults rfl hT rfl (by rfl) (by rw [hi]; rfl), q1, rfl⟩
theorem he2_ok {f : Addr} {b : Array UInt8} {cs : PySem.Str} (hd : K.β.HasHE f) (hm : K.β.HasMap) (hz : b.size ≤ 1000) (hc : cs.length ≤ 1000) (j : Nat) : Fn K (j + 1) f [byt b, tS cs] (tS (encF cs (b.toList.map (·.toNat)))) :=
  he_enter hd hm hz hc j fun s vs g pm cd doc T its n t e hT hi p => by
    cases p with
    | @cons v1 _ _ _ q1 p =>
      cases p with
      | @cons v2 _ _ _ q2 p =>
        cases p
        obtain ⟨t', rfl⟩ := RD.str_inv q2
        exact ⟨v1, _, t', BindsTo.of_defaults rfl hT rfl (by rfl) (by rw [hi]; rfl), q1, rfl⟩
end Mine

namespace Mine
variable {K : Wd}
theorem boot_sum : bootBuiltins "sum" = some (.builtin "sum") := by kernel_rfl
theorem boot_bytes : bootBuiltins "bytes" = some (.type "bytes") := by kernel_rfl
/-- the very list object's items -/
def tA (its : Array Value) : Ty := ⟨fun g v => ∃ a, v = .ref a ∧ g.IsList a its, fun g g' v x k => let ⟨a, e, o, ho, r⟩ := x; ⟨a, e, o, k _ _ ho, r⟩⟩
def numV : Value → Int
  | .int i _ => i
  | _ => 0
def sumV (a : Array Value) : Int := (a.toList.map numV).sum
theorem slicePick_mem {items : Array Value} {lo hi st : Option Int} : ∀ v ∈ slicePick items lo hi st, v ∈ items := by
  intro v hv
  unfold slicePick at hv
  simp only [List.mem_toArray, List.mem_filterMap] at hv
  obtain ⟨i, _, e⟩ := hv
  exact Array.mem_of_getElem? e
section
variable {A : Around} {env : Env} {Γ : Gam} {N : Led} {mu : List Addr}
theorem cl_sum {its : Array Value} {k : Nat} (hA : AOk k A) (hi : AllInts its) : Cl K A (.builtin "sum") [tA its] (tI (sumV its)) := fun mu s vs _ _ p => by
  cases p with
  | cons q r =>
    cases r
    obtain ⟨a, rfl, l⟩ := q
    obtain ⟨xs, rfl⟩ := hi.items
    obtain ⟨o, e, r⟩ := l
    refine Gives.of fun Q k => sum_intListG hA.h ⟨o, (fz_get e).1, r⟩ fun h' tk t' hk => k _ _ _ hk ?_
    have : preSum (numAt xs) xs.size = sumV (intItems xs) := by
      rw [preSum_eq, List.take_of_length_le (by simp)]
      unfold sumV intItems
      simp [numV, Function.comp_def]
    rw [this]
    exact RD.int _ _ _
theorem ev_thirds {value e : Expr} {p p3 pos : Pos} {k3 : Nat} {its : Array Value} {i : Int} (x : Ev K A env Γ N value (tA its)) (y : Ev K A env Γ N e (tI i)) (hz : its.size ≤ sizeLine) : Ev K A env Γ N (.Subscript value (.Slice (some e) none (some (.Constant (.int 3) k3 p3)) p) pos) (tA (slicePick its (some i) none (some 3))) := fun mu s S =>
  Subscript_ (x.use S fun v h1 k1 e1 p1 => wpAny_Slice (show wpAny K.M A (eval e env) _ _ (Sx s h1 k1) from y.use (s := Sx s h1 k1) (S.ext e1) fun u h2 k2 e2 p2 => wpAny_pure (by
    have S2 := S.ext (e1.trans e2)
    obtain ⟨a, rfl, l⟩ := (tA its).mono _ _ _ p1 (fz_mono mu e2)
    obtain ⟨t, rfl⟩ := RD.int_inv p2
    have l' : h2.IsList a its := by obtain ⟨o, e, r⟩ := l; exact ⟨o, (fz_get e).1, r⟩
    refine (ev_int (K := K) (A := A) (env := env) (Γ := Γ) (N := N) (i := 3) (k := k3) (pos := p3)).use (s := Sx s h2 k2) S2 fun u3 h3 k3' e3 p3 => ?_
    obtain ⟨t3, rfl⟩ := RD.int_inv p3
    have S3 := S2.ext e3
    have l3 : h3.IsList a its := by obtain ⟨o, e, r⟩ := l'; exact ⟨o, e3 _ _ e, r⟩
    have e4 := Ext.push h3 { cls := .type "slice", data := .fields #[.int i t, .none, .int 3 t3] }
    refine tail_any (ops := [.ref a, .ref h3.objs.size]) (s := Sx s (h3.push { cls := .type "slice", data := .fields #[.int i t, .none, .int 3 t3] }) k3') (l3.push _).typeIs slot_list_getitem.lookup
      (wpAny_getItem_list_slice (s := Sx s (h3.push { cls := .type "slice", data := .fields #[.int i t, .none, .int 3 t3] }) k3') (l3.push _) (Heap.IsSliceOf.new ..) (.int _ _) .none (.int _ _) (by simp) ?_ ?_) rfl
    · refine ⟨_, k3', rfl, (((e1.trans e2).trans e3).trans e4).trans (Ext.push _ _), _, rfl, ⟨_, fz_of (Heap.get?_push_size _ rfl) (new_off (s := Sx s (h3.push { cls := .type "slice", data := .fields #[.int i t, .none, .int 3 t3] }) k3') (S3.ext e4).live (Nat.le_refl _)), rfl, 0, rfl⟩⟩
    · exact hz)))

def numAtK (its : Array Value) (k : Nat) : Int := [72480, 0, 5].getD k 0 + sumV (slicePick its (some (k : Int)) none (some 3))
theorem numbers_ok {f : Addr} {its : Array Value} (hd : K.β.HasDef dNumbers f) (hsum : Bn K.β "sum" (.builtin "sum")) (hran : Bn K.β "range" (.type "range")) (hi' : AllInts its) (hz : its.size ≤ sizeLine) (j : Nat) :
    Fn K (j + 1) f [tA its] (tL [.int (numAtK its 0), .int (numAtK its 1), .int (numAtK its 2)]) := by
  refine fn_of (Γ := [("script", tA its)]) hd rfl rfl rfl (by decide) (fun vals hv => ?_) ?_
  · cases hv with
    | @cons v1 _ _ _ _ hv =>
        cases hv
        exact ⟨[("script", v1)], fun _ _ _ => rfl, by rfl, fun L cd g hp => by
          cases hp with
          | cons p1 hp => exact ⟨.inr ⟨rfl, _, _, rfl, rfl, p1⟩, trivial⟩⟩
  · intro A L cd mu h₀ s Q hA z k
    refine x_assign z (ev_list (ds := [.int 72480, .int 0, .int 5]) (Evs.cons ev_int (Evs.cons ev_int (Evs.cons ev_int Evs.nil))) (by rw [sizeLine_eq]; simp)) (.inr ⟨rfl, _, rfl⟩) fun h1 t1 a1 => ?_
    refine x_ret a1 (t := tL [.int (numAtK its 0), .int (numAtK its 1), .int (numAtK its 2)]) ?_ fun v h2 t2 a2 p2 => k (.ret v) h2 t2 _ _ _ a2 (fun _ q => q) p2
    have e3 : (List.range 3).map (fun k => PyData.int (numAtK its k)) = [.int (numAtK its 0), .int (numAtK its 1), .int (numAtK its 2)] := rfl
    rw [← e3]
    refine ev_map (cl := [("starts", L + 2), ("script", L + 1)]) (Γc := [("starts", tL [.int 72480, .int 0, .int 5]), ("script", tA its)]) (fun k => .int (numAtK its k)) ?_ rfl (fun t => ⟨rfl, rfl, trivial⟩)
      (it_range (a := 0) (b := 3) (n := 3) hA (ev_call (ev_blt rfl hran.g hran.b) (.inr (.inl ⟨_, rfl⟩)) (Evs.cons ev_int Evs.nil) cl_range1) (.inl rfl) (by omega) (by omega) (by omega) (by omega) (by rw [sizeLine_eq]; decide)) (fun C i hi => ?_) (by rw [sizeLine_eq]; decide)
    · refine ⟨rfl, by decide, rfl, by decide, fun p hp => hp, by show List.Nodup [("starts" : Str), "script"]; decide, ⟨⟨.inl rfl, rfl, .inl rfl, rfl⟩, ⟨.inl rfl, rfl, .inl rfl, rfl⟩, trivial⟩⟩
    · have ei : ((0 : Int) + (i : Int)) = (i : Int) := by omega
      have hall : AllInts (slicePick its (some (i : Int)) none (some 3)) := fun v hv => hi' v (slicePick_mem v hv)
      refine Ev.as (ev_bin (ev_sub (ev_name rfl) (ev_name rfl) (op_item (d := .int ([72480, 0, 5].getD i 0)) plain_name (by omega) (by omega) ?_)) (ev_call (ev_blt rfl hsum.g hsum.b) (.inl ⟨_, rfl⟩) (Evs.cons (ev_thirds (ev_name rfl) (ev_name rfl) hz) Evs.nil) (cl_sum hA (by rw [ei]; exact hall))) op_add) ?_
      · rw [ei]
        match i, hi with
        | 0, _ => rfl
        | 1, _ => rfl
        | 2, _ => rfl
      · rw [ei]; rfl
end
end Mine

namespace Mine
variable {K : Wd}
theorem getD_map {α β : Type} {f : α → β} {l : List α} {i : Nat} {d : β} (d' : α) (h : i < l.length) : (l.map f).getD i d = f (l.getD i d') := by simp [List.getD, h]
theorem range_map_f {α β : Type} (f : α → β) (l : List α) (d : α) : (List.range l.length).map (fun i => f (l.getD i d)) = l.map f := by
  apply List.ext_getElem (by simp)
  intro i h1 h2
  have h3 : i < l.length := by simpa using h2
  simp [List.getD, h3]
theorem range_flatMap_f {α β : Type} (f : α → List β) (l : List α) (d : α) : (List.range l.length).flatMap (fun i => f (l.getD i d)) = l.flatMap f := by
  rw [List.flatMap_def, List.flatMap_def, range_map_f]

abbrev lI (l : List Nat) : List PyData := l.map fun n : Nat => .int (n : Int)
abbrev wD (w : List Nat) : PyData := .list (lI w)
theorem cl_bytes {A : Around} {k : Nat} {ns : List Nat} (hA : AOk k A) (hr : ∀ n ∈ ns, n < 256) (hz : ns.length ≤ sizeLine) : Cl K A (.type "bytes") [dat (wD ns)] (byt (byteArr (ns.map fun n : Nat => (n : Int)))) := fun mu s vs _ _ p => by
  cases p with
  | cons q r =>
    cases r
    obtain ⟨a, its, rfl, l, r⟩ := RD.list_inv q
    have hi : ∀ {vs : List Value} {ns : List Nat}, RDs (fz s.heap mu) vs (lI ns) → IntsAre vs (ns.map fun n : Nat => (n : Int)) := by
      intro vs ns
      induction ns generalizing vs with
      | nil => intro h; cases h; exact .nil
      | cons n ns ih =>
        intro h
        cases h with
        | cons x r =>
          obtain ⟨t, rfl⟩ := RD.int_inv x
          exact .cons _ _ (ih r)
    have hl : its.toList.length = ns.length := by have := rds_length r; simpa using this
    have l' := isList_ext l (fz_ext _ _)
    refine Gives.of fun Q k => call_bytes_ints (vs := its.toList) (by simpa using l') (hi r) (fun n hn => ?_) (by rw [hl]; exact hz) hA.h fun h' t k' hk => k _ _ _ hk ⟨t, rfl⟩
    obtain ⟨m, hm, rfl⟩ := List.mem_map.mp hn
    have := hr m hm
    omega
theorem byteArr_nats {ns : List Nat} (hr : ∀ n ∈ ns, n < 256) : (byteArr (ns.map fun n : Nat => (n : Int))).toList.map (·.toNat) = ns := by
  unfold byteArr
  simp only [List.map_map]
  conv => rhs; rw [← List.map_id ns]
  apply List.map_congr_left
  intro n hn
  have := hr n hn
  simp [Function.comp]
  omega
theorem byteArr_len {ns : List Nat} : (byteArr (ns.map fun n : Nat => (n : Int))).size = ns.length := by rw [byteArr_size]; simp
/-- header_encode(bytes(e)) -/
theorem ev_enc {A : Around} {env : Env} {Γ : Gam} {N : Led} {f : Addr} {j : Nat} {e : Expr} {p pb pos posb : Pos} {ns : List Nat} (hA : AOk (j + 1) A) (hd : K.β.HasHE f) (hm : K.β.HasMap) (hb : Bn K.β "bytes" (.type "bytes")) (x : Ev K A env Γ N e (dat (wD ns))) (hr : ∀ n ∈ ns, n < 256) (hz : ns.length ≤ 1000)
    (k1 : env.kindOf "header_encode" = some .globalImplicit) (k2 : env.kindOf "bytes" = some .globalImplicit)
    (he : starEach [e] env = (false, eval e env) :: starEach [] env := by rfl) :
    Ev K A env Γ N (.Call (.Name "header_encode" p) [.Call (.Name "bytes" pb) [e] [] posb] [] pos) (tS (encF iso ns)) := by
  have h := he1_ok (b := byteArr (ns.map fun n : Nat => (n : Int))) hd hm (by rw [byteArr_len]; exact hz) j A hA
  rw [byteArr_nats hr] at h
  exact ev_call (ev_glob k1 (HasHE.name hd)) (HasHE.kept hd) (Evs.cons (ev_call (ev_blt k2 hb.g hb.b) (.inr (.inl ⟨_, rfl⟩)) (Evs.cons x Evs.nil he) (cl_bytes hA hr (by rw [sizeLine_eq]; omega)) he) Evs.nil) h

theorem Loops.as {A : Around} {e : Expr} {d : Nat} {cenv : Env} {Γ : Gam} {N N' : Led} {as a b : List PyData} {n : Nat} {T : Nat → Ty} {W : List Addr} (x : Loops K A e d cenv Γ N N' as a n T W) (h : a = b) : Loops K A e d cenv Γ N N' as b n T W := h ▸ x
def wordsF (ls : List Nat) : Nat → List (List Nat)
  | 0 => [[]]
  | t + 1 => (wordsF ls t).flatMap fun w => ls.map fun l => w ++ [l]
theorem words_ok {f : Addr} {ls : List Nat} {size : Nat} (hd : K.β.HasDef dWords f) (hran : Bn K.β "range" (.type "range")) (hl : ls.length ≤ 1000) (hs : size ≤ 1000) (hb : ∀ t, t ≤ size → (wordsF ls t).length ≤ 1000 ∧ ∀ w ∈ wordsF ls t, w.length ≤ 1000) (j : Nat) :
    Fn K (j + 1) f [dat (wD ls), tI size] (tL ((wordsF ls size).map wD)) := by
  refine fn_of (Γ := [("letters", dat (wD ls)), ("size", tI size)]) hd rfl rfl rfl (by decide) (fun vals hv => ?_) ?_
  · cases hv with
    | @cons v1 _ _ _ _ hv =>
      cases hv with
      | @cons v2 _ _ _ _ hv =>
        cases hv
        exact ⟨[("letters", v1), ("size", v2)], fun _ _ _ => rfl, by rfl, fun L cd g hp => by
          cases hp with
          | cons p1 hp => cases hp with
            | cons p2 hp => exact ⟨.inr ⟨rfl, _, _, rfl, rfl, p1⟩, .inl ⟨rfl, _, rfl, p2⟩, trivial⟩⟩
  · intro A L cd mu h₀ s Q hA z k
    refine x_assign z (ev_list (ds := [.list []]) (Evs.cons (ev_list (ds := []) Evs.nil (by rw [sizeLine_eq]; simp)) Evs.nil) (by rw [sizeLine_eq]; simp)) (.inl rfl) fun h1 t1 a1 => ?_
    refine x_for (n := size) (T := fun i => tI (0 + i)) (X := [L]) (fun t => [("words", tL ((wordsF ls t).map wD)), ("letters", dat (wD ls)), ("size", tI size)]) (fun t => [("place", tI (0 + t)), ("words", tL ((wordsF ls t).map wD)), ("letters", dat (wD ls)), ("size", tI size)]) (fun _ => []) a1
      (it_range (a := 0) (b := size) (n := size) hA (ev_call (ev_blt rfl hran.g hran.b) (.inr (.inl ⟨_, rfl⟩)) (Evs.cons (ev_name rfl) Evs.nil) cl_range1) (.inl (by omega)) (by omega) (by omega) (by omega) (by omega) (by rw [sizeLine_eq]; omega)) ⟨rfl, rfl, rfl, trivial⟩ rfl (fun _ _ => rfl) (fun b hb => by rw [List.mem_singleton.mp hb]; exact own_locals) (fun i => tg_name rfl) (fun t mu' h2 t2 E' ht hmu a2 => ?_) (fun h2 t2 a2 => ?_)
    · have hW := hb t (by omega)
      refine x_assign_comp (cl := [("letters", L + 1)]) (Γc := [("letters", dat (wD ls))]) (W := []) (N' := []) (ds := (wordsF ls (t + 1)).map wD) (n := ((wordsF ls t).map wD).length) (T := fun i => dat (((wordsF ls t).map wD).getD i .none)) a2.here rfl rfl rfl (by decide) rfl (by decide) (fun p hp => hp) (by show List.Nodup [("letters" : Str)]; decide) ⟨⟨.inl rfl, rfl, .inl rfl, rfl⟩, trivial⟩
        (it_list hA (ev_name rfl) (by rw [sizeLine_eq]; simp; omega)) rfl (fun _ q => nomatch q) (fun C => ?_) fun h3 t3 a3 => x_nil ⟨h3, t3, rfl, At.sub a3 ⟨rfl, rfl, rfl, trivial⟩⟩
      have e : (wordsF ls (t + 1)).map wD = [] ++ (List.range ((wordsF ls t).map wD).length).flatMap fun i => (List.range (lI ls).length).map fun j => wD ((wordsF ls t).getD i [] ++ [ls.getD j 0]) := by
        rw [List.nil_append, List.length_map, List.length_map, range_flatMap_f (fun w => (List.range ls.length).map fun j => wD (w ++ [ls.getD j 0])), wordsF, List.map_flatMap]
        congr 1
        funext w
        rw [range_map_f (fun l => wD (w ++ [l])), List.map_map]
        rfl
      rw [e]
      refine loops_nest (fun i => [("word", dat (((wordsF ls t).map wD).getD i .none)), ("letters", dat (wD ls))]) (T2 := fun j => dat ((lI ls).getD j .none)) _ (fun _ q => nomatch q) (fun i => tg_name rfl) (fun i => ⟨rfl, trivial⟩) (fun i hi => it_list hA (ev_name rfl) (by rw [sizeLine_eq]; simp; omega)) (fun i hi as has => ?_) ?_
      · refine Loops.as (loops_last (n := (lI ls).length) (as := as) (W := [])
          (fun j => [("letter", dat ((lI ls).getD j .none)), ("word", dat (((wordsF ls t).map wD).getD i .none)), ("letters", dat (wD ls))]) (fun _ => []) (fun _ => true) (fun j => wD ((wordsF ls t).getD i [] ++ [ls.getD j 0])) (fun _ q => nomatch q)
          (fun it acc env => turn_last1 _ _ _ _ _ _ _ it acc env) (fun _ _ => rfl) (fun _ q => nomatch q) (fun j => tg_name rfl) (fun j => ⟨rfl, rfl, trivial⟩) (fun j hj => tests_nil) (fun j hj _ => Ev.w ?_) has) (by rw [filter_true])
        · have hi' : i < (wordsF ls t).length := by simpa using hi
          have hj' : j < ls.length := by simpa using hj
          have e1 : ((wordsF ls t).map wD).getD i .none = wD ((wordsF ls t).getD i []) := getD_map [] hi'
          have e2 : (lI ls).getD j .none = .int (ls.getD j 0 : Nat) := getD_map 0 hj'
          rw [e1, e2]
          have hm : (wordsF ls t).getD i [] ∈ wordsF ls t := by
            have : (wordsF ls t).getD i [] = (wordsF ls t)[i] := by simp [List.getD, hi']
            rw [this]; exact List.getElem_mem hi'
          have hwl := hW.2 _ hm
          refine Ev.as (ev_bin (ev_name rfl) (ev_list (ds := [.int (ls.getD j 0 : Nat)]) (Evs.cons (ev_name rfl) Evs.nil) (by rw [sizeLine_eq]; simp)) (op_addl (by rw [sizeLine_eq]; simp at hwl ⊢; omega))) ?_
          simp [wD, lI]
      · simp only [List.length_nil, Nat.zero_add, List.length_map]
        have := Nat.mul_le_mul hW.1 hl
        rw [sizeLine_eq]; omega
    · exact x_ret a2 (ev_name rfl) fun v h3 t3 a3 p3 => k (.ret v) h3 t3 _ _ _ a3 (fun _ q => q) p3
end Mine

namespace Mine
variable {K : Wd}
theorem popF_len (l : List Nat) : (popF l).2.length = l.length - 1 := by
  unfold popF
  cases h : l.dropLast with
  | nil => have := congrArg List.length h; simp at this; simp [this]
  | cons x r => have := congrArg List.length h; simp at this; simp [siftupF_length]; omega
theorem popF_lt {n : Nat} {l : List Nat} (hl : ∀ k ∈ l, k < n) : ∀ k ∈ (popF l).2, k < n := by
  unfold popF
  cases h : l.dropLast with
  | nil => intro k hk; simp at hk
  | cons x r =>
    have hd : ∀ k ∈ x :: r, k < n := fun k hk => hl k (List.dropLast_subset _ (h ▸ hk))
    have hlen : 0 < l.length := by have := congrArg List.length h; simp at this; omega
    exact siftupF_lt (by simp) (set_lt hd (getD_lt hl (by omega)))
def popN : Nat → List Nat → List Nat
  | 0, l => l
  | i + 1, l => popN i (popF l).2
theorem popN_succ : ∀ (i : Nat) (l : List Nat), popN (i + 1) l = (popF (popN i l)).2
  | 0, l => rfl
  | i + 1, l => by rw [popN, popN_succ i]; rfl
theorem popN_len : ∀ (i : Nat) (l : List Nat), (popN i l).length = l.length - i
  | 0, l => rfl
  | i + 1, l => by rw [popN, popN_len i, popF_len]; omega
theorem popN_lt {n : Nat} : ∀ (i : Nat) (l : List Nat), (∀ k ∈ l, k < n) → ∀ k ∈ popN i l, k < n
  | 0, l, h => h
  | i + 1, l, h => by rw [popN]; exact popN_lt i _ (popF_lt h)
theorem popsF_eq : ∀ (n : Nat) (l : List Nat), popsF n l = (List.range n).map fun i => (popF (popN i l)).1
  | 0, l => rfl
  | n + 1, l => by
    rw [popsF, popsF_eq n, List.range_succ_eq_map, List.map_cons, List.map_map]
    rfl
theorem heapifyF_len (l : List Nat) : (heapifyF l).length = l.length := by unfold heapifyF; rw [← hstage_eq, hstage_len]
theorem heapifyF_lt {n : Nat} {l : List Nat} (h : ∀ k ∈ l, k < n) : ∀ k ∈ heapifyF l, k < n := by unfold heapifyF; rw [← hstage_eq]; exact hstage_lt _ _ (by omega) h _ (Nat.le_refl _)

structure HeapFns (K : Wd) where
  fPush : Addr
  fPop : Addr
  fHeapify : Addr
  fSD : Addr
  fSU : Addr
  push : K.β.HasDef dPush fPush
  pop : K.β.HasDef dPop fPop
  heapify : K.β.HasDef dHeapify fHeapify
  sd : K.β.HasDef dSD fSD
  su : K.β.HasDef dSU fSU
  len : Bn K.β "len" (.builtin "len")
  range : Bn K.β "range" (.type "range")
  reversed : Bn K.β "reversed" (.type "reversed")
structure EncFns (K : Wd) where
  fHE : Addr
  he : K.β.HasHE fHE
  map : K.β.HasMap
  bytes : Bn K.β "bytes" (.type "bytes")

/-- the list of pops -/
theorem ev_pops {A : Around} {env : Env} {Γ : Gam} {b : Addr} {val : Nat → PyData} {n : Nat} {ks : List Nat} {iter : Expr} {x : Str} {px p ph pos cpos : Pos} {scope : Scope} {cl : List (Str × Addr)} {T : Nat → Ty} {j m : Nat} (hm : ks.length = m) (H : HeapFns K) (hA : AOk (j + 3) A) (hc : CmpLt K val n) (hn : ∀ k ∈ ks, k < n) (hz : ks.length ≤ 2 ^ 20)
    (co : CompOk env scope cl Γ [("heap", isv (.ref b))]) (hx : scope.names.lookup x = some .local) (hxn : x ≠ "heap") (hk : (relabel scope env).names.lookup ("heappop" : Str) = some .globalImplicit) (hi : It K A env Γ [(b, ks.map val)] iter m T)
    (hs : ∀ x, foldedSetIterable iter env x = pure x := by intro _; rfl) :
    EvM K A env Γ [(b, ks.map val)] (.ListComp (.Call (.Name "heappop" p) [.Name "heap" ph] [] pos) [⟨.Name x px, iter, [], 0⟩] scope cpos) (tL ((popsF m ks).map val)) [(b, (popN m ks).map val)] := by
  subst hm
  rw [popsF_eq, List.map_map]
  refine ev_mapM (Nf := fun i => [(b, (popN i ks).map val)]) [("heap", isv (.ref b))] _ co hx (fun t => ⟨?_, trivial⟩) hi (fun _ _ => rfl) (fun C i hi' => ?_) (by rw [sizeLine_eq]; omega) hs
  · show List.lookup _ _ = _
    rw [List.lookup_cons, show ((("heap" : Str)) == x) = false from by simpa using Ne.symm hxn]
    rfl
  · have e := popN_succ i ks
    show EvM K A _ _ [(b, (popN i ks).map val)] _ (dat (val (popF (popN i ks)).1)) [(b, (popN (i + 1) ks).map val)]
    rw [e]
    have := ev_callM (K := K) (A := A) (env := compEnvC scope cl C env) (Γ := (x, T i) :: [("heap", isv (.ref b))]) (N := [(b, (popN i ks).map val)]) (f := "heappop") (x := "heap") (p := p) (px := ph) (pos := pos) (es := []) (j := 0) (ev_glob hk (HasDef.name H.pop)) (HasDef.kept H.pop) (by
      rw [List.lookup_cons, show ((("heap" : Str)) == x) = false from by simpa using Ne.symm hxn]; rfl) rfl Evs.nil
      (pop_ok H.pop H.sd H.su H.len hc (popN_lt i ks hn) (fun q => by have := popN_len i ks; rw [q] at this; simp at this; omega) (by rw [popN_len]; omega) j A hA)
    exact this

theorem laid_ok {f : Addr} {val : Nat → PyData} {n : Nat} {ks : List Nat} {ws : List (List Nat)} (hd : K.β.HasDef dLaid f) (H : HeapFns K) (G : EncFns K) (hc : CmpLt K val n) (hn : ∀ k ∈ ks, k < n) (hz : ks.length ≤ 1000) (hl : ks.map val = ws.map fun w => .tuple [.str (encF iso w), wD w]) (hw : ∀ w ∈ ws, w.length ≤ 1000 ∧ ∀ o ∈ w, o < 256) (j : Nat) :
    Fn K (j + 4) f [tL (ws.map wD)] (tL ((popsF ks.length (heapifyF ks)).map val)) := by
  have hlen : ws.length = ks.length := by have := congrArg List.length hl; simpa using this.symm
  refine fn_of (Γ := [("words", tL (ws.map wD))]) hd rfl rfl rfl (by decide) (fun vals hv => ?_) ?_
  · cases hv with
    | @cons v1 _ _ _ _ hv =>
        cases hv
        exact ⟨[("words", v1)], fun _ _ _ => rfl, by rfl, fun L cd g hp => by
          cases hp with
          | cons p1 hp => exact ⟨.inl ⟨rfl, _, rfl, p1⟩, trivial⟩⟩
  · intro A L cd mu h₀ s Q hA z k
    refine x_assign_new (ds := ks.map val) z ?_ (.inr ⟨rfl, _, rfl⟩) fun b h1 t1 hb1 a1 => ?_
    · rw [hl, ← range_map_f (fun w => PyData.tuple [.str (encF iso w), wD w]) ws [], ← List.length_map (f := wD) (as := ws)]
      refine evf_map (cl := []) (Γc := []) _ ⟨rfl, by decide, rfl, by decide, (fun _ q => nomatch q), by decide, trivial⟩ rfl (fun t => trivial) (it_list hA (ev_name rfl) (by rw [sizeLine_eq]; simp; omega)) (fun C i hi => ?_) (by rw [sizeLine_eq]; simp; omega)
      have hi' : i < ws.length := by simpa using hi
      have e1 : (ws.map wD).getD i .none = wD (ws.getD i []) := getD_map [] hi'
      have hm : ws.getD i [] ∈ ws := by
        have : ws.getD i [] = ws[i] := by simp [List.getD, hi']
        rw [this]; exact List.getElem_mem hi'
      rw [e1]
      exact ev_tuple (ds := [.str (encF iso (ws.getD i [])), wD (ws.getD i [])]) (Evs.cons (ev_enc (hA.down (by omega) : AOk (0 + 1) A) G.he G.map G.bytes (ev_name rfl) (hw _ hm).2 (hw _ hm).1 rfl rfl) (Evs.cons (ev_name rfl) Evs.nil)) (by rw [sizeLine_eq]; simp)
    · refine x_expr a1 (ev_callM (j := 0) (ev_glob rfl (HasDef.name H.heapify)) (HasDef.kept H.heapify) rfl rfl Evs.nil (heapify_ok H.heapify H.sd H.su H.len H.reversed H.range hc hn (by omega) j A hA)) rfl fun h2 t2 a2 => ?_
      simp only [List.set_cons_zero] at a2
      refine x_retM a2 (t := tL ((popsF ks.length (heapifyF ks)).map val)) (N' := [(b, (popN ks.length (heapifyF ks)).map val)]) ?_ rfl fun v h3 t3 a3 p3 => k (.ret v) h3 t3 _ _ _ a3 (fun c q => List.mem_append_right _ q) p3
      have hh := heapifyF_len ks
      exact ev_pops (cl := [("heap", L + 1)]) (T := fun i => dat ((ws.map wD).getD i .none)) hh H hA hc (heapifyF_lt hn) (by omega) ⟨rfl, by decide, rfl, by decide, fun p hp => hp, by show List.Nodup [("heap" : Str)]; decide, ⟨⟨.inl rfl, rfl, .inl rfl, rfl⟩, trivial⟩⟩ rfl (by decide) rfl (by rw [← hlen, ← List.length_map (f := wD)]; exact it_list hA (ev_name rfl) (by rw [sizeLine_eq]; simp; omega))
end Mine

namespace Mine
variable {K : Wd}
def openGo (wr : Str) (w : List Nat) : List Nat → List Nat
  | [] => []
  | t :: r => if 0 < cmpI wr (encF iso (w.drop t ++ w.take t)) then [] else if cmpI wr (encF iso (w.drop t ++ w.take t)) = 0 then w.take t else openGo wr w r
def openF (wr : Str) (w : List Nat) : List Nat := openGo wr w (List.range' 1 w.length)
theorem take_lI (w : List Nat) (t : Nat) : (lI w).take t = lI (w.take t) := by simp [lI]
theorem drop_lI (w : List Nat) (t : Nat) : (lI w).drop t = lI (w.drop t) := by simp [lI]
theorem opening_ok {f fc : Addr} {wr : Str} {w : List Nat} (hd : K.β.HasDef dOpening f) (hcmp : K.β.HasDef dCmp fc) (hlen : Bn K.β "len" (.builtin "len")) (hran : Bn K.β "range" (.type "range")) (G : EncFns K) (hw : w.length ≤ 1000) (ho : ∀ o ∈ w, o < 256) (j : Nat) :
    Fn K (j + 2) f [tS wr, dat (wD w)] (dat (wD (openF wr w))) := by
  refine fn_of (Γ := [("written", tS wr), ("word", dat (wD w))]) hd rfl rfl rfl (by decide) (fun vals hv => ?_) ?_
  · cases hv with
    | @cons v1 _ _ _ _ hv =>
      cases hv with
      | @cons v2 _ _ _ _ hv =>
        cases hv
        exact ⟨[("written", v1), ("word", v2)], fun _ _ _ => rfl, by rfl, fun L cd g hp => by
          cases hp with
          | cons p1 hp => cases hp with
            | cons p2 hp => exact ⟨.inl ⟨rfl, _, rfl, p1⟩, .inl ⟨rfl, _, rfl, p2⟩, trivial⟩⟩
  · intro A L cd mu h₀ s Q hA z k
    have hlw : (lI w).length = w.length := by simp
    have hsz : (lI w).length ≤ sizeLine := by rw [sizeLine_eq, hlw]; omega
    -- what is left
    have key : ∀ t, t ≤ w.length → (∀ i, i < t → ¬ 0 < cmpI wr (encF iso (w.drop (1 + i) ++ w.take (1 + i))) ∧ cmpI wr (encF iso (w.drop (1 + i) ++ w.take (1 + i))) ≠ 0) → openF wr w = openGo wr w (List.range' (1 + t) (w.length - t)) := by
      intro t
      induction t with
      | zero => intro _ _; rfl
      | succ t ih =>
        intro ht hx
        rw [ih (by omega) fun i hi => hx i (by omega)]
        have e : w.length - t = (w.length - (t + 1)) + 1 := by omega
        rw [e, List.range'_succ, openGo, if_neg (hx t (by omega)).1, if_neg (hx t (by omega)).2]
        rfl
    refine x_forJ (n := w.length) (T := fun i => tI (1 + i)) (X := [L]) (fun t => [("written", tS wr), ("word", dat (wD w))]) (fun t => [("turn", tI (1 + t)), ("written", tS wr), ("word", dat (wD w))]) (fun _ => [])
      (fun t => ∀ i, i < t → ¬ 0 < cmpI wr (encF iso (w.drop (1 + i) ++ w.take (1 + i))) ∧ cmpI wr (encF iso (w.drop (1 + i) ++ w.take (1 + i))) ≠ 0) z
      (it_range (a := 1) (b := ((lI w).length : Int) + 1) (n := w.length) hA (ev_call (ev_blt rfl hran.g hran.b) (.inr (.inl ⟨_, rfl⟩)) (Evs.cons ev_int (Evs.cons (ev_bin (ev_call (ev_blt rfl hlen.g hlen.b) (.inl ⟨_, rfl⟩) (Evs.cons (ev_name rfl) Evs.nil) (cl_len hsz)) ev_int op_add) Evs.nil)) cl_range2) (.inl (by rw [hlw]; omega)) (by omega) (by omega) (by omega) (by rw [hlw]; omega) (by rw [sizeLine_eq]; omega))
      ⟨rfl, rfl, trivial⟩ (fun i hi => absurd hi (Nat.not_lt_zero _)) rfl (fun _ _ => rfl) (fun b hb => by rw [List.mem_singleton.mp hb]; exact own_locals) (fun i => tg_name rfl) (fun t mu' h2 t2 E' ht hJ hmu a2 => ?_) (fun h2 t2 hJ a2 => ?_)
    · have et : ((1 : Int) + (t : Int)) = ((1 + t : Nat) : Int) := by omega
      rw [et] at a2
      have ev1 : (lI w).drop (Int.toNat ((1 + t : Nat) : Int)) ++ (lI w).take (Int.toNat ((1 + t : Nat) : Int)) = lI (w.drop (1 + t) ++ w.take (1 + t)) := by rw [Int.toNat_natCast, take_lI, drop_lI]; simp [lI]
      have hlen2 : (w.drop (1 + t) ++ w.take (1 + t)).length = w.length := by simp; omega
      have hmem2 : ∀ o ∈ w.drop (1 + t) ++ w.take (1 + t), o < 256 := fun o hq => by
        rcases List.mem_append.mp hq with q | q
        · exact ho o (List.mem_of_mem_drop q)
        · exact ho o (List.mem_of_mem_take q)
      have kr := key t (by omega) hJ
      have er : w.length - t = (w.length - (t + 1)) + 1 := by omega
      rw [er, List.range'_succ, openGo] at kr
      refine x_assign a2.here (ev_call (ev_glob rfl (HasDef.name hcmp)) (HasDef.kept hcmp) (Evs.cons (ev_name rfl) (Evs.cons (ev_enc (hA.down (by omega) : AOk (0 + 1) A) G.he G.map G.bytes (Ev.as (ev_bin (ev_from (ev_name rfl) (ev_name rfl) (by omega) hsz) (ev_upto (ev_name rfl) (ev_name rfl) (by omega) hsz) (op_addl (by rw [sizeLine_eq]; simp; omega))) (by rw [ev1])) hmem2 (by rw [hlen2]; exact hw) rfl rfl) Evs.nil)) (cmp_ok hcmp j A hA)) (.inl rfl) fun h3 t3 a3 => ?_
      refine x_if a3 (tr_cmp (ev_name rfl) ev_int op_gt) (fun hb h4 t4 a4 => ?_) (fun hb h4 t4 a4 => x_nil ?_)
      · refine x_ret a4 (ev_list (ds := []) Evs.nil (by rw [sizeLine_eq]; simp)) fun v h5 t5 a5 p5 => k (.ret v) h5 t5 _ _ _ (a2.join a5) hmu ?_
        rw [kr, if_pos (of_decide_eq_true hb)]
        exact p5
      · have hb' := of_decide_eq_false hb
        refine x_if a4 (tr_cmp (ev_name rfl) ev_int op_eq) (fun hc h5 t5 a5 => ?_) (fun hc h5 t5 a5 => x_nil (x_nil ?_))
        · refine x_ret a5 (ev_upto (ev_name rfl) (ev_name rfl) (by omega) hsz) fun v h6 t6 a6 p6 => k (.ret v) h6 t6 _ _ _ (a2.join a6) hmu ?_
          rw [kr, if_neg hb', if_pos (of_decide_eq_true hc)]
          rw [Int.toNat_natCast, take_lI] at p6
          exact p6
        · refine ⟨h5, t5, rfl, fun i hi => ?_, At.sub a5 ⟨rfl, rfl, trivial⟩⟩
          rcases Nat.lt_succ_iff_lt_or_eq.mp hi with q | q
          · exact hJ i q
          · subst q; exact ⟨hb', of_decide_eq_false hc⟩
    · refine x_ret a2 (ev_list (ds := []) Evs.nil (by rw [sizeLine_eq]; simp)) fun v h5 t5 a5 p5 => k (.ret v) h5 t5 _ _ _ a5 (fun _ q => q) ?_
      rw [key w.length (Nat.le_refl _) hJ, Nat.sub_self]
      exact p5

def rowF (l : List (Str × List Nat)) : List Nat := l.flatMap fun p => openF p.1 p.2
abbrev pD (p : Str × List Nat) : PyData := .tuple [.str p.1, wD p.2]
theorem row_ok {f fo fc : Addr} {l : List (Str × List Nat)} (hd : K.β.HasDef dRow f) (hop : K.β.HasDef dOpening fo) (hcmp : K.β.HasDef dCmp fc) (hlen : Bn K.β "len" (.builtin "len")) (hran : Bn K.β "range" (.type "range")) (G : EncFns K) (hl : l.length ≤ 1000) (hw : ∀ p ∈ l, p.2.length ≤ 1000 ∧ ∀ o ∈ p.2, o < 256)
    (hz : ∀ t, t < l.length → (rowF (l.take t)).length + (openF (l.getD t default).1 (l.getD t default).2).length ≤ sizeLine) (j : Nat) :
    Fn K (j + 3) f [tL (l.map pD)] (dat (wD (rowF l))) := by
  refine fn_of (Γ := [("laid", tL (l.map pD))]) hd rfl rfl rfl (by decide) (fun vals hv => ?_) ?_
  · cases hv with
    | @cons v1 _ _ _ _ hv =>
        cases hv
        exact ⟨[("laid", v1)], fun _ _ _ => rfl, by rfl, fun L cd g hp => by
          cases hp with
          | cons p1 hp => exact ⟨.inl ⟨rfl, _, rfl, p1⟩, trivial⟩⟩
  · intro A L cd mu h₀ s Q hA z k
    refine x_assign z (ev_list (ds := []) Evs.nil (by rw [sizeLine_eq]; simp)) (.inl rfl) fun h1 t1 a1 => ?_
    have hlen' : (l.map pD).length = l.length := by simp
    refine x_for (n := (l.map pD).length) (T := fun i => tT [.str (l.getD i default).1, wD (l.getD i default).2]) (X := [L]) (fun t => [("row", dat (wD (rowF (l.take t)))), ("laid", tL (l.map pD))])
      (fun t => [("word", dat (wD (l.getD t default).2)), ("written", tS (l.getD t default).1), ("row", dat (wD (rowF (l.take t)))), ("laid", tL (l.map pD))]) (fun _ => []) a1
      ((it_list hA (ev_name rfl) (by rw [sizeLine_eq]; simp; omega)).congr fun i hi => by rw [getD_map default (by simpa using hi)])
      ⟨rfl, rfl, trivial⟩ rfl (fun _ _ => rfl) (fun b hb => by rw [List.mem_singleton.mp hb]; exact own_locals) (fun i => tg_pair hA rfl rfl) (fun t mu' h2 t2 E' ht hmu a2 => ?_) (fun h2 t2 a2 => ?_)
    · have ht' : t < l.length := by simpa using ht
      have hm : l.getD t default ∈ l := by
        have : l.getD t default = l[t] := by simp [List.getD, ht']
        rw [this]; exact List.getElem_mem ht'
      have e : lI (rowF (l.take t)) ++ lI (openF (l.getD t default).1 (l.getD t default).2) = lI (rowF (l.take (t + 1))) := by
        have : l.take (t + 1) = l.take t ++ [l.getD t default] := by
          rw [List.take_succ_eq_append_getElem ht']
          simp [List.getD, ht']
        rw [this]
        simp [rowF, lI]
      refine x_assign a2.here (Ev.as (ev_bin (ev_name rfl) (ev_call (ev_glob rfl (HasDef.name hop)) (HasDef.kept hop) (Evs.cons (ev_name rfl) (Evs.cons (ev_name rfl) Evs.nil)) (opening_ok hop hcmp hlen hran G (hw _ hm).1 (hw _ hm).2 j A hA)) (op_addl (by have := hz t ht'; simpa using this))) (by rw [e])) (.inl rfl) fun h3 t3 a3 => x_nil ⟨h3, t3, rfl, At.sub a3 ⟨rfl, rfl, trivial⟩⟩
    · rw [hlen', List.take_length] at a2
      exact x_ret a2 (ev_name rfl) fun v h3 t3 a3 p3 => k (.ret v) h3 t3 _ _ _ a3 (fun _ q => q) p3
end Mine

namespace Mine
variable {K : Wd}
theorem RD.unique {h : Heap} {v : Value} {d d' : PyData} (x : RD h v d) (y : RD h v d') : d = d' := by
  obtain ⟨as, r⟩ := x.reads; obtain ⟨bs, q⟩ := y.reads
  exact (PySem.Reads.unique r _ _ q).1
theorem eqvAll_lI : ∀ (u v : List Nat), PyData.eqvAll (lI u) (lI v) = decide (u = v)
  | [], [] => by simp [PyData.eqvAll]
  | [], b :: v => by simp [PyData.eqvAll]
  | a :: u, [] => by simp [PyData.eqvAll]
  | a :: u, b :: v => by
    have ih := eqvAll_lI u v
    simp only [lI, List.map_cons, PyData.eqvAll] at ih ⊢
    rw [ih]
    have e : (((a : Int)) == (b : Int)) = decide (a = b) := by
      by_cases h : a = b
      · simp [h]
      · have : (a : Int) ≠ b := by omega
        simp [h, this]
    simp [PyData.eqv, e]
theorem eqv_wD (u v : List Nat) : PyData.eqv (wD u) (wD v) = decide (u = v) := by simp only [PyData.eqv]; exact eqvAll_lI u v
theorem canLay_lI (l : List Nat) : PyData.canLayAll0 (lI l) = true := by
  induction l with
  | nil => rfl
  | cons n l ih => simp only [lI, List.map_cons, PyData.canLayAll0] at ih ⊢; rw [ih]; rfl
theorem depth_lI (l : List Nat) : PyData.depthAll (lI l) = 0 := by
  induction l with
  | nil => rfl
  | cons n l ih => simp only [lI, List.map_cons, PyData.depthAll] at ih ⊢; rw [ih]; rfl
theorem shaped_wD (w : List Nat) : SeqAt.shaped (wD w) = true := by
  unfold SeqAt.shaped
  simp only [PyData.canLay0, PyData.depth, canLay_lI, depth_lI]
  decide
section
variable {A : Around} {env : Env} {Γ : Gam} {N : Led} {mu : List Addr} {s : Shared}
theorem op_mull {ds : List PyData} {x : Int} (hlo : -(2 ^ 62) ≤ x) (hhi : x < 2 ^ 62) (hsz : ds.length * x.toNat ≤ 1000) : Op2 K A (binaryOp .Mult) (tL ds) (tI x) (tL (List.replicate x.toNat ds).flatten) := fun mu s v u _ hl p q => by
  obtain ⟨l, its, rfl, i1, r1⟩ := RD.list_inv p
  obtain ⟨t, rfl⟩ := RD.int_inv q
  obtain ⟨k, ho⟩ := plain_ext i1 (fz_ext _ _)
  have es : its.size = ds.length := by have := rds_length r1; simpa using this
  have hsz' : its.size * x.toNat ≤ 1000 := by rw [es]; exact hsz
  refine Gives.of fun Q kk => wpAny_binaryOp_repeat_ref (T := "list") (U := "int") (by decide) ⟨_, ho, rfl⟩ (fun s' => typeIs_int s' x t) noFill_list_mul PySem.F.fills_int_mul PySem.F.slot_int_rmul repeat_list PySem.F.slot_int_index.lookup
    (call_meets PySem.F.slot_int_rmul (typeIs_int s x t) PySem.F.entry_int_rmul (PySem.F.args_int_rmul_2 _ _) (lm_int_rmul_list_any x t l its k none #[])
      ⟨ho, rfl, ⟨_, ho, rfl⟩, call_meets PySem.F.slot_list_mul ⟨_, ho, rfl⟩ PySem.F.entry_list_mul (PySem.F.args_list_mul_2 _ _)
        (lm_list_mul_any l its k none #[] x t (by simp [Builtin.List.listFitsIndex]; omega) (by omega) (by simp [Builtin.List.listTooLong, sizeLine]; omega))
        ⟨ho, ?_⟩⟩)
  rw [listMul_foldl_if]
  refine kk _ _ _ (Ext.push _ _) (rd_push_list (mu := mu) hl ?_)
  generalize x.toNat = n
  induction n with
  | zero => exact .nil
  | succ n ih => rw [List.replicate_succ, List.replicate_succ, List.flatten_cons, List.flatten_cons]; exact All2.append r1 ih
theorem op_pow {a b : Nat} (ha : 2 ≤ a) (ha' : a ≤ 10) (hb : 1 ≤ b) (hb' : b ≤ 10) : Op2 K A (binaryOp .Pow) (tI a) (tI b) (tI ((a ^ b : Nat) : Int)) := fun mu s v u _ _ p q => by
  obtain ⟨t, rfl⟩ := RD.int_inv p; obtain ⟨t', rfl⟩ := RD.int_inv q
  refine gives_here fun Q k => AutoIntOps.pow_4 (by omega) (by simp; omega) (by simp; omega) (by intro h; have := eq_of_beq h; omega) ?_ ?_
  · have : ∀ a, a ≤ 10 → ∀ b, b ≤ 10 → ¬ Builtin.Int.intTooBig (((Builtin.Int.intBits ((a : Nat) : Int) : Nat) : Int) * ((b : Nat) : Int)) = true := by decide
    exact this a ha' b hb'
  · have e : ((a : Int) ^ ((b : Int)).toNat) = ((a ^ b : Nat) : Int) := by simp
    rw [e]
    exact k _ _ (RD.int _ _ _)
theorem tr_notin_mut {x : Str} {p pos : Pos} {l : Expr} {a : Addr} {j k : Nat} {ds : List PyData} {d : PyData} (hA : AOk k A) (y : Ev K A env Γ N l (dat d)) (hx : Γ.lookup x = some (isv (.ref a))) (hN : N[j]? = some (a, ds)) (hd : SeqAt.shaped d = true) (hds : ∀ e ∈ ds, SeqAt.shaped e = true)
    (hn : (x == ("__classdict__" : Str)) = false := by decide) (hb : (x == ("__debug__" : Str)) = false := by decide) : Tr K A env Γ N (.Compare l [.NotIn] [.Name x p] pos) (!ds.any fun e => PyData.eqv e d) := fun mu s S => by
  refine wpAny_isTrue_Compare1 (y.use S fun v h1 k1 e1 p1 => (ev_name (t := isv (.ref a)) hx hn hb : Ev K A env Γ N (.Name x p) _).use (s := Sx s h1 k1) (S.ext e1) fun u h2 k2 e2 p2 => ?_) (by with_unfolding_all rfl)
  have p2 : u = .ref a := p2
  subst p2
  have S2 := S.ext (e1.trans e2)
  obtain ⟨its, pl, r⟩ := S2.lists _ (List.mem_of_getElem? hN)
  have p1' : RD (fz h2 mu) v d := RD.mono p1 (fz_mono mu e2)
  let e : Value → Bool := fun z => @decide (∃ dz, RD (fz h2 mu) z dz ∧ PyData.eqv dz d = true) (Classical.propDecidable _)
  have he : ∀ z dz, RD (fz h2 mu) z dz → e z = PyData.eqv dz d := fun z dz hz => by
    cases hq : PyData.eqv dz d with
    | true => exact @decide_eq_true _ (Classical.propDecidable _) ⟨dz, hz, hq⟩
    | false =>
      refine @decide_eq_false _ (Classical.propDecidable _) ?_
      rintro ⟨d', h', q'⟩
      rw [RD.unique hz h', q'] at hq
      cases hq
  have any_eq : ∀ {vs : List Value} {ds : List PyData}, RDs (fz h2 mu) vs ds → vs.any e = ds.any fun x => PyData.eqv x d := by
    intro vs ds hr
    induction hr with
    | nil => rfl
    | cons h _ ih => rw [List.any_cons, List.any_cons, he _ _ h, ih]
  refine SeqAt.notIn_listAt (s := Sx s h2 k2) e pl.isList (fun z hz => ?_) ?_
  · obtain ⟨i, hi, rfl⟩ := Array.getElem_of_mem hz
    obtain ⟨dz, hdz, rz⟩ := All2.get' r i its[i] (by simp [hi])
    rw [he _ _ rz]
    obtain ⟨as, ra⟩ := (RD.mono rz (fz_ext _ _)).reads
    obtain ⟨bs, rb⟩ := (RD.mono p1' (fz_ext _ _)).reads
    exact keq_at (s := Sx s h2 k2) ra rb (hds _ (List.mem_of_getElem? hdz)) hd (by have := hA.u; show A.units + 1 + 64 < _; omega)
  · refine wpAny_truthy_bool ⟨?_, h2, k2, rfl, e1.trans e2⟩
    rw [← any_eq r, Array.any_toList]
end
/-- a list of the ledger is given out -/
theorem At.thaw {h₀ h : Heap} {D : List Addr} {env : Env} {Γ Γ' : Gam} {N : Led} {mu : List Addr} {b : Addr} {ds : List PyData} (z : At K h₀ D env Γ ((b, ds) :: N) ([b] ++ mu) h) (hb : b ∉ mu) (hs : Sub Γ' Γ) : At K h₀ D env Γ' N mu h ∧ RD (fz h mu) (.ref b) (.list ds) := by
  have z' := (z.sub hs).dropN (List.sublist_cons_self _ _)
  have hbo : b ∉ own env N := fun q => by
    have nd := z.sat.ndup
    unfold own at nd q
    rw [List.map_cons] at nd
    obtain ⟨h1, h2, h3⟩ := List.nodup_append.mp nd
    rcases List.mem_append.mp q with q | q
    · exact h3 b q b List.mem_cons_self rfl
    · exact (List.nodup_cons.mp h2).1 q
  refine ⟨z'.less (fun c q => List.mem_append_right _ q) (fun c q => ?_), ?_⟩
  · rcases List.mem_append.mp (z'.sat.hid c q) with w | w
    · rw [List.mem_singleton.mp w] at q; exact absurd q hbo
    · exact w
  · obtain ⟨its, ⟨n, e⟩, r⟩ := z.sat.lists (b, ds) (by simp)
    exact RD.list (its := its) ⟨n, fz_of e hb⟩ (RDs.mono r (fz_less fun c q => List.mem_append_right _ q))

theorem range_filter_map {α β : Type} (p : α → Bool) (f : α → β) (l : List α) (d : α) : ((List.range l.length).filter fun i => p (l.getD i d)).map (fun i => f (l.getD i d)) = (l.filter p).map f := by
  have h1 : l = (List.range l.length).map fun i => l.getD i d := by
    have := range_map_f id l d
    simpa using this.symm
  conv => rhs; rw [h1, List.filter_map, List.map_map]
  rfl
theorem snoc_lI (u : List Nat) (n : Nat) : lI u ++ [PyData.int (n : Int)] = lI (u ++ [n]) := by simp [lI]
structure GSt where
  ahead : List Nat
  come : List (List Nat)
  row : List Nat
def gOpen (ls : List Nat) (g : GSt) : List Nat := ls.filter fun l => !g.come.any fun e => decide (e = g.ahead ++ [l])
def gStep (ls : List Nat) (g : GSt) : GSt :=
  let least := (gOpen ls g).getD 0 0
  ⟨(g.ahead ++ [least]).drop 1, g.come ++ [g.ahead ++ [least]], g.row ++ [least]⟩
def gRun (ls : List Nat) (g : GSt) : Nat → GSt
  | 0 => g
  | n + 1 => gStep ls (gRun ls g n)
def gStart (ls : List Nat) (size : Nat) : GSt := ⟨List.replicate (size - 1) (ls.getD (ls.length - 1) 0), [], []⟩
def greedyF (ls : List Nat) (size : Nat) : List Nat := (gRun ls (gStart ls size) (ls.length ^ size)).row
theorem gRun_len (ls : List Nat) (size : Nat) (hs : 1 ≤ size) : ∀ t, (gRun ls (gStart ls size) t).ahead.length = size - 1 ∧ (gRun ls (gStart ls size) t).come.length = t ∧ (gRun ls (gStart ls size) t).row.length = t
  | 0 => by simp [gRun, gStart]
  | t + 1 => by
    obtain ⟨h1, h2, h3⟩ := gRun_len ls size hs t
    refine ⟨?_, ?_, ?_⟩ <;> simp [gRun, gStep, h1, h2, h3]
theorem greedy_ok {f : Addr} {ls : List Nat} {size : Nat} (hd : K.β.HasDef dGreedy f) (hlen : Bn K.β "len" (.builtin "len")) (hran : Bn K.β "range" (.type "range")) (hl : 2 ≤ ls.length) (hl' : ls.length ≤ 10) (hs : 1 ≤ size) (hs' : size ≤ 10) (hpw : ls.length ^ size ≤ 1000)
    (hop : ∀ t, t < ls.length ^ size → gOpen ls (gRun ls (gStart ls size) t) ≠ []) (j : Nat) : Fn K (j + 1) f [dat (wD ls), tI size] (dat (wD (greedyF ls size))) := by
  refine fn_of (Γ := [("letters", dat (wD ls)), ("size", tI size)]) hd rfl rfl rfl (by decide) (fun vals hv => ?_) ?_
  · cases hv with
    | @cons v1 _ _ _ _ hv =>
      cases hv with
      | @cons v2 _ _ _ _ hv =>
        cases hv
        exact ⟨[("letters", v1), ("size", v2)], fun _ _ _ => rfl, by rfl, fun L cd g hp => by
          cases hp with
          | cons p1 hp => cases hp with
            | cons p2 hp => exact ⟨.inl ⟨rfl, _, rfl, p1⟩, .inl ⟨rfl, _, rfl, p2⟩, trivial⟩⟩
  · intro A L cd mu h₀ s Q hA z k
    have hsz : (lI ls).length ≤ sizeLine := by rw [sizeLine_eq]; simp; omega
    have e0 : ((-1 : Int) + ((lI ls).length : Int)).toNat = ls.length - 1 := by simp; omega
    have elast : (lI ls)[((-1 : Int) + ((lI ls).length : Int)).toNat]? = some (.int (ls.getD (ls.length - 1) 0 : Nat)) := by
      rw [e0, List.getElem?_map, List.getElem?_eq_getElem (by omega)]
      simp [List.getD, (by omega : ls.length - 1 < ls.length)]
    have es : ((size : Int) - 1).toNat = size - 1 := by omega
    have eah : (List.replicate ((size : Int) - 1).toNat [PyData.int (ls.getD (ls.length - 1) 0 : Nat)]).flatten = lI (gStart ls size).ahead := by
      rw [es]
      simp only [gStart, lI, List.map_replicate]
      generalize size - 1 = n
      induction n with
      | zero => rfl
      | succ n ih => rw [List.replicate_succ, List.replicate_succ, List.flatten_cons, ih]; rfl
    refine x_assign z (Ev.as (ev_bin (ev_list (ds := [.int (ls.getD (ls.length - 1) 0 : Nat)]) (Evs.cons (ev_sub (ev_name rfl) (ev_neg ev_int) (op_item_neg (fun _ _ => rfl) (by omega) (by simp; omega) (by omega) elast)) Evs.nil) (by rw [sizeLine_eq]; simp)) (ev_bin (ev_name rfl) ev_int op_sub) (op_mull (by omega) (by omega) (by simp; omega))) (by rw [eah])) (.inr ⟨rfl, _, rfl⟩) fun h1 t1 a1 => ?_
    refine x_assign_new (ds := []) a1 (evf_list Evs.nil (by rw [sizeLine_eq]; simp)) (.inr ⟨rfl, _, rfl⟩) fun bc h2 t2 hbc a2 => ?_
    refine x_assign_new (ds := []) a2 (evf_list Evs.nil (by rw [sizeLine_eq]; simp)) (.inl rfl) fun br h3 t3 hbr a3 => ?_
    have hne : (br, bc) ≠ (bc, bc) := fun q => hbr (by have := (Prod.mk.inj q).1; simp [this])
    refine x_for (n := ls.length ^ size) (T := fun i => tI (0 + i)) (X := [L]) (fun t => [("ahead", dat (wD (gRun ls (gStart ls size) t).ahead)), ("row", isv (.ref br)), ("come", isv (.ref bc)), ("letters", dat (wD ls)), ("size", tI size)])
      (fun t => [("step", tI (0 + t)), ("ahead", dat (wD (gRun ls (gStart ls size) t).ahead)), ("row", isv (.ref br)), ("come", isv (.ref bc)), ("letters", dat (wD ls)), ("size", tI size)])
      (fun t => [(br, lI (gRun ls (gStart ls size) t).row), (bc, (gRun ls (gStart ls size) t).come.map wD)]) a3
      (it_range (a := 0) (b := ((ls.length ^ size : Nat) : Int)) (n := ls.length ^ size) hA (ev_call (ev_blt rfl hran.g hran.b) (.inr (.inl ⟨_, rfl⟩)) (Evs.cons (ev_bin (Ev.as (ev_call (ev_blt rfl hlen.g hlen.b) (.inl ⟨_, rfl⟩) (Evs.cons (ev_name rfl) Evs.nil) (cl_len hsz)) (show _ = tI (ls.length : Nat) by simp)) (ev_name rfl) (op_pow hl hl' hs hs')) Evs.nil) cl_range1) (.inl (by omega)) (by omega) (by omega) (by omega) (by omega) (by rw [sizeLine_eq]; omega))
      ⟨rfl, rfl, rfl, rfl, rfl, trivial⟩ rfl (fun _ _ => rfl) (fun b hb => by rw [List.mem_singleton.mp hb]; exact own_locals) (fun i => tg_name rfl) (fun t mu' h4 t4 E' ht hmu a4 => ?_) (fun h4 t4 a4 => ?_)
    · obtain ⟨g1, g2, g3⟩ := gRun_len ls size hs t
      have gs : gRun ls (gStart ls size) (t + 1) = gStep ls (gRun ls (gStart ls size) t) := rfl
      have hop' := hop t ht
      generalize gRun ls (gStart ls size) t = g at a4 g1 g2 g3 gs hop'
      rw [gs]
      have efil : ((List.range (lI ls).length).filter fun i => !(g.come.map wD).any fun e => PyData.eqv e (wD (g.ahead ++ [ls.getD i 0]))).map (fun i => PyData.int (ls.getD i 0 : Nat)) = lI (gOpen ls g) := by
        have := range_filter_map (fun l => !(g.come.map wD).any fun e => PyData.eqv e (wD (g.ahead ++ [l]))) (fun l => PyData.int ((l : Nat) : Int)) ls 0
        rw [List.length_map, this]
        unfold gOpen lI
        congr 2
        funext l
        rw [List.any_map]
        congr 2
        funext e
        exact eqv_wD _ _
      have hpos : 0 < (gOpen ls g).length := List.length_pos_iff.mpr hop'
      have e0' : (lI (gOpen ls g))[(0 : Int).toNat]? = some (.int ((gOpen ls g).getD 0 0 : Nat)) := by
        show (lI (gOpen ls g))[0]? = _
        rw [List.getElem?_map, List.getElem?_eq_getElem hpos]
        simp [List.getD, hpos]
      have hahl : (lI g.ahead).length = g.ahead.length := by simp
      refine x_assign a4.here (ev_sub (Ev.as (ev_filter (cl := [("come", L + 2), ("ahead", L + 1)]) (Γc := [("ahead", dat (wD g.ahead)), ("come", isv (.ref bc))]) (fun i => !(g.come.map wD).any fun e => PyData.eqv e (wD (g.ahead ++ [ls.getD i 0]))) (fun i => .int (ls.getD i 0 : Nat)) ⟨rfl, by decide, rfl, by decide, fun p hp => hp, by show List.Nodup [("come" : Str), "ahead"]; decide, ⟨⟨.inl rfl, rfl, .inl rfl, rfl⟩, ⟨.inl rfl, rfl, .inl rfl, rfl⟩, trivial⟩⟩ rfl (fun t => ⟨rfl, rfl, trivial⟩)
        ((it_list hA (ev_name rfl) hsz).congr fun i hi => by rw [getD_map 0 (by simpa using hi)]) (fun C i hi => tr_notin_mut (j := 1) hA (Ev.as (ev_bin (ev_name rfl) (ev_list (ds := [.int (ls.getD i 0 : Nat)]) (Evs.cons (ev_name rfl) Evs.nil) (by rw [sizeLine_eq]; simp)) (op_addl (by rw [sizeLine_eq]; simp; omega))) (show _ = dat (wD (g.ahead ++ [ls.getD i 0])) by rw [snoc_lI])) rfl rfl (shaped_wD _) (fun e he => by obtain ⟨w, _, rfl⟩ := List.mem_map.mp he; exact shaped_wD w)) (fun C i hi => ev_name rfl) hsz) (by rw [efil])) ev_int (op_item plain_int (by omega) (by omega) e0')) (.inl rfl) fun h5 t5 a5 => ?_
      refine x_expr a5 (ev_append (j := 1) (d := wD (g.ahead ++ [(gOpen ls g).getD 0 0])) rfl rfl (Ev.as (ev_bin (ev_name rfl) (ev_list (ds := [.int ((gOpen ls g).getD 0 0 : Nat)]) (Evs.cons (ev_name rfl) Evs.nil) (by rw [sizeLine_eq]; simp)) (op_addl (by rw [sizeLine_eq]; simp; omega))) (by rw [snoc_lI])) (by rw [sizeLine_eq]; simp; omega)) rfl fun h6 t6 a6 => ?_
      refine x_expr a6 (ev_append (j := 0) (d := .int ((gOpen ls g).getD 0 0 : Nat)) rfl rfl (ev_name rfl) (by rw [sizeLine_eq]; simp; omega)) rfl fun h7 t7 a7 => ?_
      refine x_assign a7 (ev_from (ev_bin (ev_name rfl) (ev_list (ds := [.int ((gOpen ls g).getD 0 0 : Nat)]) (Evs.cons (ev_name rfl) Evs.nil) (by rw [sizeLine_eq]; simp)) (op_addl (by rw [sizeLine_eq]; simp; omega))) ev_int (by omega) (by rw [sizeLine_eq]; simp; omega)) (.inr ⟨rfl, _, rfl⟩) fun h8 t8 a8 => x_nil ⟨h8, t8, rfl, ?_⟩
      have e1 : (lI g.ahead ++ [PyData.int ((gOpen ls g).getD 0 0 : Nat)]).drop (1 : Int).toNat = lI (gStep ls g).ahead := by
        show (lI g.ahead ++ [PyData.int ((gOpen ls g).getD 0 0 : Nat)]).drop 1 = _
        have : lI g.ahead ++ [PyData.int ((gOpen ls g).getD 0 0 : Nat)] = lI (g.ahead ++ [(gOpen ls g).getD 0 0]) := by simp [lI]
        rw [this, drop_lI]
        rfl
      have e2 : [(br, lI g.row ++ [PyData.int ((gOpen ls g).getD 0 0 : Nat)]), (bc, g.come.map wD ++ [wD (g.ahead ++ [(gOpen ls g).getD 0 0])])] = [(br, lI (gStep ls g).row), (bc, (gStep ls g).come.map wD)] := by simp [gStep, lI]
      rw [e1] at a8
      simp only [List.set_cons_zero, List.set_cons_succ] at a8
      rw [e2] at a8
      exact At.sub a8 ⟨rfl, rfl, rfl, rfl, rfl, trivial⟩
    · refine x_ret a4 (ev_name rfl) fun v h5 t5 a5 p5 => ?_
      have p5 : v = .ref br := p5
      subst p5
      obtain ⟨a6, r6⟩ := At.thaw (Γ' := []) a5 hbr trivial
      exact k (.ret _) h5 t5 _ _ _ a6 (fun c q => List.mem_append_right _ q) r6
end Mine

namespace Mine
variable {K : Wd}
theorem pushF_len (l : List Nat) (x : Nat) : (pushF l x).length = l.length + 1 := by unfold pushF; rw [siftdownF_length]; simp
theorem pushF_lt {n : Nat} {l : List Nat} {x : Nat} (hl : ∀ k ∈ l, k < n) (hx : x < n) : ∀ k ∈ pushF l x, k < n := by
  unfold pushF
  refine siftdownF_lt (by simp) fun k hk => ?_
  rcases List.mem_append.mp hk with q | q
  · exact hl k q
  · rw [List.mem_singleton.mp q]; exact hx
def pushN (r : Nat → Nat) (a : Nat) : Nat → List Nat
  | 0 => []
  | t + 1 => pushF (pushN r a t) (r (a + t))
theorem pushN_len (r : Nat → Nat) (a : Nat) : ∀ t, (pushN r a t).length = t
  | 0 => rfl
  | t + 1 => by rw [pushN, pushF_len, pushN_len r a t]
theorem pushN_lt {n : Nat} (r : Nat → Nat) (a m : Nat) (h : ∀ t, t < m → r (a + t) < n) : ∀ t, t ≤ m → ∀ k ∈ pushN r a t, k < n
  | 0, _ => fun k hk => by simp [pushN] at hk
  | t + 1, ht => by rw [pushN]; exact pushF_lt (pushN_lt r a m h t (by omega)) (h t (by omega))
def wAt (row : List Nat) (size p : Nat) : List Nat := (List.range size).map fun s => row.getD ((p + s) % row.length) 0
theorem getD_mem_lt {n : Nat} {row : List Nat} (hn : 0 < n) (h : ∀ o ∈ row, o < n) (i : Nat) : row.getD i 0 < n := by
  by_cases hi : i < row.length
  · have : row.getD i 0 = row[i] := by simp [List.getD, hi]
    rw [this]; exact h _ (List.getElem_mem hi)
  · have : row.getD i 0 = 0 := by simp [List.getD, Nat.not_lt.mp hi]
    rw [this]; exact hn

theorem off_ok {f : Addr} {row : List Nat} {size a m : Nat} {val : Nat → PyData} {n : Nat} {r : Nat → Nat} (hd : K.β.HasDef dOff f) (H : HeapFns K) (G : EncFns K) (hc : CmpLt K val n) (hrow : 0 < row.length) (hrow' : row.length ≤ 1000) (ho : ∀ o ∈ row, o < 256) (hs : size ≤ 1000) (ha : a ≤ 1000) (hm : m ≤ 1000)
    (hr : ∀ t, t < m → r (a + t) < n ∧ val (r (a + t)) = .str (encF iso (wAt row size (a + t)))) (j : Nat) :
    Fn K (j + 4) f [dat (wD row), tI size, tR a ((a + m : Nat) : Int)] (tL ((popsF m (pushN r a m)).map val)) := by
  refine fn_of (Γ := [("row", dat (wD row)), ("size", tI size), ("places", tR a ((a + m : Nat) : Int))]) hd rfl rfl rfl (by decide) (fun vals hv => ?_) ?_
  · cases hv with
    | @cons v1 _ _ _ _ hv =>
      cases hv with
      | @cons v2 _ _ _ _ hv =>
        cases hv with
        | @cons v3 _ _ _ _ hv =>
        cases hv
        exact ⟨[("row", v1), ("size", v2), ("places", v3)], fun _ _ _ => rfl, by rfl, fun L cd g hp => by
          cases hp with
          | cons p1 hp => cases hp with
            | cons p2 hp => cases hp with
              | cons p3 hp => exact ⟨.inr ⟨rfl, _, _, rfl, rfl, p1⟩, .inl ⟨rfl, _, rfl, p2⟩, .inl ⟨rfl, _, rfl, p3⟩, trivial⟩⟩
  · intro A L cd mu h₀ s Q hA z k
    have hsz : (lI row).length ≤ sizeLine := by rw [sizeLine_eq]; simp; omega
    refine x_assign_new (ds := []) z (evf_list Evs.nil (by rw [sizeLine_eq]; simp)) (.inr ⟨rfl, _, rfl⟩) fun b h1 t1 hb a1 => ?_
    refine x_for (n := m) (T := fun i => tI (((a : Nat) : Int) + i)) (X := [L + 3]) (fun t => [("heap", isv (.ref b)), ("row", dat (wD row)), ("size", tI size), ("places", tR a ((a + m : Nat) : Int))])
      (fun t => [("place", tI (((a : Nat) : Int) + t)), ("heap", isv (.ref b)), ("row", dat (wD row)), ("size", tI size), ("places", tR a ((a + m : Nat) : Int))]) (fun t => [(b, (pushN r a t).map val)]) a1
      (it_range (n := m) hA (ev_name rfl) (.inl (by omega)) (by omega) (by omega) (by omega) (by omega) (by rw [sizeLine_eq]; omega)) ⟨rfl, rfl, rfl, rfl, trivial⟩ rfl (fun _ _ => rfl) (fun c hc => by rw [List.mem_singleton.mp hc]; exact own_cell (x := "place") (.head _)) (fun i => tg_cell rfl rfl) (fun t mu' h2 t2 E' ht hmu a2 => ?_) (fun h2 t2 a2 => ?_)
    · have ep : (((a : Nat) : Int) + (t : Int)) = ((a + t : Nat) : Int) := by omega
      rw [ep] at a2
      have hlt := pushN_lt r a m (fun t ht => (hr t ht).1) t (by omega)
      refine x_assign_comp (cl := [("row", L + 1), ("place", L + 3)]) (Γc := [("row", dat (wD row)), ("place", tI ((a + t : Nat) : Int))]) (W := []) (N' := [(b, (pushN r a t).map val)]) (ds := lI (wAt row size (a + t))) (n := size) (T := fun i => tI (0 + i)) a2.here rfl rfl rfl (by decide) rfl (by decide) ?_ (by show List.Nodup [("row" : Str), "place"]; decide) ⟨⟨.inl rfl, rfl, .inl rfl, rfl⟩, ⟨.inl rfl, rfl, .inl rfl, rfl⟩, trivial⟩
        (it_range (a := 0) (b := size) (n := size) hA (ev_call (ev_blt rfl H.range.g H.range.b) (.inr (.inl ⟨_, rfl⟩)) (Evs.cons (ev_name rfl) Evs.nil) cl_range1) (.inl (by omega)) (by omega) (by omega) (by omega) (by omega) (by rw [sizeLine_eq]; omega)) rfl (fun _ q => nomatch q) (fun C => ?_) fun h3 t3 a3 => ?_
      · intro p hp
        rcases List.mem_cons.mp hp with rfl | hp
        · exact .tail _ (.tail _ (.head _))
        · rw [List.mem_singleton.mp hp]; exact .head _
      · have e : lI (wAt row size (a + t)) = (List.range size).map fun s => PyData.int (row.getD ((a + t + s) % row.length) 0 : Nat) := by simp [wAt, lI]
        rw [e]
        refine loops_map (fun i => [("step", tI (0 + i)), ("row", dat (wD row)), ("place", tI ((a + t : Nat) : Int))]) _ (fun i => tg_name rfl) (fun i => ⟨rfl, rfl, trivial⟩) (fun i hi => ?_) (by rw [sizeLine_eq]; omega)
        have em : (((a + t : Nat) : Int) + (0 + (i : Int))).fmod ((lI row).length : Int) = (((a + t + i) % row.length : Nat) : Int) := by
          rw [Int.fmod_eq_emod_of_nonneg _ (by omega)]; simp
        refine ev_sub (ev_name rfl) (Ev.as (ev_bin (ev_bin (ev_name rfl) (ev_name rfl) op_add) (ev_call (ev_blt rfl H.len.g H.len.b) (.inl ⟨_, rfl⟩) (Evs.cons (ev_name rfl) Evs.nil) (cl_len hsz)) (op_mod (by rw [List.length_map]; omega))) (by rw [em])) (op_item plain_bin (by omega) ?_ ?_)
        · have := Nat.mod_lt (a + t + i) hrow
          omega
        · have hlt := Nat.mod_lt (a + t + i) hrow
          rw [Int.toNat_natCast, List.getElem?_map, List.getElem?_eq_getElem hlt]
          simp [List.getD, hlt]
      · have hx := hr t ht
        have hmem : ∀ o ∈ wAt row size (a + t), o < 256 := fun o hq => by
          obtain ⟨i, _, rfl⟩ := List.mem_map.mp hq
          exact getD_mem_lt (by omega) ho _
        have c := push_ok H.push H.sd H.len hc hlt hx.1 (by rw [pushN_len]; omega) (j + 1) A hA
        rw [hx.2] at c
        refine x_expr a3 (ev_callM (j := 0) (ev_glob rfl (HasDef.name H.push)) (HasDef.kept H.push) rfl rfl (Evs.cons (ev_enc (hA.down (by omega) : AOk (0 + 1) A) G.he G.map G.bytes (ev_name rfl) hmem (by simp [wAt]; omega) rfl rfl) Evs.nil) c) rfl fun h4 t4 a4 => x_nil ⟨h4, t4, rfl, ?_⟩
        simp only [List.set_cons_zero] at a4
        exact At.sub a4 ⟨rfl, rfl, rfl, rfl, trivial⟩
    · refine x_retM a2 (t := tL ((popsF m (pushN r a m)).map val)) (N' := [(b, (popN m (pushN r a m)).map val)]) ?_ rfl fun v h3 t3 a3 p3 => k (.ret v) h3 t3 _ _ _ a3 (fun c q => List.mem_append_right _ q) p3
      exact ev_pops (cl := [("heap", L + 2)]) (T := fun i => tI (((a : Nat) : Int) + i)) (pushN_len r a m) H hA hc (pushN_lt r a m (fun t ht => (hr t ht).1) m (Nat.le_refl _)) (by rw [pushN_len]; omega) ⟨rfl, by decide, rfl, by decide, (fun p hp => by rw [List.mem_singleton.mp hp]; exact .tail _ (.head _)), by show List.Nodup [("heap" : Str)]; decide, ⟨⟨.inl rfl, rfl, .inl rfl, rfl⟩, trivial⟩⟩ rfl (by decide) rfl (it_range (n := m) hA (ev_name rfl) (.inl (by omega)) (by omega) (by omega) (by omega) (by omega) (by rw [sizeLine_eq]; omega))
end Mine

namespace Mine
def sg (o : Nat) : List Nat := (signF o).cps.toList
def Dif (u v : List Nat) : Prop := ∃ p x y r s, u = p ++ x :: r ∧ v = p ++ y :: s ∧ x < y
theorem Dif.lt {u v : List Nat} (d : Dif u v) : u < v := by
  obtain ⟨p, x, y, r, s, rfl, rfl, h⟩ := d
  induction p with
  | nil => exact List.Lex.rel h
  | cons a p ih => exact List.Lex.cons ih
theorem Dif.pre {u v : List Nat} (q : List Nat) (d : Dif u v) : Dif (q ++ u) (q ++ v) := by
  obtain ⟨p, x, y, r, s, rfl, rfl, h⟩ := d
  exact ⟨q ++ p, x, y, r, s, by simp, by simp, h⟩
theorem Dif.post {u v : List Nat} (a b : List Nat) (d : Dif u v) : Dif (u ++ a) (v ++ b) := by
  obtain ⟨p, x, y, r, s, rfl, rfl, h⟩ := d
  exact ⟨p, x, y, r ++ a, s ++ b, by simp, by simp, h⟩
def figN (i : Nat) : Nat := figS.cps.getD i 0
def fc (o : Nat) : Nat := (sg o).getD 0 0
def signOk (o : Nat) : Bool := (sg o == [61, figN (o / 16), figN (o % 16)]) || (sg o == [fc o] && (if fc o == 95 then 32 else fc o) == o && fc o != 61)
theorem signOk_L : ∀ o, o < 256 → ((signL o == [61, figL.getD (o / 16) 0, figL.getD (o % 16) 0]) || (signL o == [(signL o).getD 0 0] && (if (signL o).getD 0 0 == 95 then 32 else (signL o).getD 0 0) == o && (signL o).getD 0 0 != 61)) = true := by decide +kernel
theorem sg_eq (o : Nat) : sg o = signL o := sign_toList o
theorem figN_eq (i : Nat) : figN i = figL.getD i 0 := figS_getD i
theorem fc_eq (o : Nat) : fc o = (signL o).getD 0 0 := by unfold fc; rw [sg_eq]
theorem signOk_all : ∀ o, o < 256 → signOk o = true := fun o ho => by
  unfold signOk
  simp only [sg_eq, figN_eq, fc_eq]
  exact signOk_L o ho
theorem fig_mono_L : ∀ i, i < 16 → ∀ j, j < 16 → i < j → figL.getD i 0 < figL.getD j 0 := by decide +kernel
theorem fig_mono : ∀ i, i < 16 → ∀ j, j < 16 → i < j → figN i < figN j := fun i hi j hj h => by rw [figN_eq, figN_eq]; exact fig_mono_L i hi j hj h
theorem dif_sg {a b : Nat} (ha : a < 256) (hb : b < 256) (h : fc a < fc b ∨ (fc a = fc b ∧ a < b)) : Dif (sg a) (sg b) := by
  have h1 := signOk_all a ha
  have h2 := signOk_all b hb
  unfold signOk at h1 h2
  have cons : ∀ o, o < 256 → ∃ r, sg o = fc o :: r := fun o ho => by
    have h := signOk_all o ho
    unfold signOk at h
    simp only [Bool.or_eq_true, Bool.and_eq_true, beq_iff_eq] at h
    rcases h with h | ⟨⟨h, _⟩, _⟩
    · refine ⟨[figN (o / 16), figN (o % 16)], ?_⟩
      have : fc o = 61 := by unfold fc; rw [h]; rfl
      rw [this]; exact h
    · exact ⟨[], h⟩
  rcases h with h | ⟨h, hlt⟩
  · obtain ⟨r, hr⟩ := cons a ha
    obtain ⟨s, hs⟩ := cons b hb
    exact ⟨[], fc a, fc b, r, s, hr, hs, h⟩
  · simp only [Bool.or_eq_true, Bool.and_eq_true, beq_iff_eq] at h1 h2
    rcases h1 with h1 | ⟨⟨h1, h1'⟩, h1''⟩
    · have f1 : fc a = 61 := by unfold fc; rw [h1]; rfl
      rcases h2 with h2 | ⟨⟨h2, h2'⟩, h2''⟩
      · by_cases hq : a / 16 = b / 16
        · refine ⟨[61, figN (a / 16)], figN (a % 16), figN (b % 16), [], [], by simpa using h1, by rw [hq]; simpa using h2, fig_mono _ (by omega) _ (by omega) (by omega)⟩
        · exact ⟨[61], figN (a / 16), figN (b / 16), [figN (a % 16)], [figN (b % 16)], by simpa using h1, by simpa using h2, fig_mono _ (by omega) _ (by omega) (by omega)⟩
      · rw [← h, f1] at h2''; simp at h2''
    · rcases h2 with h2 | ⟨⟨h2, h2'⟩, h2''⟩
      · have f2 : fc b = 61 := by unfold fc; rw [h2]; rfl
        rw [h, f2] at h1''; simp at h1''
      · rw [h] at h1'
        rw [h1'] at h2'
        omega

/-- letters in the order of their signs -/
def Below (a b : Nat) : Prop := fc a < fc b ∨ (fc a = fc b ∧ a < b)
structure Ord (ord : List Nat) : Prop where
  lt : ∀ o ∈ ord, o < 256
  up : ∀ i j, i < j → j < ord.length → Below (ord.getD i 0) (ord.getD j 0)
def wd (ord : List Nat) (u : List Nat) : List Nat := u.map fun r => ord.getD r 0
def sgs (w : List Nat) : List Nat := w.flatMap sg
theorem dif_words {ord : List Nat} (O : Ord ord) : ∀ {u v : List Nat}, u.length = v.length → (∀ r ∈ u, r < ord.length) → (∀ r ∈ v, r < ord.length) → u < v → Dif (sgs (wd ord u)) (sgs (wd ord v)) := by
  intro u
  induction u with
  | nil =>
    intro v hl _ _ h
    have : v = [] := List.length_eq_zero_iff.mp hl.symm
    subst this
    exact absurd h (List.lt_irrefl _)
  | cons a u ih =>
    intro v hl hu hv h
    cases v with
    | nil => simp at hl
    | cons b v =>
      have ha := hu a (by simp)
      have hb := hv b (by simp)
      rcases List.cons_lt_cons_iff.mp h with h | ⟨rfl, h'⟩
      · have d := dif_sg (O.lt _ (by have : ord.getD a 0 = ord[a] := by simp [List.getD, ha]
                                     rw [this]; exact List.getElem_mem ha)) (O.lt _ (by have : ord.getD b 0 = ord[b] := by simp [List.getD, hb]
                                                                                        rw [this]; exact List.getElem_mem hb)) (O.up a b h hb)
        simpa [sgs, wd] using d.post (sgs (wd ord u)) (sgs (wd ord v))
      · have := (ih (by simpa using hl) (fun r hr => hu r (by simp [hr])) (fun r hr => hv r (by simp [hr])) h').pre (sg (ord.getD a 0))
        simpa [sgs, wd] using this
theorem signs_toList (w : List Nat) : (signs w).cps.toList = sgs w := by
  have : ∀ (l : List Nat) (acc : Array Nat), ((l.map signF).foldl (fun acc p => acc ++ p.cps) acc).toList = acc.toList ++ sgs l := by
    intro l
    induction l with
    | nil => simp [sgs]
    | cons c l ih => intro acc; simp only [List.map_cons, List.foldl_cons, ih]; simp [sgs, sg]
  have h := this w #[]
  simpa [signs] using h
def preS : List Nat := ("=?" : Str).cps.toList ++ iso.cps.toList ++ ("?q?" : Str).cps.toList
def sufS : List Nat := ("?=" : Str).cps.toList
theorem str_append_toList (x y : Str) : (x ++ y).cps.toList = x.cps.toList ++ y.cps.toList := by
  show (x.cps ++ y.cps).toList = _
  simp
theorem enc_toList {w : List Nat} (h : w ≠ []) : (encF iso w).cps.toList = preS ++ sgs w ++ sufS := by
  unfold encF
  rw [if_neg h]
  unfold hdrS
  simp only [List.foldl_cons, List.foldl_nil, str_append_toList, signs_toList, preS, sufS]
  rfl
theorem enc_lt {ord : List Nat} (O : Ord ord) {u v : List Nat} (hl : u.length = v.length) (h0 : u ≠ []) (hu : ∀ r ∈ u, r < ord.length) (hv : ∀ r ∈ v, r < ord.length) :
    decide ((encF iso (wd ord u)).cps.toList < (encF iso (wd ord v)).cps.toList) = decide (u < v) := by
  have v0 : v ≠ [] := fun q => h0 (List.length_eq_zero_iff.mp (by rw [hl, q]; rfl))
  have e1 : wd ord u ≠ [] := by simpa [wd] using h0
  have e2 : wd ord v ≠ [] := by simpa [wd] using v0
  have up : ∀ {u v : List Nat}, u.length = v.length → wd ord u ≠ [] → wd ord v ≠ [] → (∀ r ∈ u, r < ord.length) → (∀ r ∈ v, r < ord.length) → u < v → (encF iso (wd ord u)).cps.toList < (encF iso (wd ord v)).cps.toList := fun hl a b hu hv h => by
    rw [enc_toList a, enc_toList b]
    exact (((dif_words O hl hu hv h).pre preS).post sufS sufS).lt
  by_cases h : u < v
  · rw [decide_eq_true h, decide_eq_true (up hl e1 e2 hu hv h)]
  · rw [decide_eq_false h, decide_eq_false]
    intro q
    have hle : v ≤ u := List.not_lt.mp h
    rcases Decidable.em (v = u) with e | e
    · subst e; exact List.lt_irrefl _ q
    · have hlt : v < u := by
        rcases Decidable.em (v < u) with z | z
        · exact z
        · exact absurd (List.le_antisymm hle (List.not_lt.mp z)) e
      exact List.lt_irrefl _ (List.lt_trans q (up hl.symm e2 e1 hv hu hlt))
end Mine

namespace Mine
variable {K : Wd}
open PySem.SeqAt
theorem cmpLt_str {e : Nat → Str} {n : Nat} (h : ∀ i j, i < n → j < n → decide ((e i).cps.toList < (e j).cps.toList) = decide (i < j)) : CmpLt K (fun i => .str (e i)) n := fun A k hA i j hi hj => by
  have := op_lts (K := K) (A := A) (x := e i) (y := e j)
  rw [h i j hi hj] at this
  exact this
/-- (str, list) < (str, list) -/
theorem tuple_lt2 (l b : Addr) (x y : Str) (t u : Tok) (v1 v2 : Value) (n n2 : Nat) (r : Bool) :
    Meets (Builtin.«tuple.__lt__» ⟨[.ref l, .ref b], []⟩)
      (fun A R s => s.heap.get? l = some { cls := .type "tuple", dict := none, data := .seq #[.str x t, v1] n, slots := #[] } ∧ s.heap.get? b = some { cls := .type "tuple", dict := none, data := .seq #[.str y u, v2] n2, slots := #[] } ∧
        ((x == y) = false → r = decide (x.cps.toList < y.cps.toList)) ∧ ((x == y) = true → r = false ∧ EqAt A.in1 s v1 v2 true) ∧ R (.ok (.ret (.bool r))) s) :=
  .of_wp fun prog w A R s h => by
    obtain ⟨hp, g, d, tk, os⟩ := s; obtain ⟨hl, hb, h1, h2, h⟩ := h
    have f2 := AutoSeq1.sub_tuple_tuple
    wp_walk using wpAny_loadPart' hl, wpAny_loadPart' hb, wpAny_forIn_list _ (fun rest b s' => b.1 = none ∧ s' = ⟨hp, g, d, tk, os⟩ ∧ (rest = [(.str x t, .str y u), (v1, v2)] ∨ (rest = [(v1, v2)] ∧ (x == y) = true) ∨ (rest = [] ∧ (x == y) = true))) _
    case turn =>
      rintro ⟨a, c⟩ rest b s' ⟨hb', rfl, hr⟩
      rcases hr with hr | ⟨hr, he⟩ | ⟨hr, _⟩
      · injection hr with e1 e2
        obtain ⟨rfl, rfl⟩ := Prod.mk.inj e1
        subst e2
        refine wpAny_bind ((EqAt.str_str x t y u) prog w _ _ ?_)
        cases hxy : x == y with
        | true =>
          wp_walk
          exact ⟨rfl, rfl, .inr (.inl ⟨rfl, by first | exact hxy | rfl⟩)⟩
        | false =>
          simp only [Bool.not_false, if_true]
          refine wpAny_bind (wpAny_rule (wpAny_bind (m := richCompare .Lt (.str x t) (.str y u)) (show wpAny _ _ (compareOp .Lt (.str x t) (.str y u)) _ _ _ from lt_str ?_)))
          rw [h1 hxy] at h
          wp_walk
          exact ⟨_, rfl, h⟩
      · injection hr with e1 e2
        obtain ⟨rfl, rfl⟩ := Prod.mk.inj e1
        subst e2
        refine wpAny_bind ((h2 he).2 prog w _ _ ?_)
        wp_walk
        exact ⟨rfl, rfl, .inr (.inr ⟨rfl, he⟩)⟩
      · cases hr
    case fin =>
      rintro ⟨b1, b2⟩ s' ⟨hb', rfl, hr⟩
      simp only at hb'
      subst hb'
      rcases hr with hr | ⟨hr, _⟩ | ⟨_, he⟩
      · cases hr
      · cases hr
      · rw [(h2 he).1] at h
        wp_walk
        exact ⟨_, rfl, by simpa [Builtin.Tuple.tupleCompareSizes] using h⟩
    case h => exact ⟨rfl, rfl, .inl rfl⟩
theorem cmpLt_tup {e : Nat → Str} {w : Nat → List Nat} {n : Nat} (h : ∀ i j, i < n → j < n → decide ((e i).cps.toList < (e j).cps.toList) = decide (i < j)) : CmpLt K (fun i => .tuple [.str (e i), wD (w i)]) n := fun A k hA i j hi hj mu s v1 v2 _ _ p q => by
  obtain ⟨l, its, rfl, tl, rl⟩ := RD.tuple_inv p
  obtain ⟨b, its2, rfl, tb, rb⟩ := RD.tuple_inv q
  obtain ⟨nl, hl⟩ := isTp_ext tl (fz_ext _ _)
  obtain ⟨nb, hb⟩ := isTp_ext tb (fz_ext _ _)
  cases its with
  | mk l1 => cases its2 with
    | mk l2 => cases rl with
      | cons a1 rl => cases rl with
        | cons a2 rl => cases rl; cases rb with
          | cons b1 rb => cases rb with
            | cons b2 rb =>
              cases rb
              obtain ⟨t, rfl⟩ := RD.str_inv a1
              obtain ⟨u, rfl⟩ := RD.str_inv b1
              have hij : (e i == e j) = true → i = j := fun q => by
                have q : e i = e j := eq_of_beq q
                have h1 := h i j hi hj
                have h2 := h j i hj hi
                rw [q] at h1 h2
                have ir : ¬ (e j).cps.toList < (e j).cps.toList := List.lt_irrefl _
                rw [decide_eq_false ir] at h1 h2
                have := of_decide_eq_false h1.symm
                have := of_decide_eq_false h2.symm
                omega
              refine gives_here fun Q k => richCompare_meets_room (op := .Lt) ⟨_, hl, rfl⟩ ⟨_, hb, rfl⟩ PySem.F.slot_tuple_lt PySem.F.entry_tuple_lt (PySem.F.args_tuple_lt_2 _ _) (tuple_lt2 l b (e i) (e j) t u _ _ nl nb (decide (i < j))) ⟨hl, hb, fun hne => (h i j hi hj).symm, fun heq => ?_, ⟨(fun z => nomatch z), k _ _ (RD.bool _ _)⟩⟩ (by have := hA.u; omega)
              have := hij heq
              subst this
              refine ⟨decide_eq_false (Nat.lt_irrefl _), ?_⟩
              obtain ⟨as, r1⟩ := (RD.mono a2 (fz_ext _ _)).reads
              obtain ⟨bs, r2⟩ := (RD.mono b2 (fz_ext _ _)).reads
              have := keq_at (A := A) r1 r2 (shaped_wD _) (shaped_wD _) (by have := hA.u; show A.units + 1 + 64 < _; omega)
              rw [eqv_wD, decide_eq_true rfl] at this
              exact this
end Mine

namespace Mine
variable {K : Wd}
theorem Sat.same_frame {env : Env} {Γ : Gam} {N : Led} {mu : List Addr} {h h' : Heap} (S : Sat K.β env Γ N mu h) (c : Chg [env.locals] h h') (hn : ∀ m, h.Ns env.locals m → h'.Ns env.locals m) : Sat K.β env Γ N mu h' := by
  have hmu : ∀ b ∈ [env.locals], b ∈ mu := fun b hb => by rw [List.mem_singleton.mp hb]; exact S.hid _ own_locals
  have k := fz_chg c hmu
  have low : K.β.hb.get? env.locals = none := S.low _ own_locals
  refine ⟨fun b o e => c.keep b o (fun q => by rw [List.mem_singleton.mp q, low] at e; cases e) (S.base b o e), S.low, S.ok, fun x t z => ?_, let ⟨m, hm⟩ := S.frame; ⟨m, hn m hm⟩,
    fun x b z => let ⟨v, hv⟩ := S.cells x b z; ⟨v, isCell_chg hv c fun q => cell_ne_locals S.ndup z (List.mem_singleton.mp q)⟩,
    fun p hp => let ⟨its, l, r⟩ := S.lists p hp; ⟨its, plain_chg l c fun q => list_ne_locals S.ndup hp (List.mem_singleton.mp q), RDs.mono r k⟩, S.hid, S.ndup, fun b hb => let ⟨o, e⟩ := S.live b hb; c.live b o e⟩
  rcases S.vars x t z with ⟨kx, m, v, e1, e2, e3⟩ | ⟨kx, ce, v, e1, e2, e3⟩
  · exact .inl ⟨kx, m, v, hn m e1, e2, t.mono _ _ _ e3 k⟩
  · exact .inr ⟨kx, ce, v, e1, isCell_chg e2 c (fun q => cell_ne_locals S.ndup (mem_of_lookup e1) (List.mem_singleton.mp q)), t.mono _ _ _ e3 k⟩

/-- all that stands, but the frame -/
def liveL (h : Heap) (L : Addr) : List (Addr × Obj) := (List.range h.objs.size).filterMap fun b => if b = L then none else (h.get? b).map fun o => (b, o)
theorem liveL_mem {h : Heap} {L b : Addr} {o : Obj} : (b, o) ∈ liveL h L ↔ b ≠ L ∧ h.get? b = some o := by
  unfold liveL
  rw [List.mem_filterMap]
  constructor
  · rintro ⟨c, _, e⟩
    split at e
    · cases e
    · cases hc : h.get? c with
      | none => rw [hc] at e; cases e
      | some o' => rw [hc] at e; simp at e; obtain ⟨rfl, rfl⟩ := e; exact ⟨by assumption, hc⟩
  · rintro ⟨hb, e⟩
    exact ⟨b, List.mem_range.mpr (Heap.lt_size e), by rw [if_neg hb, e]; rfl⟩
theorem news_liveL (h : Heap) (L : Addr) : News (default : Heap) L h (liveL h L) := fun p hp => by
  obtain ⟨b, o⟩ := p
  obtain ⟨h1, h2⟩ := liveL_mem.mp hp
  exact ⟨h2, h1, rfl⟩
def KasT.run {α : Type} (lt : Nat → Nat → Bool) : KasT α → α
  | .ret a => a
  | .ask i j k => KasT.run lt (k (lt i j))
def KasT.asks {α : Type} (n : Nat) (lt : Nat → Nat → Bool) : KasT α → Bool
  | .ret _ => true
  | .ask i j k => decide (i < n) && decide (j < n) && KasT.asks n lt (k (lt i j))
theorem kas_runs {α : Type} {cmp : Nat → Nat → (Bool → Shared → Prop) → Shared → Prop} {lt : Nat → Nat → Bool} {n : Nat} {s : Shared} (hc : ∀ i j (C : Bool → Shared → Prop), i < n → j < n → C (lt i j) s → cmp i j C s) {Q : α → Shared → Prop} :
    ∀ (t : KasT α), KasT.asks n lt t = true → Q (KasT.run lt t) s → t.kasWp cmp Q s
  | .ret a, _, h => h
  | .ask i j k, ha, h => by
    simp only [KasT.asks, Bool.and_eq_true, decide_eq_true_eq] at ha
    exact hc i j _ ha.1.1 ha.1.2 (kas_runs hc (k (lt i j)) ha.2 h)
theorem oneLt_ints {A : Around} {E : Value → Shared → Prop} {s : Shared} {b : Bool} {x y : Int} {t u : Tok} {Q : Bool → Shared → Prop} (h : Q (decide (x < y)) s) : wpAny K.M A (oneLt' b (.int x t) (.int y u)) Q E s := by
  cases b with
  | true => exact oneLt_int h
  | false =>
    rw [oneLt'_eq]
    simp only [Bool.false_eq_true, if_false]
    exact wpAny_bind (m := richCompare .Lt (.int x t) (.int y u)) (show wpAny _ _ (compareOp .Lt (.int x t) (.int y u)) _ _ _ from lt_int (wpAny_truthy_bool h))

abbrev qD (p : Int × Int) : PyData := .tuple [.int p.1, .int p.2]
def pairLt (p q : Int × Int) : Bool := decide (p.1 < q.1) || (p.1 == q.1 && decide (p.2 < q.2))
theorem pair_key {A : Around} {s : Shared} {g : Heap} {v u : Value} {p q : Int × Int} {Q : Bool → Shared → Prop} (hg : Ext g s.heap) (hv : RD g v (qD p)) (hu : RD g u (qD q)) (h : Q (pairLt p q) s) : wpAny K.M A (keyLt' (tuples' true) v u) Q (fun _ _ => False) s := by
  obtain ⟨x, xs, rfl, tx, rx⟩ := RD.tuple_inv hv
  obtain ⟨y, ys, rfl, ty, ry⟩ := RD.tuple_inv hu
  obtain ⟨nx, hx⟩ := isTp_ext tx hg
  obtain ⟨ny, hy⟩ := isTp_ext ty hg
  cases xs with
  | mk l1 => cases ys with
    | mk l2 => cases rx with
      | cons a1 rx => cases rx with
        | cons a2 rx => cases rx; cases ry with
          | cons b1 ry => cases ry with
            | cons b2 ry =>
              cases ry
              obtain ⟨t1, rfl⟩ := RD.int_inv a1
              obtain ⟨t2, rfl⟩ := RD.int_inv a2
              obtain ⟨u1, rfl⟩ := RD.int_inv b1
              obtain ⟨u2, rfl⟩ := RD.int_inv b2
              refine kat_lt hx rfl hy rfl (kat_cons ((SeqAt.EqAt.int_int p.1 t1 q.1 u1) K.prog K.w _ _ ?_))
              unfold pairLt at h
              cases h1 : p.1 == q.1 with
              | false =>
                refine kat_no (oneLt_ints ?_)
                rw [h1] at h
                simpa using h
              | true =>
                have e : p.1 = q.1 := eq_of_beq h1
                refine kat_yes (kat_cons ((SeqAt.EqAt.int_int p.2 t2 q.2 u2) K.prog K.w _ _ ?_))
                rw [h1, e, decide_eq_false (Int.lt_irrefl _)] at h
                simp only [Bool.false_or, Bool.true_and] at h
                cases h2 : p.2 == q.2 with
                | false => exact kat_no (oneLt_ints h)
                | true =>
                  refine kat_yes (kat_nil ?_)
                  have e2 : p.2 = q.2 := eq_of_beq h2
                  rw [e2, decide_eq_false (Int.lt_irrefl _)] at h
                  exact h
theorem tups_of {g h : Heap} (hg : Ext g h) : ∀ {vs : List Value} {ps : List (Int × Int)}, RDs g vs (ps.map qD) → ∃ fs, KatTups h vs fs ∧ fs.length = ps.length ∧ ∀ f ∈ fs, ∃ i t, f = .int i t
  | _, [], .nil => ⟨[], .nil, rfl, fun _ q => nomatch q⟩
  | _, p :: ps, .cons x r => by
    obtain ⟨fs, h1, h2, h3⟩ := tups_of hg r
    obtain ⟨a, its, rfl, ta, ra⟩ := RD.tuple_inv x
    obtain ⟨n, ha⟩ := isTp_ext ta hg
    cases its with
    | mk l => cases ra with
      | cons a1 ra =>
        obtain ⟨t1, rfl⟩ := RD.int_inv a1
        refine ⟨.int p.1 t1 :: fs, .cons ha rfl rfl rfl h1, by simp [h2], fun f hf => ?_⟩
        rcases List.mem_cons.mp hf with rfl | hf
        · exact ⟨_, _, rfl⟩
        · exact h3 f hf
theorem sorted_pairs {A : Around} {env : Env} {Γ : Gam} {N : Led} {mu : List Addr} {s : Shared} {v : Value} {ps : List (Int × Int)} {Q : Value → Shared → Prop} {E : Value → Shared → Prop} (S : Sat K.β env Γ N mu s.heap) (hv : RD (fz s.heap mu) v (.list (ps.map qD))) (h2 : 2 ≤ ps.length) (h64 : ps.length < 64)
    (ha : KasT.asks ps.length (fun i j => pairLt (ps.getD i default) (ps.getD j default)) (kas_sort ps.length) = true)
    (hin : ∀ i ∈ (KasT.run (fun i j => pairLt (ps.getD i default) (ps.getD j default)) (kas_sort ps.length)).toList, i < ps.length)
    (k : ∀ D h' tk, Chg [env.locals] s.heap h' → Sat K.β env Γ N mu h' → RD (fz h' mu) (.ref D) (.list ((KasT.run (fun i j => pairLt (ps.getD i default) (ps.getD j default)) (kas_sort ps.length)).toList.map fun i => qD (ps.getD i default))) → Q (.ref D) (Sx s h' tk)) :
    wpAny K.M A (call (.builtin "sorted") [v]) Q E s := by
  obtain ⟨l, its, rfl, pl, r⟩ := RD.list_inv hv
  obtain ⟨m, hm⟩ := S.frame
  have es : its.toList.length = ps.length := by have := rds_length r; simpa using this
  have F : Fr (default : Heap) env.locals s.heap m := ⟨hm, fun b o e => (nomatch (show (none : Option Obj) = some o from e)), Nat.zero_le _⟩
  have l' := isList_ext pl (fz_ext _ _)
  refine kat_sorted (vs := its.toList) F (news_liveL s.heap env.locals) (by simpa using l') (by rw [es]; exact h2) (by rw [es]; exact h64) fun D e1 h1 F1 N1 hlt => ?_
  have keep1 : ∀ b o, b ≠ env.locals → s.heap.get? b = some o → h1.get? b = some o := fun b o hb e => (N1 (b, o) (List.mem_cons_of_mem _ (liveL_mem.mpr ⟨hb, e⟩))).1
  have hD1 := N1 (D, seqObj "list" #[] e1) (.head _)
  have hDnew : s.heap.get? D = none := by
    cases z : s.heap.get? D with
    | none => rfl
    | some o =>
      by_cases q : D = env.locals
      · exact absurd q hD1.2.1
      · exact absurd (hlt (D, o) (liveL_mem.mpr ⟨q, z⟩)) (Nat.lt_irrefl _)
  have c1 : Chg [env.locals] s.heap h1 := ⟨fun b o hb e => keep1 b o (by simpa using hb) e, fun b o e => by
    by_cases q : b = env.locals
    · rw [q]; exact ns_live F1.ns
    · exact ⟨o, keep1 b o q e⟩⟩
  have same : ∀ m', s.heap.Ns env.locals m' → h1.Ns env.locals m' := fun m' hm' => by rw [ns_unique hm' hm]; exact F1.ns
  have S1 := S.same_frame c1 same
  have hmuL : ∀ b ∈ [env.locals], b ∈ mu := fun b hb => by rw [List.mem_singleton.mp hb]; exact S.hid _ own_locals
  have r1 := RDs.mono r (fz_chg c1 hmuL)
  obtain ⟨fs, t1, t2, t3⟩ := tups_of (fz_ext h1 mu) r1
  refine kat_kind (T := .type "int") t1 (by omega) (fun f hf => by obtain ⟨i, t, rfl⟩ := t3 f hf; exact Looks.of_pure rfl) rfl ?_
  rw [es]
  refine kas_runs (n := ps.length) (lt := fun i j => pairLt (ps.getD i default) (ps.getD j default)) (fun i j C hi hj hC => ?_) _ ha ?_
  · have gi : ∀ i, i < ps.length → RD (fz h1 mu) (its.toList.getD i Value.none) (qD (ps.getD i default)) := fun i hi => by
      obtain ⟨x, hx, rx⟩ := All2.get r1 i (qD (ps.getD i default)) (by rw [List.getElem?_map, List.getElem?_eq_getElem hi]; simp [List.getD, hi])
      have : its.toList.getD i Value.none = x := by rw [List.getD_eq_getElem?_getD, hx]; rfl
      rw [this]; exact rx
    exact pair_key (g := fz h1 mu) (fz_ext h1 mu) (gi i hi) (gi j hj) hC
  · refine KasFin.intro (news := (D, seqObj "list" #[] e1) :: (liveL h1 env.locals).filter fun p => p.1 != D) F1 (fun p hp => ?_) (.head fun p hp => by simpa using (List.mem_filter.mp hp).2) fun h2 c F2 N2 => ?_
    · rcases List.mem_cons.mp hp with rfl | hp
      · exact hD1
      · exact news_liveL h1 env.locals p (List.mem_filter.mp hp).1
    · have keep2 : ∀ b o, b ≠ env.locals → b ≠ D → h1.get? b = some o → h2.get? b = some o := fun b o hb hbD e => (N2 (b, o) (List.mem_cons_of_mem _ (List.mem_filter.mpr ⟨liveL_mem.mpr ⟨hb, e⟩, by simpa using hbD⟩))).1
      have hD2 := N2 (D, _) (.head _)
      have keep : ∀ b o, b ≠ env.locals → s.heap.get? b = some o → h2.get? b = some o := fun b o hb e => keep2 b o hb (fun q => by rw [q, hDnew] at e; cases e) (keep1 b o hb e)
      have c2 : Chg [env.locals] s.heap h2 := ⟨fun b o hb e => keep b o (by simpa using hb) e, fun b o e => by
        by_cases q : b = env.locals
        · rw [q]; exact ns_live F2.ns
        · exact ⟨o, keep b o q e⟩⟩
      have S2 := S.same_frame c2 fun m' hm' => by rw [ns_unique hm' hm]; exact F2.ns
      have hDmu : D ∉ mu := fresh_off S hDnew
      have r2 := RDs.mono r (fz_chg c2 hmuL)
      refine k D h2 s.toks c2 S2 (RD.list (its := List.toArray ((KasT.run (fun i j => pairLt (ps.getD i default) (ps.getD j default)) (kas_sort ps.length)).toList.map fun i => its.toList.getD i Value.none)) ⟨_, fz_of hD2.1 hDmu⟩ ?_)
      show All2 _ (List.map _ _) (List.map _ _)
      generalize (KasT.run (fun i j => pairLt (ps.getD i default) (ps.getD j default)) (kas_sort ps.length)).toList = pm at hin
      induction pm with
      | nil => exact .nil
      | cons i pm ih =>
        refine .cons ?_ (ih fun j hj => hin j (List.mem_cons_of_mem _ hj))
        have hi := hin i List.mem_cons_self
        obtain ⟨x, hx, rx⟩ := All2.get r2 i (qD (ps.getD i default)) (by rw [List.getElem?_map, List.getElem?_eq_getElem hi]; simp [List.getD, hi])
        have : its.toList.getD i Value.none = x := by rw [List.getD_eq_getElem?_getD, hx]; rfl
        show RD _ (its.toList.getD i Value.none) _
        rw [this]; exact rx

theorem x_assign_sorted {A : Around} {h₀ : Heap} {D : List Addr} {env : Env} {Γ : Gam} {N : Led} {mu : List Addr} {s : Shared} {Q : Flow → Shared → Prop} {E : Value → Shared → Prop} {rest : List Stmt} {x f : Str} {p pf pc pos : Pos} {e : Expr} {ps : List (Int × Int)} (a : At K h₀ D env Γ N mu s.heap)
    (hf : Ev K A env Γ N (.Name f pf) (isv (.builtin "sorted"))) (he : Ev K A env Γ N e (tL (ps.map qD))) (hk : CanStore env x) (h2 : 2 ≤ ps.length) (h64 : ps.length < 64)
    (ha : KasT.asks ps.length (fun i j => pairLt (ps.getD i default) (ps.getD j default)) (kas_sort ps.length) = true)
    (hin : ∀ i ∈ (KasT.run (fun i j => pairLt (ps.getD i default) (ps.getD j default)) (kas_sort ps.length)).toList, i < ps.length)
    (k : ∀ h' tk, At K h₀ D env ((x, tL ((KasT.run (fun i j => pairLt (ps.getD i default) (ps.getD j default)) (kas_sort ps.length)).toList.map fun i => qD (ps.getD i default))) :: Γ) N mu h' → wpAny K.M A (execs rest env) Q E (Sx s h' tk))
    (hst : starEach [e] env = (false, eval e env) :: starEach [] env := by rfl) (hs : swapsWith (.Call (.Name f pf) [e] [] pc) (some (.Name x p)) pos.line env = pure false := by rfl) :
    wpAny K.M A (execs (.Assign [.Name x p] (.Call (.Name f pf) [e] [] pc) pos :: rest) env) Q E s :=
  wpAny_execs_cons (wpAny_Assign_Name (call_go hf (.inl ⟨_, rfl⟩) (Evs.cons he Evs.nil hst) a.sat (fun vs h1 k1 e1 S1 p1 => by
    cases p1 with
    | cons q p1 =>
      cases p1
      refine sorted_pairs (s := Sx s h1 k1) S1 q h2 h64 ha hin fun Dd h3 k3 c3 S3 r3 => ?_
      have a1 := a.ext e1
      have a3 : At K h₀ D env Γ N mu h3 := a1.over S3 c3 fun b hb => .inl (by rw [List.mem_singleton.mp hb]; exact own_locals)
      exact x_store (s := Sx s h3 k3) a3 hk r3 fun h' tk a' => k h' tk a') hst) hs)

theorem kas_congr {α : Type} {lt lt' : Nat → Nat → Bool} {n : Nat} (h : ∀ i j, i < n → j < n → lt i j = lt' i j) : ∀ (t : KasT α), KasT.asks n lt' t = true → KasT.asks n lt t = true ∧ KasT.run lt t = KasT.run lt' t
  | .ret a, _ => ⟨rfl, rfl⟩
  | .ask i j k, ha => by
    simp only [KasT.asks, Bool.and_eq_true, decide_eq_true_eq] at ha
    have := kas_congr h (k (lt' i j)) ha.2
    simp only [KasT.asks, KasT.run, h i j ha.1.1 ha.1.2, Bool.and_eq_true, decide_eq_true_eq]
    exact ⟨⟨ha.1, this.1⟩, this.2⟩
theorem sign0 : ∀ o, o < 256 → (seqIndex? 0 (signF o).length).bind ((signF o).cps[·]?) = some (fc o) := fun o _ => by
  have e : signF o = ⟨(signL o).toArray⟩ := by
    have := sign_toList o
    cases q : signF o with
    | mk a =>
      rw [q] at this
      have : a = (signL o).toArray := by rw [← this]
      rw [this]
  rw [e, fc_eq]
  have hn : signL o ≠ [] := by
    unfold signL
    split
    · simp
    · split <;> simp
  cases q : signL o with
  | nil => exact absurd q hn
  | cons x r =>
    have : ({ cps := (x :: r).toArray } : Str).length = r.length + 1 := by simp [PySem.Str.length]
    rw [this]
    unfold seqIndex?
    simp
def ordP (o : Nat) : Int × Int := ((fc o : Nat), (o : Nat))
/-- the letters are laid in the order of their signs -/
theorem in_order_ok {f fs : Addr} {ls ord : List Nat} (hd : K.β.HasDef dInOrder f) (hs : K.β.HasDef dSign fs) (hso : Bn K.β "sorted" (.builtin "sorted")) (hor : Bn K.β "ord" (.builtin "ord")) (hchr : Bn K.β "chr" (.builtin "chr")) (hl : ∀ o ∈ ls, o < 256) (h2 : 2 ≤ ls.length) (h64 : ls.length < 64)
    {lt : Nat → Nat → Bool} (hlt : ∀ i j, i < ls.length → j < ls.length → pairLt (ordP (ls.getD i 0)) (ordP (ls.getD j 0)) = lt i j) (ha : KasT.asks ls.length lt (kas_sort ls.length) = true)
    (hin : ∀ i ∈ (KasT.run lt (kas_sort ls.length)).toList, i < ls.length) (ho : (KasT.run lt (kas_sort ls.length)).toList.map (fun i => ls.getD i 0) = ord) (hol : ord.length ≤ 64) (j : Nat) :
    Fn K (j + 2) f [dat (wD ls)] (dat (wD ord)) := by
  refine fn_of (Γ := [("letters", dat (wD ls))]) hd rfl rfl rfl (by decide) (fun vals hv => ?_) ?_
  · cases hv with
    | @cons v1 _ _ _ _ hv =>
        cases hv
        exact ⟨[("letters", v1)], fun _ _ _ => rfl, by rfl, fun L cd g hp => by
          cases hp with
          | cons p1 hp => exact ⟨.inl ⟨rfl, _, rfl, p1⟩, trivial⟩⟩
  · intro A L cd mu h₀ s Q hA z k
    have hsz : (lI ls).length ≤ sizeLine := by rw [sizeLine_eq]; simp; omega
    have eL : (ls.map ordP).length = ls.length := by simp
    have eg : ∀ i, i < ls.length → (ls.map ordP).getD i default = ordP (ls.getD i 0) := fun i hi => getD_map 0 hi
    have e : (ls.map ordP).map qD = (List.range (lI ls).length).map fun i => qD (ordP (ls.getD i 0)) := by
      rw [List.length_map, range_map_f (fun o => qD (ordP o)), List.map_map]; rfl
    have cg := kas_congr (lt := fun i j => pairLt ((ls.map ordP).getD i default) ((ls.map ordP).getD j default)) (lt' := lt) (n := ls.length) (fun i j hi hj => by rw [eg i hi, eg j hj]; exact hlt i j hi hj) (kas_sort ls.length) ha
    refine x_assign_sorted (ps := ls.map ordP) z (ev_blt rfl hso.g hso.b) (Ev.as (ev_map (cl := []) (Γc := []) (fun i => qD (ordP (ls.getD i 0))) ⟨rfl, by decide, rfl, by decide, (fun _ q => nomatch q), by decide, trivial⟩ rfl (fun t => trivial) ((it_list hA (ev_name rfl) hsz).congr fun i hi => by rw [getD_map 0 (by simpa using hi)]) (fun C i hi => ?_) hsz) (by rw [e])) (.inl rfl) (by rw [eL]; exact h2) (by rw [eL]; exact h64) ?_ ?_ fun h1 t1 a1 => ?_
    · have hi' : i < ls.length := by simpa using hi
      have hm : ls.getD i 0 ∈ ls := by
        have : ls.getD i 0 = ls[i] := by simp [List.getD, hi']
        rw [this]; exact List.getElem_mem hi'
      have ho' := hl _ hm
      exact ev_tuple (ds := [.int (fc (ls.getD i 0) : Nat), .int (ls.getD i 0 : Nat)]) (Evs.cons (ev_call (ev_blt rfl hor.g hor.b) (.inl ⟨_, rfl⟩) (Evs.cons (ev_sub (ev_call (ev_glob rfl (HasDef.name hs)) (HasDef.kept hs) (Evs.cons (ev_name rfl) Evs.nil) (sign_ok hs hchr ho' j A hA)) ev_int (op_sitem plain_int (by decide) (sign0 _ ho'))) Evs.nil) cl_ord) (Evs.cons (ev_name rfl) Evs.nil)) (by rw [sizeLine_eq]; simp)
    · rw [eL]; exact cg.1
    · rw [eL, cg.2]; exact hin
    · rw [eL, cg.2] at a1
      have eo : ((KasT.run lt (kas_sort ls.length)).toList.map fun i => qD ((ls.map ordP).getD i default)) = ord.map fun o => qD (ordP o) := by
        rw [← ho, List.map_map]
        refine List.map_congr_left fun i hi => ?_
        rw [eg i (hin i hi)]; rfl
      rw [eo] at a1
      have er : lI ord = (List.range (ord.map fun o => qD (ordP o)).length).map fun i => PyData.int (ord.getD i 0 : Nat) := by
        rw [List.length_map, range_map_f (fun o => PyData.int ((o : Nat) : Int))]
      show wpAny K.M A (execs _ _) Q no _
      refine x_ret a1 (Ev.as (ev_map2 (cl := []) (d1 := fun i => .int (fc (ord.getD i 0) : Nat)) (d2 := fun i => .int (ord.getD i 0 : Nat)) hA (Γc := []) (fun i => .int (ord.getD i 0 : Nat)) ⟨rfl, by decide, rfl, by decide, (fun _ q => nomatch q), by decide, trivial⟩ rfl rfl (fun t u => trivial) ((it_list hA (ev_name rfl) (by rw [sizeLine_eq]; simp; omega)).congr fun i hi => by rw [getD_map 0 (by simpa using hi)]; rfl) (fun C i hi => ev_name rfl) (by rw [sizeLine_eq]; simp; omega)) (by rw [← er])) fun v h2 t2 a2 p2 => k (.ret v) h2 t2 _ _ _ a2 (fun _ q => q) p2
end Mine

namespace Mine
variable {K : Wd}
/-- all is kept; the frames F up to their slots -/
structure SExt (F : List Addr) (h h' : Heap) : Prop where
  keep : ∀ b o, b ∉ F → h.get? b = some o → h'.get? b = some o
  slots : ∀ b o, h.get? b = some o → ∃ sl, h'.get? b = some { o with slots := sl }
theorem SExt.refl (F : List Addr) (h : Heap) : SExt F h h := ⟨fun _ _ _ e => e, fun _ o e => ⟨o.slots, e⟩⟩
theorem SExt.trans {F : List Addr} {h h' h'' : Heap} (x : SExt F h h') (y : SExt F h' h'') : SExt F h h'' :=
  ⟨fun b o hb e => y.keep b o hb (x.keep b o hb e), fun b o e => let ⟨_, e1⟩ := x.slots b o e; let ⟨sl, e2⟩ := y.slots b _ e1; ⟨sl, e2⟩⟩
theorem SExt.of_ext {F : List Addr} {h h' : Heap} (x : Ext h h') : SExt F h h' := ⟨fun b o _ e => x b o e, fun b o e => ⟨o.slots, x b o e⟩⟩
theorem SExt.of_slots {F : List Addr} {h h' : Heap} (x : Heap.SlotsOnly F h h') : SExt F h h' := ⟨fun b o hb e => (x.2.1 b hb).trans e, x.2.2⟩
theorem SExt.ns {F : List Addr} {h h' : Heap} {L : Addr} {m : Str → Option Value} (x : SExt F h h') (n : h.Ns L m) : h'.Ns L m := by
  obtain ⟨o, es, ep, e, hd, r⟩ := n
  obtain ⟨sl, e'⟩ := x.slots L o e
  exact ⟨_, es, ep, e', hd, r⟩
def frs (l : List Env) : List Addr := l.filterMap (·.frame)
/-- the frames on the stack -/
def FrOk (l : List Env) (h : Heap) : Prop := ∀ env ∈ l, env.scope.kind = .function ∧ ∃ L m, env.frame = some L ∧ h.Ns L m
theorem FrOk.sext {F : List Addr} {l : List Env} {h h' : Heap} (x : FrOk l h) (s : SExt F h h') : FrOk l h' := fun env he => let ⟨a, L, m, b, c⟩ := x env he; ⟨a, L, m, b, s.ns c⟩
theorem FrOk.fun {l : List Env} {h : Heap} (x : FrOk l h) : h.FunFrames (default : Heap) l := by
  induction l with
  | nil => trivial
  | cons env r ih =>
    obtain ⟨hk, L, m, hf, o, es, ep, e, hd, _⟩ := x env List.mem_cons_self
    exact ⟨by rw [hk]; decide, ⟨L, o, hf, rfl, e, fun vs q => by rw [hd] at q; cases q⟩, ih fun e he => x e (List.mem_cons_of_mem _ he)⟩

inductive Fly where
  | new
  | tr (x : Value)
def FlyIs (g h : Heap) (e : Addr) (vs : Array Value) : Fly → Prop
  | .new => vs[1]? = some .none
  | .tr x => ∃ tb ot ts, vs[1]? = some (.ref tb) ∧ g.get? tb = none ∧ tb ≠ e ∧ h.get? tb = some ot ∧ ot.data = .fields ts ∧ 3 < ts.size ∧ ts[3]? = some x
structure Exc (F : List Addr) (g h : Heap) (e : Addr) (c : Value) (fl : Fly) : Prop where
  s : SExt F g h
  new : g.get? e = none
  ex : ∃ oe vs, h.get? e = some oe ∧ oe.cls = .type "IndexError" ∧ oe.data = .fields vs ∧ 2 < vs.size ∧ vs[2]? = some c ∧ FlyIs g h e vs fl
theorem Exc.of_new {F : List Addr} {g h : Heap} {e : Addr} (x : Heap.NewExc g h e "IndexError") : Exc F g h e .none .new := by
  obtain ⟨ob, t, h1, h2, h3⟩ := x.there
  exact ⟨.of_ext x.keeps, x.new, ob, _, h1, h2, h3, by simp, rfl, rfl⟩
section
variable {A : Around} {env : Env} {outer : List Env} {s : Shared} {g : Heap} {e L : Addr} {c : Value} {Q : Unit → Shared → Prop} {E : Value → Shared → Prop}
theorem exc_note_new (hfr : A.frames = some (env :: outer)) (hf : env.frame = some L) (ho : FrOk (env :: outer) g) (x : Exc (frs (env :: outer)) g s.heap e c .new)
    (k : ∀ h', Exc (frs (env :: outer)) g h' e c (.tr (rawInt L)) → Q () { s with heap := h' }) : wpAny K.M A (noteFrame (.ref e) env) Q E s := by
  obtain ⟨xs, xn, oe, vs, he, hc, hd, hz, hv2, hv1⟩ := x
  have hv1 : vs[1]? = some .none := hv1
  have hfun := (ho.sext xs).fun
  have hene : e ∉ frs (env :: outer) := fun hm => by
    obtain ⟨_, o, ho', hnf⟩ := hfun.mem hm
    rw [he] at ho'; cases ho'; exact hnf vs hd
  unfold noteFrame
  simp only [hf]
  refine wpAny_bind (wpAny_field he hd hv1 ?_)
  rw [if_neg (by decide)]
  refine wpAny_bind (wpAny_frameOf_fun hfr hfun hf fun h₁ hs₁ => ?_)
  refine wpAny_bind (wpAny_entryPlaceOf fun pl hpl => ?_)
  unfold EntryCells.newEntry newFields
  refine wpAny_bind (wpAny_newObj_type ?_ (hpl.sizeOk5 _ _ _ _ _))
  have he₁ : h₁.get? e = some oe := (hs₁.2.1 e hene).trans he
  generalize hob : ({ cls := .type "traceback", dict := none, data := .fields ([Value.none, .ref L, .none, rawInt L, .none] ++ (if pl.isEmpty then List.replicate 6 Value.none else pl)).toArray } : Obj) = ob
  have he₂ := Heap.get?_push_of_some (h := h₁) ob he₁
  refine wpAny_setField he₂ hd (by omega) ?_
  have hTe : h₁.objs.size ≠ e := Nat.ne_of_gt (Heap.lt_size he₁)
  have hd₃ := Obj.data_mapFields hd (·.setIfInBounds 1 (Value.ref h₁.objs.size))
  have he₃ := Heap.get?_update_self (Obj.mapFields (·.setIfInBounds 1 (Value.ref h₁.objs.size))) he₂ (Obj.isFreed_of_fields hd₃)
  have hT₃ := (Heap.get?_update_other (h₁.push ob) (Obj.mapFields (·.setIfInBounds 1 (Value.ref h₁.objs.size))) (Ne.symm hTe)).trans (Heap.get?_push_size h₁ (by rw [← hob]; rfl))
  have s1 : SExt (frs (env :: outer)) g h₁ := xs.trans (.of_slots hs₁)
  have up : ∀ b o, b ≠ e → h₁.get? b = some o → ((h₁.push ob).update e (Obj.mapFields (·.setIfInBounds 1 (Value.ref h₁.objs.size)))).get? b = some o := fun b o hb q => by
    rw [Heap.get?_update_other _ _ (Ne.symm hb)]; exact Heap.get?_push_of_some _ q
  refine k _ ⟨⟨fun b o hb q => up b o (fun z => by rw [z, xn] at q; cases q) (s1.keep b o hb q), fun b o q => ?_⟩, xn, _, _, he₃, ?_, hd₃, by simpa using hz, by simpa using hv2, ?_⟩
  · obtain ⟨sl, q'⟩ := s1.slots b o q
    exact ⟨sl, up b _ (fun z => by rw [z, xn] at q; cases q) q'⟩
  · obtain ⟨cc, d, dt, sl⟩ := oe
    simp only at hd
    subst hd
    exact hc
  · have gn : g.get? h₁.objs.size = none := by
      cases z : g.get? h₁.objs.size with
      | none => rfl
      | some o => obtain ⟨sl, q⟩ := s1.slots _ _ z; exact absurd (Heap.lt_size q) (Nat.lt_irrefl _)
    refine ⟨h₁.objs.size, ob, ([Value.none, .ref L, .none, rawInt L, .none] ++ (if pl.isEmpty then List.replicate 6 Value.none else pl)).toArray, ?_, gn, hTe, hT₃, by rw [← hob], by simp, rfl⟩
    simp [(by omega : 1 < vs.size)]
theorem exc_note_in {F : List Addr} (hf : env.frame = some L) (x : Exc F g s.heap e c (.tr (rawInt L))) (k : Q () s) : wpAny K.M A (noteFrame (.ref e) env) Q E s := by
  obtain ⟨xs, xn, oe, vs, he, hc, hd, hz, hv2, tb, ot, ts, h1, h2, h3, h4, h5, h6, h7⟩ := x
  exact wpAny_noteFrame_inFlight hf he hd h1 h4 h5 h7 k
theorem exc_flight {F : List Addr} {y : Value} (fr : Option Addr) (x : Exc F g s.heap e c (.tr y)) (k : ∀ h', Exc F g h' e c (.tr (fr.elim .none fun f => rawInt f)) → Q () { s with heap := h' }) : wpAny K.M A (setFlight (.ref e) fr) Q E s := by
  obtain ⟨xs, xn, oe, vs, he, hc, hd, hz, hv2, tb, ot, ts, h1, h2, h3, h4, h5, h6, h7⟩ := x
  unfold setFlight
  refine wpAny_bind (wpAny_field he hd h1 ?_)
  rw [if_pos (show (Value.ref tb != Value.none) = true from by simp)]
  refine wpAny_setField h4 h5 h6 (k _ ?_)
  have hd₃ := Obj.data_mapFields h5 (·.setIfInBounds 3 (fr.elim Value.none fun f => rawInt f))
  have ht₃ := Heap.get?_update_self (Obj.mapFields (·.setIfInBounds 3 (fr.elim Value.none fun f => rawInt f))) h4 (Obj.isFreed_of_fields hd₃)
  have up : ∀ b o, b ≠ tb → s.heap.get? b = some o → (s.heap.update tb (Obj.mapFields (·.setIfInBounds 3 (fr.elim Value.none fun f => rawInt f)))).get? b = some o := fun b o hb q => by
    rw [Heap.get?_update_other _ _ (Ne.symm hb)]; exact q
  refine ⟨⟨fun b o hb q => up b o (fun z => by rw [z, h2] at q; cases q) (xs.keep b o hb q), fun b o q => ?_⟩, xn, oe, vs, up e oe (Ne.symm h3) he, hc, hd, hz, hv2, tb, _, _, h1, h2, h3, ht₃, hd₃, by simpa using h6, by simp [h6]⟩
  obtain ⟨sl, q'⟩ := xs.slots b o q
  exact ⟨sl, up b _ (fun z => by rw [z, h2] at q; cases q) q'⟩
theorem exc_back {F : List Addr} {y : Value} {E' : Value → Shared → Prop} (x : Exc F g s.heap e c (.tr y)) (k : ∀ h', Exc F g h' e c (.tr (env.frame.elim .none fun f => rawInt f)) → E' (.ref e) { s with heap := h' }) : cameBackBy K.M A env E' (.ref e) s := by
  obtain ⟨xs, xn, oe, vs, he, hc, hd, hz, hv2, tb, ot, ts, h1, h2⟩ := id x
  refine wpAny_bind (wpAny_field he hd h1 ?_)
  rw [if_neg (by simp)]
  exact exc_flight env.frame x fun h' x' => k h' x'
theorem exc_pass {α : Type} {F : List Addr} {y : Value} {Q' : α → Shared → Prop} {E' : Value → Shared → Prop} {what : String} (x : Exc F g s.heap e c (.tr y)) (k : ∀ h', Exc F g h' e c (.tr (env.frame.elim .none fun f => rawInt f)) → E' (.ref e) { s with heap := h' }) : wpAny K.M A (PySem.passOn what (.ref e) env : Sem α) Q' E' s := by
  obtain ⟨xs, xn, oe, vs, he, hc, hd, hz, hv2, tb, ot, ts, h1, h2⟩ := id x
  unfold PySem.passOn
  refine wpAny_bind (wpAny_field he hd h1 ?_)
  rw [if_neg (by simp)]
  exact wpAny_bind (exc_flight env.frame x fun h' x' => wpAny_throw (k h' x'))
end
end Mine

namespace Mine
variable {K : Wd}
theorem entry_unchain : entryFor table "proto.unchain" = some Builtin.«proto.unchain» := entryFor_of_tree (by kernel_rfl)
theorem raise_ctx {α : Type} {A : Around} {s : Shared} {e e1 : Addr} {o1 : Obj} {vs1 : Array Value} {t : Value} {Q : α → Shared → Prop} {E : Value → Shared → Prop} (hh : A.handled = some (.ref e1)) (he1 : s.heap.get? e1 = some o1) (hd1 : o1.data = .fields vs1) (h2 : vs1[2]? = some .none) (hne : e1 ≠ e)
    {ob : Obj} {vs : Array Value} (he : s.heap.get? e = some ob) (hd : ob.data = .fields vs) (hsz : 2 < vs.size)
    (k : E (.ref e) { s with heap := s.heap.update e (Obj.mapFields (·.setIfInBounds 2 (.ref e1))) }) : wpAny K.M A (raiseNew (.ref e) : Sem α) Q E s := by
  unfold raiseNew
  refine wpAny_bind (wpAny_handled ?_)
  rw [hh]
  dsimp only
  rw [if_pos (show (Value.ref e1 != Value.ref e) = true from by simpa using hne)]
  refine wpAny_bind (wpAny_holding (wpAny_runValue (codeAny_builtin entry_unchain ?_)))
  unfold Builtin.«proto.unchain»
  refine wpAny_bind (wpAny_field he1 hd1 h2 ?_)
  rw [if_pos (show (Value.none == Value.none) = true from rfl)]
  refine wpAny_pure ?_
  dsimp only
  refine wpAny_bind ?_
  unfold updateField
  refine wpAny_bind (wpAny_load he ?_)
  rw [hd]
  dsimp only
  rw [if_pos hsz]
  exact wpAny_update he (wpAny_throw k)
theorem words_ctx {α : Type} {A : Around} {s : Shared} {e1 : Addr} {o1 : Obj} {vs1 : Array Value} {msg : String} {Q : α → Shared → Prop} {E : Value → Shared → Prop} (hh : A.handled = some (.ref e1)) (he1 : s.heap.get? e1 = some o1) (hd1 : o1.data = .fields vs1) (h2 : vs1[2]? = some .none)
    (hE : ∀ h' tk e, Ext s.heap h' → s.heap.get? e = none → (∃ ob vs, h'.get? e = some ob ∧ ob.cls = .type "IndexError" ∧ ob.data = .fields vs ∧ 2 < vs.size ∧ vs[2]? = some (.ref e1) ∧ vs[1]? = some .none) → E (.ref e) { s with heap := h', toks := tk }) :
    wpAny K.M A (raiseErrorWords "IndexError" msg : Sem α) Q E s := by
  unfold raiseErrorWords
  refine wpAny_bind (wpAny_mkText (wpAny_bind ?_))
  refine wpAny_newExc_plain plainExc_IndexError fun h1 e hm => ?_
  obtain ⟨kp, nw, t, ht, _, _⟩ := hm
  have e1' := kp _ _ he1
  have hne : e1 ≠ e := fun q => by rw [q, nw] at he1; cases he1
  have hd3 := Obj.data_mapFields (o := { cls := .type "IndexError", data := .fields #[.ref t, .none, .none, .none, .bool false, .none] }) rfl (·.setIfInBounds 2 (Value.ref e1))
  refine raise_ctx (t := .none) hh e1' hd1 h2 hne ht rfl (by simp) (hE _ _ e (fun b o q => ?_) nw ⟨_, _, Heap.get?_update_self _ ht (Obj.isFreed_of_fields hd3), rfl, hd3, by simp, by simp, by simp⟩)
  rw [Heap.get?_update_other _ _ (fun z => by rw [← z, nw] at q; cases q)]
  exact kp b o q
theorem getItem_out_ctx {A : Around} {s : Shared} {l e1 : Addr} {items : Array Value} {k : Int} {t : Tok} {o1 : Obj} {vs1 : Array Value} {Q : Value → Shared → Prop} {E : Value → Shared → Prop} (hh : A.handled = some (.ref e1)) (he1 : s.heap.get? e1 = some o1) (hd1 : o1.data = .fields vs1) (h2 : vs1[2]? = some .none)
    (hl : s.heap.IsList l items) (h0 : 0 ≤ k) (hout : (items.size : Int) ≤ k) (hhi : k < 2 ^ 63)
    (hE : ∀ h' tk e, Ext s.heap h' → s.heap.get? e = none → (∃ ob vs, h'.get? e = some ob ∧ ob.cls = .type "IndexError" ∧ ob.data = .fields vs ∧ 2 < vs.size ∧ vs[2]? = some (.ref e1) ∧ vs[1]? = some .none) → E (.ref e) { s with heap := h', toks := tk }) :
    wpAny K.M A (getItem (.ref l) (.int k t)) Q E s := by
  obtain ⟨o, ho, hc, ne, hd⟩ := id hl
  unfold getItem
  try with_reducible refine wpAny_holding ?_
  first | refine wpAny_bind (wpAny_pure ?_) | skip
  refine wpAny_bind (wpAny_sequenceKey hl.typeIs (by decide) ?_)
  refine wpAny_bind (wpAny_callSpecial?_slot (name := Str.ofString "__getitem__") hl.typeIs slot_list_getitem
    (wpAny_call_entry slot_list_getitem hl.typeIs entry_list_getitem ?_ (args_list_getitem _ _)))
  show wpAny _ _ (Builtin.List.listSubscript? (.int k t) >>= _) _ _ s
  refine wpAny_bind (wpAny_listSubscript_int (fitsIndex_of h0 hhi) ?_)
  clear hhi
  obtain ⟨j, rfl⟩ := Int.eq_ofNat_of_zero_le h0
  have hx : items[j]? = none := Array.getElem?_eq_none (by omega)
  show wpAny _ _ ((seqItemAt l j >>= fun r => pure (r.map (j, ·))) >>= _) _ _ s
  refine wpAny_bind (wpAny_bind (wpAny_seqItemAt ho hd (wpAny_pure ?_)))
  rw [hx]
  exact wpAny_bind (wpAny_rule (wpAny_bind (words_ctx (A := A.in1) hh he1 hd1 h2 hE)))
end Mine

namespace Mine
variable {K : Wd}
section
variable {A : Around} {env : Env} {Γ : Gam} {N : Led} {mu : List Addr} {s : Shared} {Q : Value → Shared → Prop} {E : Value → Shared → Prop}
theorem item_raise {y i : Str} {p q r : Pos} {ds : List PyData} {n : Int} (S : Sat K.β env Γ N mu s.heap) (hh : A.handled = none) (hy : Γ.lookup y = some (tL ds)) (hi : Γ.lookup i = some (tI n)) (h0 : 0 ≤ n) (hn : (ds.length : Int) ≤ n) (hhi : n < 2 ^ 62)
    (k : ∀ h' tk e, Heap.NewExc s.heap h' e "IndexError" → E (.ref e) (Sx s h' tk)) (y1 : (y == ("__classdict__" : Str)) = false := by decide) (y2 : (y == ("__debug__" : Str)) = false := by decide) (i1 : (i == ("__classdict__" : Str)) = false := by decide) (i2 : (i == ("__debug__" : Str)) = false := by decide) :
    wpAny K.M A (eval (.Subscript (.Name y p) (.Name i q) r) env) Q E s :=
  Subscript_ ((ev_name hy y1 y2 : Ev K A env Γ N (.Name y p) _).use S fun v h1 k1 e1 p1 => (ev_name hi i1 i2 : Ev K A env Γ N (.Name i q) _).use (s := Sx s h1 k1) (S.ext e1) fun u h2 k2 e2 p2 => by
    obtain ⟨a, its, rfl, l, rr⟩ := RD.list_inv (RD.mono p1 (fz_mono mu e2))
    obtain ⟨t, rfl⟩ := RD.int_inv p2
    have l' := isList_ext l (fz_ext _ _)
    have es : its.size = ds.length := by have := rds_length rr; simpa using this
    refine tail_any (s := Sx s h2 k2) l'.typeIs slot_list_getitem.lookup (wpAny_getItem_list_out (s := Sx s h2 k2) hh l' (.inr (by rw [es]; exact hn)) (by omega) (by omega) fun h3 k3 e hx => k h3 k3 e ⟨fun b o z => hx.keeps b o ((e1.trans e2) b o z), ?_, hx.there⟩) rfl
    cases z : s.heap.get? e with
    | none => rfl
    | some o => have := (e1.trans e2) _ _ z; rw [hx.new] at this; cases this)
end
def sldF : List Nat → List Nat → List Nat × List Nat
  | [], js => ([], js)
  | ks, [] => (ks, [])
  | k :: ks, j :: js => if k < j then (k :: (sldF ks (j :: js)).1, (sldF ks (j :: js)).2) else if j < k then ((sldF (k :: ks) js).1, j :: (sldF (k :: ks) js).2) else sldF ks js
termination_by ks js => ks.length + js.length
end Mine

namespace Mine
variable {K : Wd}
theorem frs_ns {l : List Env} {h : Heap} (x : FrOk l h) {b : Addr} (hb : b ∈ frs l) : ∃ m, h.Ns b m := by
  unfold frs at hb
  obtain ⟨env, he, hf⟩ := List.mem_filterMap.mp hb
  obtain ⟨_, L, m, hL, hn⟩ := x env he
  rw [hL] at hf
  cases hf
  exact ⟨m, hn⟩
section
variable {env : Env} {outer : List Env} {Γ : Gam} {N : Led} {mu : List Addr} {g h : Heap}
/-- the frames' slots are laid: nothing else changes -/
theorem Sat.sext (S : Sat K.β env Γ N mu g) (x : SExt (frs outer) g h) (hF : FrOk outer g) (hmu : ∀ b ∈ frs outer, b ∈ mu ∧ K.β.hb.get? b = none) : Sat K.β env Γ N mu h := by
  have nF : ∀ b, (∃ m, g.Ns b m) → True := fun _ _ => trivial
  have off : ∀ {b : Addr} {o : Obj}, g.get? b = some o → (∀ es ep, o.data ≠ .dict es ep) → h.get? b = some o := fun {b o} e hd => x.keep b o (fun q => by
    obtain ⟨m, o', es, ep, e', hd', _⟩ := frs_ns hF q
    rw [e] at e'; cases e'; exact hd es ep hd') e
  have kf : Ext (fz g mu) (fz h mu) := fun b o e => by
    obtain ⟨e, q⟩ := fz_get e
    exact fz_of (x.keep b o (fun z => q (hmu b z).1) e) q
  have cell : ∀ {b : Addr} {v : Option Value}, g.IsCell b v → h.IsCell b v := fun {b v} hc => by
    obtain ⟨o, e, r⟩ := hc
    have hd : ∀ es ep, o.data ≠ .dict es ep := fun es ep q => by simp [q] at r
    exact ⟨o, off e hd, r⟩
  refine ⟨fun b o e => x.keep b o (fun z => by rw [(hmu b z).2] at e; cases e) (S.base b o e), S.low, S.ok, fun y t e => ?_, let ⟨m, hm⟩ := S.frame; ⟨m, x.ns hm⟩, fun y c q => let ⟨v, hv⟩ := S.cells y c q; ⟨v, cell hv⟩,
    fun p hp => let ⟨its, ⟨n, e⟩, r⟩ := S.lists p hp; ⟨its, ⟨n, off e fun es ep q => nomatch q⟩, RDs.mono r kf⟩, S.hid, S.ndup, fun b q => let ⟨o, e⟩ := S.live b q; let ⟨sl, e'⟩ := x.slots b o e; ⟨_, e'⟩⟩
  rcases S.vars y t e with ⟨kx, m, v, e1, e2, e3⟩ | ⟨kx, c, v, e1, e2, e3⟩
  · exact .inl ⟨kx, m, v, x.ns e1, e2, t.mono _ _ _ e3 kf⟩
  · exact .inr ⟨kx, c, v, e1, cell e2, t.mono _ _ _ e3 kf⟩
end
/-- a call that may lay the slots of the frames around -/
def FnS (K : Wd) (k : Nat) (f : Addr) (ts : List Ty) (t : Ty) : Prop :=
  ∀ A outer mu s vs, AOk k A → A.frames = some outer → FrOk outer s.heap → Ext K.β.hb s.heap → (∀ b ∈ mu, ∃ o, s.heap.get? b = some o) → (∀ b ∈ frs outer, b ∈ mu ∧ K.β.hb.get? b = none) → All2 (fun v t => t.P (fz s.heap mu) v) vs ts →
    wpAny K.M A (call (.ref f) vs) (fun v s' => ∃ h' tk, s' = Sx s h' tk ∧ SExt (frs outer) s.heap h' ∧ t.P (fz h' mu) v) no s
theorem fnS_of {d : FD} {f : Addr} {j : Nat} {ts : List Ty} {t : Ty} {Γ : Gam} (hd : K.β.HasDef d f) (hk : d.scope.kind = .function) (hco : d.scope.isCoroutine = false) (hgen : d.scope.isGenerator = false) (hnd : ((cellsFrom 0 d.scope.names []).map (·.1)).Nodup)
    (H : ∀ vals, All2 (fun _ (_ : Ty) => True) vals ts → ∃ binds, (∀ pm cd doc, bindArgs (Calls.docDef d.name d.params d.body d.scope pm cd doc) ⟨vals, []⟩ = pure binds) ∧
      (binds.all fun y => d.scope.names.lookup y.1 == some .local || d.scope.names.lookup y.1 == some .cell) = true ∧
      ∀ L cd g, All2 (fun v t => t.P g v) vals ts → Binds (envOfC d.name d.scope L f cd).kindOf (cellsAt d L) (bindL (envOfC d.name d.scope L f cd).kindOf binds fun _ => none) (bindC (envOfC d.name d.scope L f cd).kindOf binds fun _ => none) g Γ)
    (W : ∀ A L cd mu h₀ outer s (Q : Flow → Shared → Prop), AOk j A → A.frames = some (envOfC d.name d.scope L f cd :: outer) → FrOk outer h₀ → FrOk (envOfC d.name d.scope L f cd :: outer) s.heap → (∀ b ∈ frs outer, b ∈ mu ∧ K.β.hb.get? b = none) → L ∉ frs outer → At K h₀ [] (envOfC d.name d.scope L f cd) Γ [] mu s.heap →
      (∀ fl h' tk mu', SExt (frs outer) h₀ h' → (∀ b ∈ mu, b ∈ mu') → t.P (fz h' mu') (match fl with | .ret v => v | _ => .none) → Q fl (Sx s h' tk)) →
      wpAny K.M A (execs d.body (envOfC d.name d.scope L f cd)) Q no s) : FnS K (j + 1) f ts t := fun A outer mu s vs hA hfr hF hb hl hmu p => by
  obtain ⟨binds, h1, h2, h3⟩ := H vs (p.imp fun _ _ _ => trivial)
  refine wpAny_call (enter hd hA.room hb h1 h2 hk hco hgen fun cd h₁ tk F C => ?_)
  have a := fn_at (N := []) (f := f) (cd := cd) hb hl hk hnd F C ⟨List.nodup_nil, fun _ q => (nomatch q)⟩ (h3 _ cd _ p)
  have newL : s.heap.objs.size ∉ frs outer := fun q => by
    obtain ⟨m, o, es, ep, e, _⟩ := frs_ns hF q
    exact absurd (Heap.lt_size e) (Nat.lt_irrefl _)
  have hF1 : FrOk outer h₁ := hF.sext (.of_ext (F := []) F.keep)
  refine W _ _ _ _ s.heap outer (Sx s h₁ tk) _ hA.deeper (by show A.frames.map _ = _; rw [hfr]; rfl) hF (fun e he => ?_) (fun b q => ⟨List.mem_append_right _ (hmu b q).1, (hmu b q).2⟩) newL a fun fl h' tk' mu' x hm q => ?_
  · rcases List.mem_cons.mp he with rfl | he
    · exact ⟨hk, s.heap.objs.size, _, rfl, F.ns⟩
    · exact hF1 e he
  · exact ⟨h', tk', rfl, x, t.mono _ _ _ q (fz_less fun b hb => hm b (List.mem_append_right _ hb))⟩
end Mine

namespace Mine
variable {K : Wd}
theorem SExt.live {F : List Addr} {h h' : Heap} (x : SExt F h h') {b : Addr} (hb : h'.get? b = none) : h.get? b = none := by
  cases z : h.get? b with
  | none => rfl
  | some o => obtain ⟨sl, e⟩ := x.slots b o z; rw [hb] at e; cases e
theorem SExt.chg {O D : List Addr} {h₀ h h' : Heap} (x : SExt O h₀ h) (c : Chg D h h') (hd : ∀ b ∈ D, h₀.get? b = none) : SExt O h₀ h' :=
  ⟨fun b o hb e => c.keep b o (fun q => by rw [hd b q] at e; cases e) (x.keep b o hb e), fun b o e => let ⟨sl, e'⟩ := x.slots b o e; ⟨sl, c.keep b _ (fun q => by rw [hd b q] at e; cases e) e'⟩⟩
theorem SExt.more {O F : List Addr} {h₀ h h' : Heap} (x : SExt O h₀ h) (y : SExt F h h') (hf : ∀ b ∈ F, b ∈ O ∨ h₀.get? b = none) : SExt O h₀ h' :=
  ⟨fun b o hb e => y.keep b o (fun q => (hf b q).elim hb fun z => by rw [z] at e; cases e) (x.keep b o hb e), fun b o e => let ⟨_, e1⟩ := x.slots b o e; let ⟨sl, e2⟩ := y.slots b _ e1; ⟨sl, e2⟩⟩

/-- the frame at hand, its callers' frames, what stood when it was entered -/
structure Ctx (env : Env) (outer : List Env) (h₀ : Heap) : Prop where
  hf : env.frame = some env.locals
  hk : env.scope.kind = .function
  ho : FrOk outer h₀
structure Now (K : Wd) (env : Env) (outer : List Env) (h₀ : Heap) (Γ : Gam) (N : Led) (mu : List Addr) (h : Heap) : Prop where
  sat : Sat K.β env Γ N mu h
  sx : SExt (frs outer) h₀ h
  od : ∀ b ∈ own env N, h₀.get? b = none
  fm : ∀ b ∈ frs outer, b ∈ mu ∧ K.β.hb.get? b = none
/-- an exception in flight, with its trace -/
structure Fl (K : Wd) (env : Env) (h₀ : Heap) (N : Led) (mu : List Addr) (h : Heap) (e tb : Addr) (c y : Value) : Prop where
  ex : ∃ oe vs, h.get? e = some oe ∧ oe.cls = .type "IndexError" ∧ oe.data = .fields vs ∧ 2 < vs.size ∧ vs[2]? = some c ∧ vs[1]? = some (.ref tb)
  tr : ∃ ot ts, h.get? tb = some ot ∧ ot.data = .fields ts ∧ 3 < ts.size ∧ ts[3]? = some y
  ne : tb ≠ e
  te : tb ∈ mu
  ee : e ∈ mu
  toff : tb ∉ own env N
  eoff : e ∉ own env N
  tlow : K.β.hb.get? tb = none ∧ h₀.get? tb = none
section
variable {env : Env} {outer : List Env} {h₀ : Heap} {Γ Γ' : Gam} {N N' : Led} {mu mu' : List Addr} {g h h' : Heap} {e tb : Addr} {c y : Value}
theorem Now.of_at (a : At K h₀ [] env Γ N mu h) (fm : ∀ b ∈ frs outer, b ∈ mu ∧ K.β.hb.get? b = none) : Now K env outer h₀ Γ N mu h :=
  ⟨a.sat, .of_ext a.chg.ext, fun b hb => (a.od b hb).elim id (fun q => nomatch q), fm⟩
theorem Now.at (n : Now K env outer h₀ Γ N mu h) : At K h (own env N) env Γ N mu h := ⟨n.sat, Chg.refl _ _, fun b hb => .inr hb⟩
theorem Now.step (n : Now K env outer h₀ Γ N mu h) (a : At K h (own env N) env Γ' N' mu' h') (hm : ∀ b ∈ mu, b ∈ mu') : Now K env outer h₀ Γ' N' mu' h' :=
  ⟨a.sat, n.sx.chg a.chg n.od, fun b hb => (a.od b hb).elim (fun q => n.sx.live q) (n.od b), fun b hb => ⟨hm b (n.fm b hb).1, (n.fm b hb).2⟩⟩
theorem Now.sub (n : Now K env outer h₀ Γ N mu h) (s : Sub Γ' Γ) : Now K env outer h₀ Γ' N mu h := ⟨n.sat.sub s, n.sx, n.od, n.fm⟩
theorem Now.fr (C : Ctx env outer h₀) (n : Now K env outer h₀ Γ N mu h) : FrOk (env :: outer) h := fun e he => by
  rcases List.mem_cons.mp he with rfl | he
  · obtain ⟨m, hm⟩ := n.sat.frame
    exact ⟨C.hk, _, m, C.hf, hm⟩
  · exact C.ho.sext n.sx e he
theorem mem_frs (C : Ctx env outer h₀) {b : Addr} (hb : b ∈ frs (env :: outer)) : b = env.locals ∨ b ∈ frs outer := by
  unfold frs at hb ⊢
  rw [List.filterMap_cons, C.hf] at hb
  exact List.mem_cons.mp hb
theorem Fl.chg {D : List Addr} (x : Fl K env h₀ N mu h e tb c y) (k : Chg D h h') (ht : tb ∉ D) (he : e ∉ D) : Fl K env h₀ N mu h' e tb c y := by
  obtain ⟨⟨oe, vs, a1, a2⟩, ⟨ot, ts, b1, b2⟩, r1, r2, r3, r4, r5, r6⟩ := x
  exact ⟨⟨oe, vs, k.keep _ _ he a1, a2⟩, ⟨ot, ts, k.keep _ _ ht b1, b2⟩, r1, r2, r3, r4, r5, r6⟩
theorem Fl.at (x : Fl K env h₀ N mu h e tb c y) (a : At K h (own env N) env Γ' N' mu h') (ho : own env N' = own env N) : Fl K env h₀ N' mu h' e tb c y := by
  obtain ⟨r1, r2, r3, r4, r5, r6, r7, r8⟩ := x.chg a.chg x.toff x.eoff
  exact ⟨r1, r2, r3, r4, r5, by rw [ho]; exact r6, by rw [ho]; exact r7, r8⟩
/-- raised and noted -/
theorem Now.raised (C : Ctx env outer h₀) (n : Now K env outer h₀ Γ N mu g) (x : Exc (frs (env :: outer)) g h e c (.tr y)) : ∃ tb, Fl K env h₀ N ([e, tb] ++ mu) h e tb c y ∧ Now K env outer h₀ Γ N ([e, tb] ++ mu) h := by
  have hfr := n.fr C
  obtain ⟨xs, xn, oe, vs, he, hc, hd, hz, hv2, tb, ot, ts, h1, h2, h3, h4, h5, h6, h7⟩ := x
  have hF : ∀ b ∈ frs (env :: outer), b ∈ mu ∧ K.β.hb.get? b = none := fun b hb => by
    rcases mem_frs C hb with rfl | hb
    · exact ⟨n.sat.hid _ own_locals, n.sat.low _ own_locals⟩
    · exact n.fm b hb
  have S := n.sat.sext xs hfr hF
  have off : ∀ b, g.get? b = none → b ∉ mu := fun b hb q => by obtain ⟨o, z⟩ := n.sat.live b q; rw [hb] at z; cases z
  have low : ∀ b, g.get? b = none → K.β.hb.get? b = none := fun b hb => by
    cases z : K.β.hb.get? b with
    | none => rfl
    | some o => have := n.sat.base _ _ z; rw [hb] at this; cases this
  have oo : ∀ b, g.get? b = none → b ∉ own env N := fun b hb q => off b hb (n.sat.hid b q)
  have nn : ∀ b ∈ [e, tb], g.get? b = none := fun b hb => by
    rcases List.mem_cons.mp hb with rfl | hb
    · exact xn
    · rw [List.mem_singleton.mp hb]; exact h2
  have kf : Ext (fz g mu) (fz h ([e, tb] ++ mu)) := fun b o q => by
    obtain ⟨q, w⟩ := fz_get q
    refine fz_of (xs.keep b o (fun z => w (hF b z).1) q) fun z => ?_
    rcases List.mem_append.mp z with z | z
    · rw [nn b z] at q; cases q
    · exact w z
  refine ⟨tb, ⟨⟨oe, vs, he, hc, hd, hz, hv2, h1⟩, ⟨ot, ts, h4, h5, h6, h7⟩, h3, by simp, by simp, oo _ h2, oo _ xn, low _ h2, n.sx.live h2⟩, ⟨⟨S.base, S.low, S.ok, fun z t q => ?_, S.frame, S.cells, fun p hp => ?_, fun b q => List.mem_append_right _ (S.hid b q), S.ndup, fun b q => ?_⟩, n.sx.more xs fun b hb => ?_, n.od, fun b hb => ⟨List.mem_append_right _ (n.fm b hb).1, (n.fm b hb).2⟩⟩⟩
  · -- the variables
    rcases n.sat.vars z t q with ⟨kx, m, v, e1, e2, e3⟩ | ⟨kx, ce, v, e1, e2, e3⟩
    · exact .inl ⟨kx, m, v, xs.ns e1, e2, t.mono _ _ _ e3 kf⟩
    · rcases S.vars z t q with ⟨kx', _⟩ | ⟨_, ce', v', f1, f2, _⟩
      · rcases kx with kx | kx <;> rw [kx] at kx' <;> cases kx'
      · rw [e1] at f1
        cases f1
        obtain ⟨o, g1, r1⟩ := e2
        have : h.get? ce = some o := by
          refine xs.keep ce o (fun w => ?_) g1
          obtain ⟨m, o', es, ep, e', hd', _⟩ := frs_ns hfr w
          rw [g1] at e'; cases e'
          simp [hd'] at r1
        exact .inr ⟨kx, ce, v, e1, ⟨o, this, r1⟩, t.mono _ _ _ e3 kf⟩
  · obtain ⟨its, l, r⟩ := n.sat.lists p hp
    obtain ⟨its', l', r'⟩ := S.lists p hp
    obtain ⟨nn1, l⟩ := l
    refine ⟨its, ⟨nn1, xs.keep _ _ (fun w => ?_) l⟩, RDs.mono r kf⟩
    obtain ⟨m, o', es, ep, e', hd', _⟩ := frs_ns hfr w
    rw [l] at e'; cases e'; cases hd'
  · rcases List.mem_append.mp q with q | q
    · rcases List.mem_cons.mp q with rfl | q
      · exact ⟨_, he⟩
      · rw [List.mem_singleton.mp q]; exact ⟨_, h4⟩
    · exact S.live b q
  · rcases mem_frs C hb with rfl | hb
    · exact .inr (n.od _ own_locals)
    · exact .inl hb
end
section
variable {A : Around} {env : Env} {outer : List Env} {h₀ : Heap} {Γ Γ' : Gam} {N N' : Led} {mu mu' : List Addr} {s : Shared} {g : Heap} {e tb : Addr} {c y : Value} {Q : Unit → Shared → Prop} {E : Value → Shared → Prop}
theorem fl_note (C : Ctx env outer h₀) (x : Fl K env h₀ N mu s.heap e tb c (rawInt env.locals)) (k : Q () s) : wpAny K.M A (noteFrame (.ref e) env) Q E s := by
  obtain ⟨⟨oe, vs, a1, a2, a3, a4, a5, a6⟩, ⟨ot, ts, b1, b2, b3, b4⟩, _⟩ := x
  exact wpAny_noteFrame_inFlight C.hf a1 a3 a6 b1 b2 b4 k
theorem fl_flight (fr : Option Addr) (x : Fl K env h₀ N mu s.heap e tb c y) (n : Now K env outer h₀ Γ N mu s.heap)
    (k : ∀ h', Fl K env h₀ N mu h' e tb c (fr.elim .none fun f => rawInt f) → Now K env outer h₀ Γ N mu h' → Q () (Sx s h' s.toks)) : wpAny K.M A (setFlight (.ref e) fr) Q E s := by
  obtain ⟨⟨oe, vs, a1, a2, a3, a4, a5, a6⟩, ⟨ot, ts, b1, b2, b3, b4⟩, r1, r2, r3, r4, r5, r6⟩ := x
  unfold setFlight
  refine wpAny_bind (wpAny_field a1 a3 a6 ?_)
  rw [if_pos (show (Value.ref tb != Value.none) = true from by simp)]
  refine wpAny_setField b1 b2 b3 ?_
  have hd₃ := Obj.data_mapFields b2 (·.setIfInBounds 3 (fr.elim Value.none fun f => rawInt f))
  have ht₃ := Heap.get?_update_self (Obj.mapFields (·.setIfInBounds 3 (fr.elim Value.none fun f => rawInt f))) b1 (Obj.isFreed_of_fields hd₃)
  have sb : Heap.SameBut tb s.heap (s.heap.update tb (Obj.mapFields (·.setIfInBounds 3 (fr.elim Value.none fun f => rawInt f)))) := Heap.SameBut.update ..
  generalize s.heap.update tb (Obj.mapFields (·.setIfInBounds 3 (fr.elim Value.none fun f => rawInt f))) = h' at ht₃ sb ⊢
  have ch : Chg [tb] s.heap h' := Chg.of_same sb fun _ _ => ⟨_, ht₃⟩
  refine k h' ⟨⟨oe, vs, ch.keep _ _ (fun q => r1 (List.mem_singleton.mp q).symm) a1, a2, a3, a4, a5, a6⟩, ⟨_, _, ht₃, hd₃, by simpa using b3, by simp [b3]⟩, r1, r2, r3, r4, r5, r6⟩
    ⟨n.sat.chg ch (fun b hb => by rw [List.mem_singleton.mp hb]; exact r2) (fun b hb => by rw [List.mem_singleton.mp hb]; exact r4) (fun b hb => by rw [List.mem_singleton.mp hb]; exact r6.1),
      n.sx.chg ch (fun b hb => by rw [List.mem_singleton.mp hb]; exact r6.2), n.od, n.fm⟩
end
end Mine

namespace Mine
variable {K : Wd}
theorem boot_IndexError : bootBuiltins "IndexError" = some (.type "IndexError") := by kernel_rfl
theorem isExc_IE : isSubtype (.type "IndexError") (.type "BaseException") = pure true := by rw [isSubtype_type]; kernel_rfl
theorem notTup_IE : isSubtype (.type ((Manifest.find? "IndexError").elim "type" fun x => x.metatype)) (.type "tuple") = pure false := by rw [isSubtype_type]; kernel_rfl
theorem sub_IE : isSubtype (.type "IndexError") (.type "IndexError") = pure true := by rw [isSubtype_type]; kernel_rfl
section
variable {A : Around} {env : Env} {outer : List Env} {h₀ : Heap} {Γ Γ' : Gam} {N N' : Led} {mu mu' : List Addr} {s : Shared} {g : Heap} {e tb : Addr} {c y : Value} {Q : Flow → Shared → Prop} {E : Value → Shared → Prop}
/-- the handler is entered -/
theorem caught_in {p pos : Pos} {b₀ : Stmt} {suite : List Stmt} {rest : List ExceptHandler} (hE : Bn K.β "IndexError" (.type "IndexError")) (kE : env.kindOf "IndexError" = some .globalImplicit) (x : Fl K env h₀ N mu s.heap e tb c y) (n : Now K env outer h₀ Γ N mu s.heap)
    (k : ∀ h' tk E', Now K env outer h₀ Γ N mu h' → wpAny K.M (A.mark (some (.ref e))) (execs (b₀ :: suite) env) Q E' (Sx s h' tk)) :
    wpAny K.M A (setFlight (.ref e) none) (fun _ s₃ => wpAny K.M A (handleBy (.ref e) env (.ExceptHandler (some (.Name "IndexError" p)) none (b₀ :: suite) pos :: rest)) Q E s₃) E s :=
  fl_flight none x n fun h1 x1 n1 => wpAny_handleBy_builtin isExc_IE notTup_IE sub_IE ((ev_blt kE hE.g hE.b : Ev K (A.mark (some (.ref e))) env Γ N (.Name "IndexError" p) (isv (.type "IndexError"))).use (s := Sx s h1 s.toks) n1.sat fun v h2 k2 e2 p2 => by
    have p2 : v = .type "IndexError" := p2
    have ch : Chg [] h1 h2 := Chg.of_ext e2
    have x2 := x1.chg ch (fun q => nomatch q) (fun q => nomatch q)
    have n2 : Now K env outer h₀ Γ N mu h2 := ⟨n1.sat.ext e2, n1.sx.chg ch (fun _ q => nomatch q), n1.od, n1.fm⟩
    obtain ⟨oe, vs, a1, a2, _⟩ := x2.ex
    refine ⟨p2, ⟨oe, a1, a2⟩, ?_⟩
    simp only [if_true]
    exact fl_flight (s := Sx s h2 k2) none x2 n2 fun h3 x3 n3 => k h3 k2 _ n3)
/-- raised in the try's own body -/
theorem caught_new {p pos : Pos} {b₀ : Stmt} {suite : List Stmt} {rest : List ExceptHandler} (C : Ctx env outer h₀) (hfr : A.frames = some (env :: outer)) (hE : Bn K.β "IndexError" (.type "IndexError")) (kE : env.kindOf "IndexError" = some .globalImplicit) (n : Now K env outer h₀ Γ N mu g) (x : Exc (frs (env :: outer)) g s.heap e c .new)
    (k : ∀ mu' e h' tk E', (∀ b ∈ mu, b ∈ mu') → Now K env outer h₀ Γ N mu' h' → wpAny K.M (A.mark (some (.ref e))) (execs (b₀ :: suite) env) Q E' (Sx s h' tk)) :
    wpAny K.M A (noteFrame (.ref e) env) (fun _ s₂ => wpAny K.M A (setFlight (.ref e) none) (fun _ s₃ => wpAny K.M A (handleBy (.ref e) env (.ExceptHandler (some (.Name "IndexError" p)) none (b₀ :: suite) pos :: rest)) Q E s₃) E s₂) E s :=
  exc_note_new hfr C.hf (n.fr C) x fun h1 x1 => by
    obtain ⟨tb, f1, n1⟩ := n.raised C x1
    exact caught_in (s := Sx s h1 s.toks) hE kE f1 n1 fun h2 tk E' n2 => k _ _ h2 tk E' (fun b q => List.mem_append_right _ q) n2
/-- raised further in, noted before -/
theorem caught_fl {p pos : Pos} {b₀ : Stmt} {suite : List Stmt} {rest : List ExceptHandler} (C : Ctx env outer h₀) (hE : Bn K.β "IndexError" (.type "IndexError")) (kE : env.kindOf "IndexError" = some .globalImplicit) (x : Fl K env h₀ N mu s.heap e tb c (rawInt env.locals)) (n : Now K env outer h₀ Γ N mu s.heap)
    (k : ∀ mu' e h' tk E', (∀ b ∈ mu, b ∈ mu') → Now K env outer h₀ Γ N mu' h' → wpAny K.M (A.mark (some (.ref e))) (execs (b₀ :: suite) env) Q E' (Sx s h' tk)) :
    wpAny K.M A (noteFrame (.ref e) env) (fun _ s₂ => wpAny K.M A (setFlight (.ref e) none) (fun _ s₃ => wpAny K.M A (handleBy (.ref e) env (.ExceptHandler (some (.Name "IndexError" p)) none (b₀ :: suite) pos :: rest)) Q E s₃) E s₂) E s :=
  fl_note C x (caught_in hE kE x n fun h2 tk E' n2 => k _ _ h2 tk E' (fun _ q => q) n2)

/-- an item out of reach -/
def Outs (K : Wd) (A : Around) (env : Env) (outer : List Env) (sub : Expr) (c : Value) (s : Shared) : Prop :=
  ∀ (Q : Value → Shared → Prop) (E : Value → Shared → Prop), (∀ h' tk e, Exc (frs (env :: outer)) s.heap h' e c .new → E (.ref e) (Sx s h' tk)) → wpAny K.M A (eval sub env) Q E s
theorem outs_plain {y i : Str} {p q r : Pos} {ds : List PyData} {n : Int} (S : Sat K.β env Γ N mu s.heap) (hh : A.handled = none) (hy : Γ.lookup y = some (tL ds)) (hi : Γ.lookup i = some (tI n)) (h0 : 0 ≤ n) (hn : (ds.length : Int) ≤ n) (hhi : n < 2 ^ 62)
    (y1 : (y == ("__classdict__" : Str)) = false := by decide) (y2 : (y == ("__debug__" : Str)) = false := by decide) (i1 : (i == ("__classdict__" : Str)) = false := by decide) (i2 : (i == ("__debug__" : Str)) = false := by decide) :
    Outs K A env outer (.Subscript (.Name y p) (.Name i q) r) .none s := fun Q E k => item_raise S hh hy hi h0 hn hhi (fun h' tk e x => k h' tk e (.of_new x)) y1 y2 i1 i2
theorem outs_ctx {y i : Str} {p q r : Pos} {ds : List PyData} {n : Int} {e1 tb1 : Addr} {yy : Value} (S : Sat K.β env Γ N mu s.heap) (hh : A.handled = some (.ref e1)) (x : Fl K env h₀ N mu s.heap e1 tb1 .none yy) (hy : Γ.lookup y = some (tL ds)) (hi : Γ.lookup i = some (tI n)) (h0 : 0 ≤ n) (hn : (ds.length : Int) ≤ n) (hhi : n < 2 ^ 62)
    (y1 : (y == ("__classdict__" : Str)) = false := by decide) (y2 : (y == ("__debug__" : Str)) = false := by decide) (i1 : (i == ("__classdict__" : Str)) = false := by decide) (i2 : (i == ("__debug__" : Str)) = false := by decide) :
    Outs K A env outer (.Subscript (.Name y p) (.Name i q) r) (.ref e1) s := fun Q E k =>
  Subscript_ ((ev_name hy y1 y2 : Ev K A env Γ N (.Name y p) _).use S fun v h1 k1 e1' p1 => (ev_name hi i1 i2 : Ev K A env Γ N (.Name i q) _).use (s := Sx s h1 k1) (S.ext e1') fun u h2 k2 e2 p2 => by
    obtain ⟨a, its, rfl, l, rr⟩ := RD.list_inv (RD.mono p1 (fz_mono mu e2))
    obtain ⟨t, rfl⟩ := RD.int_inv p2
    have l' := isList_ext l (fz_ext _ _)
    have es : its.size = ds.length := by have := rds_length rr; simpa using this
    obtain ⟨oe, vs, a1, a2, a3, a4, a5, a6⟩ := x.ex
    refine tail_any (s := Sx s h2 k2) l'.typeIs slot_list_getitem.lookup (getItem_out_ctx (s := Sx s h2 k2) hh ((e1'.trans e2) _ _ a1) a3 a5 l' h0 (by rw [es]; exact hn) (by omega) fun h3 k3 e kp nw hx => k h3 k3 e ?_) rfl
    obtain ⟨ob, vs', b1, b2, b3, b4, b5, b6⟩ := hx
    refine ⟨.of_ext ((e1'.trans e2).trans kp), ?_, ob, vs', b1, b2, b3, b4, b5, b6⟩
    cases z : s.heap.get? e with
    | none => rfl
    | some o => have := (e1'.trans e2) _ _ z; rw [nw] at this; cases this)
/-- a while whose test raises at once -/
theorem while_out {sub r : Expr} {op : CmpOp} {pc pos : Pos} {body : List Stmt} {rest : List Stmt} (C : Ctx env outer h₀) (hfr : A.frames = some (env :: outer)) (n : Now K env outer h₀ Γ N mu s.heap) (ho : Outs K A env outer sub c s)
    (k : ∀ mu' h' tk e tb, (∀ b ∈ mu, b ∈ mu') → Fl K env h₀ N mu' h' e tb c (rawInt env.locals) → Now K env outer h₀ Γ N mu' h' → E (.ref e) (Sx s h' tk))
    (hm : behindInMarks op r = false := by with_unfolding_all rfl) : wpAny K.M A (execs (.While (.Compare sub [op] [r] pc) body [] pos :: rest) env) Q E s := by
  refine wpAny_execs_cons (wpAny_While (codeAny_whileLoop (fun _ s' => s' = s) ?_ 0 rfl))
  intro _ s' hs
  have hs := hs.symm
  subst hs
  refine wpAny_isTrue_Compare1 (ho _ _ fun h1 k1 e x => ?_) hm
  refine exc_note_new (s := Sx s h1 k1) hfr C.hf (n.fr C) x fun h2 x2 => exc_back (s := Sx s h2 k1) x2 fun h3 x3 => ?_
  rw [C.hf] at x3
  obtain ⟨tb, f3, n3⟩ := n.raised C x3
  exact k _ h3 k1 e tb (fun b q => List.mem_append_right _ q) f3 n3
theorem tr_true {k : Nat} {pos : Pos} : Tr K A env Γ N (.Constant (.bool true) k pos) true := fun mu s S =>
  wpAny_isTrue_value (wpAny_Constant_bool (wpAny_truthy_bool ⟨rfl, s.heap, s.toks, rfl, Ext.refl _⟩)) rfl
theorem x_assign2 {D : List Addr} {rest : List Stmt} {x y : Str} {e : Expr} {t : Ty} {p q pos : Pos} (a : At K h₀ D env Γ N mu s.heap) (he : Ev K A env Γ N e t) (ht : ∀ g g' v, t.P g v → t.P g' v) (hx : CanStore env x) (hy : CanStore env y) (k : ∀ h' tk, At K h₀ D env ((y, t) :: (x, t) :: Γ) N mu h' → wpAny K.M A (execs rest env) Q E (Sx s h' tk))
    (he' : (assignEach [.Name x p, .Name y q] env).map (·.2) = [assign (.Name x p) env, assign (.Name y q) env] := by rfl)
    (hw : swappedStores [.Name x p, .Name y q] e env = pure none := by rfl) : wpAny K.M A (execs (.Assign [.Name x p, .Name y q] e pos :: rest) env) Q E s :=
  wpAny_execs_cons (wpAny_Assign_two (he.use a.sat fun v h1 k1 e1 p1 => wpAny_assign_Name (x_store (s := Sx s h1 k1) (a.ext e1) hx p1 fun h2 k2 a2 => wpAny_assign_Name (x_store (t := t) (s := Sx s h2 k2) a2 hy (ht _ _ _ p1) fun h3 k3 a3 => k h3 k3 a3))) he' hw)
theorem ev_extend {x : Str} {px apos pos : Pos} {e : Expr} {a : Addr} {j : Nat} {ds es : List PyData} (hx : Γ.lookup x = some (isv (.ref a))) (hN : N[j]? = some (a, ds)) (y : Ev K A env Γ N e (tL es)) (hz : ds.length + es.length ≤ sizeLine)
    (he : starEach [e] env = (false, eval e env) :: starEach [] env := by rfl) (hbase : attributeBase (.Name x px) "extend" env (eval (.Name x px) env) = eval (.Name x px) env := by rfl)
    (hfew : ((backTo pos (starEach [e] env)).all (fun x => !x.1) && (backToKw pos (keywordEach [] env)).all (fun x => x.1.isSome) && decide ([e].length + ([] : List Keyword).length + (if ([] : List Keyword).isEmpty then 0 else 1) < 30)) = true := by rfl)
    (hline : (apos.endLine == pos.line) = true := by rfl) (hp : (backTo pos (starEach [] env)).any (·.1) = false := by rfl)
    (hn : (x == ("__classdict__" : Str)) = false := by decide) (hb : (x == ("__debug__" : Str)) = false := by decide) :
    EvM K A env Γ N (.Call (.Attribute (.Name x px) "extend" apos) [e] [] pos) (dat .none) (N.set j (a, ds ++ es)) := fun mu s S => by
  have hm := List.mem_of_getElem? hN
  refine method_go (ev_name hx hn hb) (Evs.cons y Evs.nil he) S PySem.F.plainAttrs_list PySem.F.slot_list_extend PySem.F.type_list_extend (fun v h1 k1 e1 p1 => ?_) (fun v vs h1 k1 e1 S1 p1 p2 => ?_) hbase hfew hline he hp
  · have p1 : v = .ref a := p1
    subst p1
    obtain ⟨its, l, r⟩ := (S.ext e1).lists _ hm
    exact ⟨l.isList.typeIs, fun b hb => by cases hb; obtain ⟨_, e⟩ := l; exact ⟨_, e, rfl⟩⟩
  · have p1 : v = .ref a := p1
    subst p1
    cases p2 with
    | cons q p2 =>
      cases p2
      obtain ⟨its, ⟨n1, l⟩, r⟩ := S1.lists _ hm
      obtain ⟨b, its2, rfl, l2, r2⟩ := RD.list_inv q
      obtain ⟨n2, l2⟩ := plain_ext l2 (fz_ext _ _)
      have s1 : its.size = ds.length := by have := rds_length r; simpa using this
      have s2 : its2.size = es.length := by have := rds_length r2; simpa using this
      have hz' : its.size + its2.size ≤ sizeLine := by rw [s1, s2]; exact hz
      refine call_meets (s := Sx s h1 k1) PySem.F.slot_list_extend ⟨_, l, rfl⟩ PySem.F.entry_list_extend (PySem.F.args_list_extend_2 _ _) (AutoSeq1.list_extend_list_list_0 a its n1 b its2 n2 (extend_door hz') (Nat.le_trans (Nat.le_add_right _ _) hz') (Nat.le_succ_of_le hz')) ⟨l, l2, ?_⟩
      have l3 : (h1.update a (Obj.mapSeq fun x => x ++ its2)).PlainList a (its ++ its2) := ⟨_, by rw [Heap.get?_update_self _ l (by rw [mapSeq_app]; rfl), mapSeq_app]⟩
      have sb : Heap.SameBut a h1 (h1.update a (Obj.mapSeq fun x => x ++ its2)) := Heap.SameBut.update ..
      show ∃ h' tk, _
      refine ⟨_, k1, rfl, ?_⟩
      generalize h1.update a (Obj.mapSeq fun x => x ++ its2) = h2 at l3 sb ⊢
      have c2 : Chg [a] h1 h2 := Chg.of_same sb fun _ _ => let ⟨_, q⟩ := l3; ⟨_, q⟩
      have k2 := fz_chg (mu := mu) c2 fun b hb => by rw [List.mem_singleton.mp hb]; exact S1.hid _ (own_list hm)
      refine ⟨(Chg.of_ext e1).trans (c2.mono fun b hb => by rw [List.mem_singleton.mp hb]; exact List.mem_map.mpr ⟨_, hm, rfl⟩), S1.setList hN c2 l3 ?_, RD.none _⟩
      simp only [Array.toList_append]
      exact All2.append (RDs.mono r k2) (RDs.mono r2 k2)
end
end Mine

namespace Mine
variable {K : Wd}
theorem sldF_nil (js : List Nat) : sldF [] js = ([], js) := by unfold sldF; rfl
theorem sldF_nil' (ks : List Nat) : sldF ks [] = (ks, []) := by
  cases ks with
  | nil => exact sldF_nil []
  | cons k ks => unfold sldF; rfl
theorem sldF_cons (k j : Nat) (ks js : List Nat) : sldF (k :: ks) (j :: js) = if k < j then (k :: (sldF ks (j :: js)).1, (sldF ks (j :: js)).2) else if j < k then ((sldF (k :: ks) js).1, j :: (sldF (k :: ks) js).2) else sldF ks js := by rw [sldF]
structure SSt (ks js : List Nat) where
  i : Nat
  j : Nat
  ms : List Nat
  us : List Nat
  hi : i ≤ ks.length
  hj : j ≤ js.length
  hm : ms.length ≤ i
  hu : us.length ≤ j
  inv : (ms ++ (sldF (ks.drop i) (js.drop j)).1, us ++ (sldF (ks.drop i) (js.drop j)).2) = sldF ks js
variable {ks js : List Nat}
theorem SSt.fin (st : SSt ks js) (h : st.i = ks.length ∨ st.j = js.length) : st.ms ++ ks.drop st.i = (sldF ks js).1 ∧ st.us ++ js.drop st.j = (sldF ks js).2 := by
  have e := st.inv
  rcases h with h | h
  · rw [h, List.drop_length, sldF_nil] at e
    rw [h, List.drop_length, ← e]
    exact ⟨rfl, rfl⟩
  · rw [h, List.drop_length, sldF_nil'] at e
    rw [h, List.drop_length, ← e]
    exact ⟨rfl, rfl⟩
theorem drop_cons {l : List Nat} {i : Nat} (h : i < l.length) : l.drop i = l.getD i 0 :: l.drop (i + 1) := by
  rw [List.drop_eq_getElem_cons h]
  congr 1
  simp [List.getD, h]
def SSt.lt (st : SSt ks js) (h1 : st.i < ks.length) (h2 : st.j < js.length) (h : ks.getD st.i 0 < js.getD st.j 0) : SSt ks js :=
  ⟨st.i + 1, st.j, st.ms ++ [ks.getD st.i 0], st.us, h1, st.hj, by have := st.hm; simp; omega, st.hu, by
    have e := st.inv
    rw [drop_cons h1, drop_cons h2, sldF_cons, if_pos h, ← drop_cons h2] at e
    rw [← e]
    simp⟩
def SSt.gt (st : SSt ks js) (h1 : st.i < ks.length) (h2 : st.j < js.length) (h : js.getD st.j 0 < ks.getD st.i 0) : SSt ks js :=
  ⟨st.i, st.j + 1, st.ms, st.us ++ [js.getD st.j 0], st.hi, h2, st.hm, by have := st.hu; simp; omega, by
    have e := st.inv
    rw [drop_cons h1, drop_cons h2, sldF_cons, if_neg (by omega), if_pos h, ← drop_cons h1] at e
    rw [← e]
    simp⟩
def SSt.eq (st : SSt ks js) (h1 : st.i < ks.length) (h2 : st.j < js.length) (h : ¬ ks.getD st.i 0 < js.getD st.j 0) (h' : ¬ js.getD st.j 0 < ks.getD st.i 0) : SSt ks js :=
  ⟨st.i + 1, st.j + 1, st.ms, st.us, h1, h2, Nat.le_succ_of_le st.hm, Nat.le_succ_of_le st.hu, by
    have e := st.inv
    rw [drop_cons h1, drop_cons h2, sldF_cons, if_neg h, if_neg h'] at e
    exact e⟩
theorem up_ne {l : List Nat} (h : l.Pairwise (· < ·)) {i : Nat} (hi : i + 1 < l.length) : l.getD i 0 < l.getD (i + 1) 0 := by
  have := List.pairwise_iff_getElem.mp h i (i + 1) (by omega) hi (by omega)
  simpa [List.getD, hi, (by omega : i < l.length)] using this

section
variable {A : Around} {env : Env} {outer : List Env} {h₀ : Heap} {Γ Γ' : Gam} {N N' : Led} {mu mu' : List Addr} {s : Shared} {Q : Flow → Shared → Prop} {E : Value → Shared → Prop}
theorem sld_suite {b1 b2 : Addr} {es as ms us : List PyData} {i j : Nat} {p1 p2 p3 p4 p5 p6 p7 p8 q1 q2 q3 q4 q5 q6 q7 q8 pb : Pos} (n : Now K env outer h₀ Γ [(b2, us), (b1, ms)] mu s.heap)
    (gm : Γ.lookup ("missing" : Str) = some (isv (.ref b1))) (gu : Γ.lookup ("unexpected" : Str) = some (isv (.ref b2))) (ge : Γ.lookup ("expected" : Str) = some (tL es)) (ga : Γ.lookup ("actual" : Str) = some (tL as)) (gi : Γ.lookup ("i" : Str) = some (tI i)) (gj : Γ.lookup ("j" : Str) = some (tI j))
    (z1 : es.length ≤ 1000) (z2 : as.length ≤ 1000) (z3 : ms.length ≤ 1000) (z4 : us.length ≤ 1000)
    (k : ∀ h' tk, Now K env outer h₀ Γ [(b2, us ++ as.drop j), (b1, ms ++ es.drop i)] mu h' → Q .brk (Sx s h' tk))
    (hi : interactive env = false := by rfl) (hl1 : (p2.endLine == p7.line) = true := by rfl) (hl2 : (q2.endLine == q7.line) = true := by rfl) :
    wpAny K.M A (execs [.Expr (.Call (.Attribute (.Name "missing" p1) "extend" p2) [.Subscript (.Name "expected" p3) (.Slice (some (.Name "i" p4)) none none p5) p6] [] p7) p8,
      .Expr (.Call (.Attribute (.Name "unexpected" q1) "extend" q2) [.Subscript (.Name "actual" q3) (.Slice (some (.Name "j" q4)) none none q5) q6] [] q7) q8, .Break pb] env) Q E s := by
  have l1 : (es.drop i).length ≤ es.length := by simp
  have l2 : (as.drop j).length ≤ as.length := by simp
  refine x_expr n.at (ev_extend (j := 1) gm rfl (ev_from (i := (i : Int)) (ev_name ge) (ev_name gi) (by omega) (by rw [sizeLine_eq]; omega)) (by rw [Int.toNat_natCast, sizeLine_eq]; omega) (hline := hl1)) rfl (fun h1 t1 a1 => ?_) hi
  simp only [Int.toNat_natCast, List.set_cons_succ, List.set_cons_zero] at a1
  refine x_expr a1 (ev_extend (j := 0) gu rfl (ev_from (i := (j : Int)) (ev_name ga) (ev_name gj) (by omega) (by rw [sizeLine_eq]; omega)) (by rw [Int.toNat_natCast, sizeLine_eq]; omega) (hline := hl2)) rfl (fun h2 t2 a2 => ?_) hi
  simp only [Int.toNat_natCast, List.set_cons_succ, List.set_cons_zero] at a2
  exact x_brk (k h2 t2 (n.step a2 fun _ q => q))
theorem sld_ret {b1 b2 : Addr} {ms us : List PyData} {p1 p2 p3 pos : Pos} {kk : Nat} (n : Now K env outer h₀ Γ [(b2, us), (b1, ms)] mu' s.heap) (hm : ∀ b ∈ mu, b ∈ mu') (hb1 : b1 ∉ mu) (hb2 : b2 ∉ mu)
    (gm : Γ.lookup ("missing" : Str) = some (isv (.ref b1))) (gu : Γ.lookup ("unexpected" : Str) = some (isv (.ref b2)))
    (k : ∀ v h' tk, SExt (frs outer) h₀ h' → (tT [.list ms, .list us]).P (fz h' mu) v → Q (.ret v) (Sx s h' tk)) :
    wpAny K.M A (execs [.Return (some (.Tuple [.Name "missing" p1, .Name "unexpected" p2] kk p3)) pos] env) Q E s := by
  have y : Evs K A env Γ [(b2, us), (b1, ms)] [.Name "missing" p1, .Name "unexpected" p2] [isv (.ref b1), isv (.ref b2)] := Evs.cons (ev_name gm) (Evs.cons (ev_name gu) Evs.nil)
  refine wpAny_execs_cons (wpAny_Return_some (wpAny_Tuple (y.use n.sat fun vs h1 k1 e1 p1 => ?_)))
  cases p1 with
  | cons q1 p1 => cases p1 with
    | cons q2 p1 =>
      cases p1
      have q1 : _ = Value.ref b1 := q1
      have q2 : _ = Value.ref b2 := q2
      subst q1 q2
      have S1 := n.sat.ext e1
      refine ⟨by rw [sizeLine_eq]; simp, k _ _ k1 (n.sx.chg (Chg.of_ext (D := []) (e1.trans (Ext.push _ _))) (fun _ q => nomatch q)) (rd_push_tuple (s := Sx s h1 k1) (mu := mu) (fun b hb => S1.live b (hm b hb)) ?_)⟩
      obtain ⟨i1, ⟨n1, l1⟩, r1⟩ := S1.lists (b1, ms) (by simp)
      obtain ⟨i2, ⟨n2, l2⟩, r2⟩ := S1.lists (b2, us) (by simp)
      exact .cons (RD.list (its := i1) ⟨n1, fz_of l1 hb1⟩ (RDs.mono r1 (fz_less hm))) (.cons (RD.list (its := i2) ⟨n2, fz_of l2 hb2⟩ (RDs.mono r2 (fz_less hm))) .nil)
end
end Mine

namespace Mine
variable {K : Wd} {ks js : List Nat}
section
variable {A A' : Around} {env : Env} {outer : List Env} {h₀ : Heap} {Γ Γ' : Gam} {N N' : Led} {mu mu' : List Addr} {s : Shared} {e tb : Addr} {c y : Value}
theorem fl_back {E : Value → Shared → Prop} (C : Ctx env outer h₀) (x : Fl K env h₀ N mu s.heap e tb c y) (n : Now K env outer h₀ Γ N mu s.heap)
    (k : ∀ h', Fl K env h₀ N mu h' e tb c (rawInt env.locals) → Now K env outer h₀ Γ N mu h' → E (.ref e) (Sx s h' s.toks)) : cameBackBy K.M A env E (.ref e) s := by
  obtain ⟨oe, vs, a1, a2, a3, a4, a5, a6⟩ := x.ex
  refine wpAny_bind (wpAny_field a1 a3 a6 ?_)
  rw [if_neg (by simp)]
  exact fl_flight env.frame x n fun h' x' n' => k h' (by rw [C.hf] at x'; exact x') n'
theorem fl_pass {α : Type} {Q : α → Shared → Prop} {E : Value → Shared → Prop} {what : String} (C : Ctx env outer h₀) (x : Fl K env h₀ N mu s.heap e tb c y) (n : Now K env outer h₀ Γ N mu s.heap)
    (k : ∀ h', Fl K env h₀ N mu h' e tb c (rawInt env.locals) → Now K env outer h₀ Γ N mu h' → E (.ref e) (Sx s h' s.toks)) : wpAny K.M A (PySem.passOn what (.ref e) env : Sem α) Q E s := by
  obtain ⟨oe, vs, a1, a2, a3, a4, a5, a6⟩ := x.ex
  unfold PySem.passOn
  refine wpAny_bind (wpAny_field a1 a3 a6 ?_)
  rw [if_neg (by simp)]
  exact wpAny_bind (fl_flight env.frame x n fun h' x' n' => wpAny_throw (k h' (by rw [C.hf] at x'; exact x') n'))
abbrev vS (e : Nat → Str) (k : Nat) : PyData := .str (e k)
theorem sld_end {b1 b2 : Addr} {e : Nat → Str} {QQ Q : Flow → Shared → Prop} {E E' : Value → Shared → Prop} {p1 p2 p3 p4 p5 p6 p7 p8 q1 q2 q3 q4 q5 q6 q7 q8 pb r1 r2 r3 rp : Pos} {kk : Nat} (st : SSt ks js) (hst : st.i = ks.length ∨ st.j = js.length) (zk : ks.length ≤ 1000) (zj : js.length ≤ 1000)
    (hQ : ∀ h' tk, wpAny K.M A (execs [.Return (some (.Tuple [.Name "missing" r1, .Name "unexpected" r2] kk r3)) rp] env) Q E (Sx s h' tk) → QQ .brk (Sx s h' tk))
    (n : Now K env outer h₀ Γ [(b2, st.us.map (vS e)), (b1, st.ms.map (vS e))] mu' s.heap) (hm : ∀ b ∈ mu, b ∈ mu') (hb1 : b1 ∉ mu) (hb2 : b2 ∉ mu)
    (gm : Γ.lookup ("missing" : Str) = some (isv (.ref b1))) (gu : Γ.lookup ("unexpected" : Str) = some (isv (.ref b2))) (ge : Γ.lookup ("expected" : Str) = some (tL (ks.map (vS e)))) (ga : Γ.lookup ("actual" : Str) = some (tL (js.map (vS e)))) (gi : Γ.lookup ("i" : Str) = some (tI st.i)) (gj : Γ.lookup ("j" : Str) = some (tI st.j))
    (k : ∀ v h' tk, SExt (frs outer) h₀ h' → (tT [.list ((sldF ks js).1.map (vS e)), .list ((sldF ks js).2.map (vS e))]).P (fz h' mu) v → Q (.ret v) (Sx s h' tk))
    (hi : interactive env = false := by rfl) (hl1 : (p2.endLine == p7.line) = true := by rfl) (hl2 : (q2.endLine == q7.line) = true := by rfl) :
    wpAny K.M A' (execs [.Expr (.Call (.Attribute (.Name "missing" p1) "extend" p2) [.Subscript (.Name "expected" p3) (.Slice (some (.Name "i" p4)) none none p5) p6] [] p7) p8,
      .Expr (.Call (.Attribute (.Name "unexpected" q1) "extend" q2) [.Subscript (.Name "actual" q3) (.Slice (some (.Name "j" q4)) none none q5) q6] [] q7) q8, .Break pb] env) QQ E' s := by
  have h1 := st.hm
  have h2 := st.hu
  have h3 := st.hi
  have h4 := st.hj
  refine sld_suite n gm gu ge ga gi gj (by simpa using zk) (by simpa using zj) (by simp; omega) (by simp; omega) (fun h' tk n' => hQ h' tk ?_) hi hl1 hl2
  obtain ⟨f1, f2⟩ := st.fin hst
  rw [← List.map_drop, ← List.map_append, ← List.map_drop, ← List.map_append, f1, f2] at n'
  exact sld_ret (s := Sx s h' tk) n' hm hb1 hb2 gm gu fun v h'' tk' x p => k v h'' tk' x p
end

theorem sld_ok {f : Addr} {e : Nat → Str} {n : Nat} (hd : K.β.HasDef dSLD f) (hE : Bn K.β "IndexError" (.type "IndexError")) (H : ∀ i j, i < n → j < n → decide ((e i).cps.toList < (e j).cps.toList) = decide (i < j)) (hk : ∀ k ∈ ks, k < n) (hj : ∀ k ∈ js, k < n) (pk : ks.Pairwise (· < ·)) (pj : js.Pairwise (· < ·)) (zk : ks.length ≤ 1000) (zj : js.length ≤ 1000) (d : Nat) :
    FnS K (d + 1) f [tL (ks.map (vS e)), tL (js.map (vS e))] (tT [.list ((sldF ks js).1.map (vS e)), .list ((sldF ks js).2.map (vS e))]) := by
  have ne : ∀ i j, i < n → j < n → i < j → (e j == e i) = false := fun i j hi hj hij => by
    refine beq_eq_false_iff_ne.mpr fun q => ?_
    have h1 := H i j hi hj
    rw [q, decide_eq_true hij] at h1
    exact List.lt_irrefl _ (of_decide_eq_true h1)
  refine fnS_of (Γ := [("expected", tL (ks.map (vS e))), ("actual", tL (js.map (vS e)))]) hd rfl rfl rfl (by decide) (fun vals hv => ?_) ?_
  · cases hv with
    | @cons v1 _ _ _ _ hv =>
      cases hv with
      | @cons v2 _ _ _ _ hv =>
        cases hv
        exact ⟨[("expected", v1), ("actual", v2)], fun _ _ _ => rfl, by rfl, fun L cd g hp => by
          cases hp with
          | cons p1 hp => cases hp with
            | cons p2 hp => exact ⟨.inl ⟨rfl, _, rfl, p1⟩, .inl ⟨rfl, _, rfl, p2⟩, trivial⟩⟩
  · intro A L cd mu h₀ outer s Q hA hfr ho hFr hmu hL z k
    have C : Ctx (envOfC dSLD.name dSLD.scope L f cd) outer h₀ := ⟨rfl, rfl, ho⟩
    refine x_assign2 z ev_int (fun g g' v p => by obtain ⟨t, rfl⟩ := RD.int_inv p; exact RD.int _ _ _) (.inl rfl) (.inl rfl) fun h1 t1 a1 => ?_
    refine x_assign_new (ds := []) a1 (evf_list Evs.nil (by rw [sizeLine_eq]; simp)) (.inl rfl) fun b1 h2 t2 hb1 a2 => ?_
    refine x_assign_new (ds := []) a2 (evf_list Evs.nil (by rw [sizeLine_eq]; simp)) (.inl rfl) fun b2 h3 t3 hb2 a3 => ?_
    have hb2' : b2 ∉ mu := fun q => hb2 (List.mem_append_right _ q)
    have fm : ∀ b ∈ frs outer, b ∈ [b2] ++ ([b1] ++ mu) ∧ K.β.hb.get? b = none := fun b q => ⟨List.mem_append_right _ (List.mem_append_right _ (hmu b q).1), (hmu b q).2⟩
    let st0 : SSt ks js := ⟨0, 0, [], [], Nat.zero_le _, Nat.zero_le _, Nat.le_refl _, Nat.le_refl _, by simp⟩
    let G : SSt ks js → Gam := fun st => [("i", tI st.i), ("j", tI st.j), ("unexpected", isv (.ref b2)), ("missing", isv (.ref b1)), ("expected", tL (ks.map (vS e))), ("actual", tL (js.map (vS e)))]
    refine x_while (ι := SSt ks js) G (fun st => [(b2, st.us.map (vS e)), (b1, st.ms.map (vS e))]) (fun st => (ks.length - st.i) + (js.length - st.j)) (fun _ => true) st0 (a3.sub ⟨rfl, rfl, rfl, rfl, rfl, rfl, trivial⟩) (fun _ => tr_true) (fun st h tk E' _ a => ?_) (fun st h tk hb => by cases hb)
    refine wpAny_execs_cons (wpAny_Try_except ?_)
    have kk : ∀ v h' tk, SExt (frs outer) h₀ h' → (tT [.list ((sldF ks js).1.map (vS e)), .list ((sldF ks js).2.map (vS e))]).P (fz h' mu) v → Q (.ret v) (Sx s h' tk) := fun v h' tk x p => k (.ret v) h' tk mu x (fun _ q => q) p
    have hsub : ∀ b ∈ mu, b ∈ [b2] ++ ([b1] ++ mu) := fun b q => List.mem_append_right _ (List.mem_append_right _ q)
    have si := st.hi
    have sj := st.hj
    have outE : ∀ {A' : Around} {Γ' : Gam} {N' : Led} {mu' : List Addr} {s' : Shared} {p q r : Pos} {i : Nat}, A'.handled = none → Sat K.β (envOfC dSLD.name dSLD.scope L f cd) Γ' N' mu' s'.heap → Γ'.lookup ("expected" : Str) = some (tL (ks.map (vS e))) → Γ'.lookup ("i" : Str) = some (tI i) → i = ks.length → Outs K A' (envOfC dSLD.name dSLD.scope L f cd) outer (.Subscript (.Name "expected" p) (.Name "i" q) r) .none s' := fun hh S g1 g2 hi =>
      outs_plain (n := ((_ : Nat) : Int)) S hh g1 g2 (by omega) (by simp; omega) (by omega)
    have outA : ∀ {A' : Around} {Γ' : Gam} {N' : Led} {mu' : List Addr} {s' : Shared} {p q r : Pos} {i : Nat}, A'.handled = none → Sat K.β (envOfC dSLD.name dSLD.scope L f cd) Γ' N' mu' s'.heap → Γ'.lookup ("actual" : Str) = some (tL (js.map (vS e))) → Γ'.lookup ("j" : Str) = some (tI i) → i = js.length → Outs K A' (envOfC dSLD.name dSLD.scope L f cd) outer (.Subscript (.Name "actual" p) (.Name "j" q) r) .none s' := fun hh S g1 g2 hi =>
      outs_plain (n := ((_ : Nat) : Int)) S hh g1 g2 (by omega) (by simp; omega) (by omega)
    by_cases hi : ks.length ≤ st.i
    · refine wpAny_execs_cons (wpAny_Assign_Name (outE (s' := Sx s h tk) hA.h a.sat rfl rfl (by omega) _ _ fun h' tk' ee x => ?_))
      exact caught_new (s := Sx s h' tk') C hfr hE rfl (Now.of_at a fm) x fun mu' ee h'' tk'' E'' hm n' => sld_end (s := Sx s h'' tk'') (mu := mu) st (.inl (by omega)) zk zj (fun _ _ q => q) n' (fun b q => hm b (hsub b q)) hb1 hb2' rfl rfl rfl rfl rfl rfl fun v h3 tk3 x p => kk v h3 tk3 x p
    replace hi := Nat.lt_of_not_le hi
    refine x_assign a (ev_sub (ev_name rfl) (ev_name rfl) (op_item (i := (st.i : Int)) plain_name (by omega) (by omega) (by rw [Int.toNat_natCast]; exact map_get hi))) (.inl rfl) fun h4 t4 a4 => ?_
    by_cases hj' : js.length ≤ st.j
    · refine wpAny_execs_cons (wpAny_Assign_Name (outA (s' := Sx s h4 t4) hA.h a4.sat rfl rfl (by omega) _ _ fun h' tk' ee x => ?_))
      exact caught_new (s := Sx s h' tk') C hfr hE rfl (Now.of_at a4 fm) x fun mu' ee h'' tk'' E'' hm n' => sld_end (s := Sx s h'' tk'') (mu := mu) st (.inr (by omega)) zk zj (fun _ _ q => q) n' (fun b q => hm b (hsub b q)) hb1 hb2' rfl rfl rfl rfl rfl rfl fun v h3 tk3 x p => kk v h3 tk3 x p
    replace hj' := Nat.lt_of_not_le hj'
    refine x_assign a4 (ev_sub (ev_name rfl) (ev_name rfl) (op_item (i := (st.j : Int)) plain_name (by omega) (by omega) (by rw [Int.toNat_natCast]; exact map_get hj'))) (.inl rfl) fun h5 t5 a5 => ?_
    have ki : ks.getD st.i 0 < n := getD_lt hk hi
    have kj : js.getD st.j 0 < n := getD_lt hj hj'
    have o1 : Op2 K A (compareOp .Lt) (tS (e (ks.getD st.i 0))) (tS (e (js.getD st.j 0))) (tB (decide (ks.getD st.i 0 < js.getD st.j 0))) := by
      have := op_lts (K := K) (A := A) (x := e (ks.getD st.i 0)) (y := e (js.getD st.j 0))
      rw [H _ _ ki kj] at this; exact this
    have o2 : Op2 K A (compareOp .Gt) (tS (e (ks.getD st.i 0))) (tS (e (js.getD st.j 0))) (tB (decide (js.getD st.j 0 < ks.getD st.i 0))) := by
      have := op_gts (K := K) (A := A) (x := e (ks.getD st.i 0)) (y := e (js.getD st.j 0))
      rw [H _ _ kj ki] at this; exact this
    have e1 : ((st.i : Int) + 1) = ((st.i + 1 : Nat) : Int) := by omega
    have e2 : ((st.j : Int) + 1) = ((st.j + 1 : Nat) : Int) := by omega
    refine x_if a5 (tr_cmp (ev_name rfl) (ev_name rfl) o1) (fun hb h6 t6 a6 => ?_) (fun hb h6 t6 a6 => ?_)
    · -- the lesser one is missing
      have hlt := of_decide_eq_true hb
      refine x_expr a6 (ev_append (j := 1) (d := vS e (ks.getD st.i 0)) rfl rfl (ev_name rfl) (by have := st.hm; rw [sizeLine_eq]; simp; omega)) rfl fun h7 t7 a7 => ?_
      simp only [List.set_cons_succ, List.set_cons_zero] at a7
      refine x_aug a7 rfl ev_int (.inl rfl) fun h8 t8 a8 => ?_
      rw [e1] at a8
      have en : [(b2, st.us.map (vS e)), (b1, st.ms.map (vS e) ++ [vS e (ks.getD st.i 0)])] = [(b2, (st.lt hi hj' hlt).us.map (vS e)), (b1, (st.lt hi hj' hlt).ms.map (vS e))] := by simp [SSt.lt]
      rw [en] at a8
      by_cases hn : st.i + 1 < ks.length
      · refine x_while (ι := Unit) (fun _ => _) (fun _ => _) (fun _ => 0) (fun _ => false) () a8 (fun _ => tr_cmp (b := false) (ev_sub (ev_name rfl) (ev_name rfl) (op_item (i := ((st.i + 1 : Nat) : Int)) plain_name (by omega) (by omega) (by rw [Int.toNat_natCast]; exact map_get hn))) (ev_name rfl) (by
          have := op_eqs (K := K) (A := A) (x := e (ks.getD (st.i + 1) 0)) (y := e (ks.getD st.i 0))
          rw [ne _ _ ki (getD_lt hk hn) (up_ne pk hn)] at this; exact this)) (fun _ _ _ _ hb => by cases hb) (fun _ h9 t9 _ a9 => x_nil (x_nil (x_nil (x_nil ?_))))
        exact ⟨st.lt hi hj' hlt, h9, t9, by simp only [SSt.lt]; omega, rfl, a9.sub ⟨rfl, rfl, rfl, rfl, rfl, rfl, trivial⟩⟩
      · refine while_out (s := Sx s h8 t8) C hfr (Now.of_at a8 fm) (outE hA.h a8.sat rfl rfl (by omega)) fun mu' h' tk' ee tb hm f' n' => ?_
        exact caught_fl (s := Sx s h' tk') C hE rfl f' n' fun mu'' ee h'' tk'' E'' hm' n'' => sld_end (s := Sx s h'' tk'') (mu := mu) (st.lt hi hj' hlt) (.inl (by simp only [SSt.lt]; omega)) zk zj (fun _ _ q => q) n'' (fun b q => hm' b (hm b (hsub b q))) hb1 hb2' rfl rfl rfl rfl rfl rfl fun v h3 tk3 x p => kk v h3 tk3 x p
    have hle := of_decide_eq_false hb
    refine x_if a6 (tr_cmp (ev_name rfl) (ev_name rfl) o2) (fun hc h7 t7 a7 => ?_) (fun hc h7 t7 a7 => ?_)
    · -- the other one's is unexpected
      have hgt := of_decide_eq_true hc
      refine x_expr a7 (ev_append (j := 0) (d := vS e (js.getD st.j 0)) rfl rfl (ev_name rfl) (by have := st.hu; rw [sizeLine_eq]; simp; omega)) rfl fun h8 t8 a8 => ?_
      simp only [List.set_cons_zero] at a8
      refine x_aug a8 rfl ev_int (.inl rfl) fun h9 t9 a9 => ?_
      rw [e2] at a9
      have en : [(b2, st.us.map (vS e) ++ [vS e (js.getD st.j 0)]), (b1, st.ms.map (vS e))] = [(b2, (st.gt hi hj' hgt).us.map (vS e)), (b1, (st.gt hi hj' hgt).ms.map (vS e))] := by simp [SSt.gt]
      rw [en] at a9
      by_cases hn : st.j + 1 < js.length
      · refine x_while (ι := Unit) (fun _ => _) (fun _ => _) (fun _ => 0) (fun _ => false) () a9 (fun _ => tr_cmp (b := false) (ev_sub (ev_name rfl) (ev_name rfl) (op_item (i := ((st.j + 1 : Nat) : Int)) plain_name (by omega) (by omega) (by rw [Int.toNat_natCast]; exact map_get hn))) (ev_name rfl) (by
          have := op_eqs (K := K) (A := A) (x := e (js.getD (st.j + 1) 0)) (y := e (js.getD st.j 0))
          rw [ne _ _ kj (getD_lt hj hn) (up_ne pj hn)] at this; exact this)) (fun _ _ _ _ hb => by cases hb) (fun _ h10 t10 _ a10 => x_nil (x_nil (x_nil (x_nil (x_nil ?_)))))
        exact ⟨st.gt hi hj' hgt, h10, t10, by simp only [SSt.gt]; omega, rfl, a10.sub ⟨rfl, rfl, rfl, rfl, rfl, rfl, trivial⟩⟩
      · refine while_out (s := Sx s h9 t9) C hfr (Now.of_at a9 fm) (outA hA.h a9.sat rfl rfl (by omega)) fun mu' h' tk' ee tb hm f' n' => ?_
        exact caught_fl (s := Sx s h' tk') C hE rfl f' n' fun mu'' ee h'' tk'' E'' hm' n'' => sld_end (s := Sx s h'' tk'') (mu := mu) (st.gt hi hj' hgt) (.inr (by simp only [SSt.gt]; omega)) zk zj (fun _ _ q => q) n'' (fun b q => hm' b (hm b (hsub b q))) hb1 hb2' rfl rfl rfl rfl rfl rfl fun v h3 tk3 x p => kk v h3 tk3 x p
    have hge := of_decide_eq_false hc
    refine x_aug a7 rfl ev_int (.inl rfl) fun h8 t8 a8 => ?_
    rw [e1] at a8
    have en : [(b2, st.us.map (vS e)), (b1, st.ms.map (vS e))] = [(b2, (st.eq hi hj' hle hge).us.map (vS e)), (b1, (st.eq hi hj' hle hge).ms.map (vS e))] := by simp [SSt.eq]
    rw [en] at a8
    refine wpAny_execs_cons (wpAny_Try_finally ?_)
    by_cases hn : st.i + 1 < ks.length
    · refine x_while (ι := Unit) (fun _ => _) (fun _ => _) (fun _ => 0) (fun _ => false) () a8 (fun _ => tr_cmp (b := false) (ev_sub (ev_name rfl) (ev_name rfl) (op_item (i := ((st.i + 1 : Nat) : Int)) plain_name (by omega) (by omega) (by rw [Int.toNat_natCast]; exact map_get hn))) (ev_name rfl) (by
          have := op_eqs (K := K) (A := A) (x := e (ks.getD (st.i + 1) 0)) (y := e (ks.getD st.i 0))
          rw [ne _ _ ki (getD_lt hk hn) (up_ne pk hn)] at this; exact this)) (fun _ _ _ _ hb => by cases hb) (fun _ h9 t9 _ a9 => x_nil (x_nil ?_))
      refine x_aug a9 rfl ev_int (.inl rfl) fun h10 t10 a10 => ?_
      rw [e2] at a10
      by_cases hn' : st.j + 1 < js.length
      · refine x_while (ι := Unit) (fun _ => _) (fun _ => _) (fun _ => 0) (fun _ => false) () a10 (fun _ => tr_cmp (b := false) (ev_sub (ev_name rfl) (ev_name rfl) (op_item (i := ((st.j + 1 : Nat) : Int)) plain_name (by omega) (by omega) (by rw [Int.toNat_natCast]; exact map_get hn'))) (ev_name rfl) (by
          have := op_eqs (K := K) (A := A) (x := e (js.getD (st.j + 1) 0)) (y := e (js.getD st.j 0))
          rw [ne _ _ kj (getD_lt hj hn') (up_ne pj hn')] at this; exact this)) (fun _ _ _ _ hb => by cases hb) (fun _ h11 t11 _ a11 => x_nil (x_nil (x_nil (x_nil (x_nil (x_nil ?_))))))
        exact ⟨st.eq hi hj' hle hge, h11, t11, by simp only [SSt.eq]; omega, rfl, a11.sub ⟨rfl, rfl, rfl, rfl, rfl, rfl, trivial⟩⟩
      · refine while_out (s := Sx s h10 t10) C hfr (Now.of_at a10 fm) (outA hA.h a10.sat rfl rfl (by omega)) fun mu' h' tk' ee tb hm f' n' => ?_
        refine fl_note (s := Sx s h' tk') C f' (fl_back (s := Sx s h' tk') C f' n' fun hx fx nx => ?_)
        exact caught_fl (s := Sx s hx tk') C hE rfl fx nx fun mu'' ee h'' tk'' E'' hm' n'' => sld_end (s := Sx s h'' tk'') (mu := mu) (st.eq hi hj' hle hge) (.inr (by simp only [SSt.eq]; omega)) zk zj (fun _ _ q => q) n'' (fun b q => hm' b (hm b (hsub b q))) hb1 hb2' rfl rfl rfl rfl rfl rfl fun v h3 tk3 x p => kk v h3 tk3 x p
    · refine while_out (s := Sx s h8 t8) C hfr (Now.of_at a8 fm) (outE hA.h a8.sat rfl rfl (by omega)) fun mu' h' tk' ee tb hm f' n' => ?_
      refine fl_note (s := Sx s h' tk') C f' ⟨ref_ne_byPass _, fl_note (s := Sx s h' tk') C f' (fl_flight (s := Sx s h' tk') none f' n' fun hx fx nx => ?_)⟩
      refine x_aug (s := Sx s hx tk') nx.at rfl ev_int (.inl rfl) fun h9 t9 a9 => ?_
      rw [e2] at a9
      have f9 := fx.at a9 rfl
      have n9 := nx.step a9 fun _ q => q
      by_cases hn' : st.j + 1 < js.length
      · refine x_while (ι := Unit) (fun _ => _) (fun _ => _) (fun _ => 0) (fun _ => false) () a9 (fun _ => tr_cmp (b := false) (ev_sub (ev_name rfl) (ev_name rfl) (op_item (i := ((st.j + 1 : Nat) : Int)) plain_name (by omega) (by omega) (by rw [Int.toNat_natCast]; exact map_get hn'))) (ev_name rfl) (by
          have := op_eqs (K := K) (A := A.mark (some (.ref ee))) (x := e (js.getD (st.j + 1) 0)) (y := e (js.getD st.j 0))
          rw [ne _ _ kj (getD_lt hj hn') (up_ne pj hn')] at this; exact this)) (fun _ _ _ _ hb => by cases hb) (fun _ h11 t11 _ a11 => x_nil ?_)
        refine fl_pass (s := Sx s h11 t11) C (fx.at a11 rfl) (nx.step a11 fun _ q => q) fun hy fy ny => ?_
        exact caught_fl (s := Sx s hy t11) C hE rfl fy ny fun mu'' ee h'' tk'' E'' hm' n'' => sld_end (s := Sx s h'' tk'') (mu := mu) (st.eq hi hj' hle hge) (.inl (by simp only [SSt.eq]; omega)) zk zj (fun _ _ q => q) n'' (fun b q => hm' b (hm b (hsub b q))) hb1 hb2' rfl rfl rfl rfl rfl rfl fun v h3 tk3 x p => kk v h3 tk3 x p
      · refine while_out (s := Sx s h9 t9) C hfr n9 (outs_ctx (n := ((st.j + 1 : Nat) : Int)) n9.sat rfl f9 rfl rfl (by omega) (by simp; omega) (by omega)) fun mu2 h'' tk'' e3 tb3 hm2 f3 n3 => ?_
        refine fl_note (s := Sx s h'' tk'') C f3 (fl_back (s := Sx s h'' tk'') C f3 n3 fun hy fy ny => ?_)
        exact caught_fl (s := Sx s hy tk'') C hE rfl fy ny fun mu'' ee h'' tk'' E'' hm' n'' => sld_end (s := Sx s h'' tk'') (mu := mu) (st.eq hi hj' hle hge) (.inl (by simp only [SSt.eq]; omega)) zk zj (fun _ _ q => q) n'' (fun b q => hm' b (hm2 b (hm b (hsub b q)))) hb1 hb2' rfl rfl rfl rfl rfl rfl fun v h3 tk3 x p => kk v h3 tk3 x p
end Mine

namespace Mine
variable {K : Wd} {ks js : List Nat}
theorem boot_list : bootBuiltins "list" = some (.type "list") := by kernel_rfl
theorem eqvAll_vS (e : Nat → Str) (l : List Nat) : PyData.eqvAll (l.map (vS e)) (l.map (vS e)) = true := by
  induction l with
  | nil => rfl
  | cons n l ih => simp only [List.map_cons, PyData.eqvAll, PyData.eqv, ih]; simp
theorem canLay_vS {e : Nat → Str} (he : ∀ i, PyData.strOk (e i) = true) (l : List Nat) : PyData.canLayAll0 (l.map (vS e)) = true := by
  induction l with
  | nil => rfl
  | cons n l ih => simp only [List.map_cons, PyData.canLayAll0, PyData.canLay0, he] at ih ⊢; rw [ih]; rfl
theorem depth_vS (e : Nat → Str) (l : List Nat) : PyData.depthAll (l.map (vS e)) = 0 := by
  induction l with
  | nil => rfl
  | cons n l ih => simp only [List.map_cons, PyData.depthAll] at ih ⊢; rw [ih]; rfl
theorem shaped_vS {e : Nat → Str} (he : ∀ i, PyData.strOk (e i) = true) (l : List Nat) : SeqAt.shaped (.list (l.map (vS e))) = true := by
  unfold SeqAt.shaped
  simp only [PyData.canLay0, PyData.depth, canLay_vS he, depth_vS]
  decide
theorem shaped_vS2 {e : Nat → Str} (he : ∀ i, PyData.strOk (e i) = true) (l m : List Nat) : SeqAt.shaped (.tuple [.list (l.map (vS e)), .list (m.map (vS e))]) = true := by
  unfold SeqAt.shaped
  simp only [PyData.canLay0, PyData.canLayAll0, PyData.depthAll, PyData.depth, canLay_vS he, depth_vS]
  decide
theorem cl_list {A : Around} {ds : List PyData} (hz : ds.length ≤ sizeLine) : Cl K A (.type "list") [tL ds] (tL ds) := fun mu s vs _ hl p => by
  cases p with
  | cons q r =>
    cases r
    obtain ⟨a, its, rfl, l, r⟩ := RD.list_inv q
    obtain ⟨n, e⟩ := plain_ext l (fz_ext _ _)
    have hs : its.size = ds.length := by have := rds_length r; simpa using this
    refine Gives.of fun Q k => call_list_seq a (.inl rfl) e rfl rfl (fun h' c' kp hn => k _ h' s.toks kp ?_) (by rw [hs]; exact hz)
    exact RD.list (its := its) ⟨c', fz_of hn (new_off hl (Nat.le_refl _))⟩ (RDs.mono r (fz_mono mu kp))
section
variable {A : Around} {env : Env} {outer : List Env} {h₀ h h' : Heap} {Γ Γ' : Gam} {N N' : Led} {mu mu' : List Addr} {s : Shared}
theorem Now.sext (C : Ctx env outer h₀) (n : Now K env outer h₀ Γ N mu h) (x : SExt (frs (env :: outer)) h h') : Now K env outer h₀ Γ N mu h' ∧ Ext (fz h mu) (fz h' mu) := by
  have hF : ∀ b ∈ frs (env :: outer), b ∈ mu ∧ K.β.hb.get? b = none := fun b hb => by
    rcases mem_frs C hb with rfl | hb
    · exact ⟨n.sat.hid _ own_locals, n.sat.low _ own_locals⟩
    · exact n.fm b hb
  refine ⟨⟨n.sat.sext x (n.fr C) hF, n.sx.more x fun b hb => ?_, n.od, n.fm⟩, fun b o e => ?_⟩
  · rcases mem_frs C hb with rfl | hb
    · exact .inr (n.od _ own_locals)
    · exact .inl hb
  · obtain ⟨e, q⟩ := fz_get e
    exact fz_of (x.keep b o (fun z => q (hF b z).1) e) q
theorem Now.ext (n : Now K env outer h₀ Γ N mu h) (k : Ext h h') : Now K env outer h₀ Γ N mu h' := n.step (n.at.ext k) fun _ q => q
/-- an expression that may lay the frames' slots -/
def EvS (K : Wd) (A : Around) (env : Env) (outer : List Env) (h₀ : Heap) (Γ : Gam) (N : Led) (e : Expr) (t : Ty) : Prop :=
  ∀ mu s, Now K env outer h₀ Γ N mu s.heap → wpAny K.M A (eval e env) (fun v s' => ∃ h' tk, s' = Sx s h' tk ∧ Now K env outer h₀ Γ N mu h' ∧ Ext (fz s.heap mu) (fz h' mu) ∧ t.P (fz h' mu) v) no s
theorem EvS.use {e : Expr} {t : Ty} {Q : Value → Shared → Prop} {E : Value → Shared → Prop} (g : EvS K A env outer h₀ Γ N e t) (n : Now K env outer h₀ Γ N mu s.heap) (k : ∀ v h' tk, Now K env outer h₀ Γ N mu h' → Ext (fz s.heap mu) (fz h' mu) → t.P (fz h' mu) v → Q v (Sx s h' tk)) : wpAny K.M A (eval e env) Q E s :=
  wpAny_mono (g mu s n) (by rintro v s' ⟨h', tk, rfl, x, y, z⟩; exact k v h' tk x y z) fun _ _ f => f.elim
theorem Ev.slot {e : Expr} {t : Ty} (x : Ev K A env Γ N e t) : EvS K A env outer h₀ Γ N e t := fun mu s n => x.use n.sat fun v h1 k1 e1 p1 => ⟨h1, k1, rfl, n.ext e1, fz_mono mu e1, p1⟩
theorem evs_call {f : Str} {p pos : Pos} {e : Expr} {es : List Expr} {fa : Addr} {k : Nat} {ts : List Ty} {t : Ty} (C : Ctx env outer h₀) (hA : AOk k A) (hfr : A.frames = some (env :: outer)) (x : Ev K A env Γ N (.Name f p) (isv (.ref fa))) (hk : Kept K.β (.ref fa)) (y : Evs K A env Γ N (e :: es) ts) (c : FnS K k fa ts t)
    (he : starEach (e :: es) env = (false, eval e env) :: starEach es env := by rfl) (hp : (backTo pos (starEach es env)).any (·.1) = false := by rfl) : EvS K A env outer h₀ Γ N (.Call (.Name f p) (e :: es) [] pos) t := fun mu s n =>
  call_go x hk y n.sat (fun vs h1 k1 e1 S1 p1 => by
    have n1 := n.ext e1
    have hF : ∀ b ∈ frs (env :: outer), b ∈ mu ∧ K.β.hb.get? b = none := fun b hb => by
      rcases mem_frs C hb with rfl | hb
      · exact ⟨n.sat.hid _ own_locals, n.sat.low _ own_locals⟩
      · exact n.fm b hb
    refine wpAny_mono (c A (env :: outer) mu (Sx s h1 k1) vs hA hfr (n1.fr C) S1.base S1.live hF p1) ?_ fun _ _ f => f
    rintro v s' ⟨h2, k2, rfl, x2, p2⟩
    obtain ⟨n2, e2⟩ := n1.sext C x2
    exact ⟨h2, k2, rfl, n2, (fz_mono mu e1).trans e2, p2⟩) he hp
theorem evs_cmp {l r : Expr} {op : CmpOp} {pos : Pos} {t₁ t₂ t : Ty} (x : EvS K A env outer h₀ Γ N l t₁) (y : Ev K A env Γ N r t₂) (o : Op2 K A (compareOp op) t₁ t₂ t)
    (hm : behindInMarks op r = false := by with_unfolding_all rfl) : EvS K A env outer h₀ Γ N (.Compare l [op] [r] pos) t := fun mu s n =>
  wpAny_Compare1 (x.use n fun v h1 k1 n1 e1 p1 => y.use (s := Sx s h1 k1) n1.sat fun u h2 k2 e2 p2 =>
    (o mu (Sx s h2 k2) v u (n1.sat.ext e2).base (n1.sat.ext e2).live (t₁.mono _ _ _ p1 (fz_mono mu e2)) p2).use fun z h3 k3 e3 p3 => ⟨h3, k3, rfl, n1.ext (e2.trans e3), e1.trans (fz_mono mu (e2.trans e3)), p3⟩) hm
theorem evs_and {e₁ e₂ : Expr} {rest : List Expr} {pos : Pos} {t : Ty} (x : EvS K A env outer h₀ Γ N e₁ (tB true)) (y : EvS K A env outer h₀ Γ N (.BoolOp .And (e₂ :: rest) pos) t) : EvS K A env outer h₀ Γ N (.BoolOp .And (e₁ :: e₂ :: rest) pos) t := fun mu s n =>
  BoolOp_and (x.use n fun v h1 k1 n1 e1 p1 => by
    rw [RD.bool_inv p1]
    refine wpAny_truthy_bool ?_
    simp only [if_true]
    exact y.use (s := Sx s h1 k1) n1 fun u h2 k2 n2 e2 p2 => ⟨h2, k2, rfl, n2, e1.trans e2, p2⟩)
theorem evs_one {e : Expr} {pos : Pos} {t : Ty} (x : EvS K A env outer h₀ Γ N e t) : EvS K A env outer h₀ Γ N (.BoolOp .And [e] pos) t := fun mu s n => BoolOp_one (x mu s n)
theorem x_retS {Q : Flow → Shared → Prop} {E : Value → Shared → Prop} {rest : List Stmt} {pos : Pos} {e : Expr} {t : Ty} (n : Now K env outer h₀ Γ N mu s.heap) (he : EvS K A env outer h₀ Γ N e t) (k : ∀ v h' tk, Now K env outer h₀ Γ N mu h' → t.P (fz h' mu) v → Q (.ret v) (Sx s h' tk)) : wpAny K.M A (execs (.Return (some e) pos :: rest) env) Q E s :=
  wpAny_execs_cons (wpAny_Return_some (he.use n fun v h1 k1 n1 e1 p1 => k v h1 k1 n1 p1))
end

theorem once_ok {f fs : Addr} {e : Nat → Str} {n : Nat} {ls : List Nat} (hd : K.β.HasDef dOnce f) (hs : K.β.HasDef dSLD fs) (hE : Bn K.β "IndexError" (.type "IndexError")) (hli : Bn K.β "list" (.type "list")) (H : ∀ i j, i < n → j < n → decide ((e i).cps.toList < (e j).cps.toList) = decide (i < j)) (hk : ∀ k ∈ ks, k < n) (hj : ∀ k ∈ js, k < n) (pk : ks.Pairwise (· < ·)) (pj : js.Pairwise (· < ·)) (zk : ks.length ≤ 1000) (zj : js.length ≤ 1000) (zl : ls.length ≤ 1000)
    (he : ∀ i, PyData.strOk (e i) = true) (r1 : sldF ks js = (ls, [])) (r2 : sldF js ks = ([], ls)) (d : Nat) : FnS K (d + 2) f [tL (ks.map (vS e)), tL (js.map (vS e)), tL (ls.map (vS e))] (tB true) := by
  refine fnS_of (Γ := [("writings", tL (ks.map (vS e))), ("first", tL (js.map (vS e))), ("later", tL (ls.map (vS e)))]) hd rfl rfl rfl (by decide) (fun vals hv => ?_) ?_
  · cases hv with
    | @cons v1 _ _ _ _ hv =>
      cases hv with
      | @cons v2 _ _ _ _ hv =>
        cases hv with
        | @cons v3 _ _ _ _ hv =>
        cases hv
        exact ⟨[("writings", v1), ("first", v2), ("later", v3)], fun _ _ _ => rfl, by rfl, fun L cd g hp => by
          cases hp with
          | cons p1 hp => cases hp with
            | cons p2 hp => cases hp with
              | cons p3 hp => exact ⟨.inl ⟨rfl, _, rfl, p1⟩, .inl ⟨rfl, _, rfl, p2⟩, .inl ⟨rfl, _, rfl, p3⟩, trivial⟩⟩
  · intro A L cd mu h₀ outer s Q hA hfr ho hFr hmu hL z k
    have C : Ctx (envOfC dOnce.name dOnce.scope L f cd) outer h₀ := ⟨rfl, rfl, ho⟩
    refine x_assign z (ev_call (ev_blt rfl hli.g hli.b) (.inr (.inl ⟨_, rfl⟩)) (Evs.cons (ev_name rfl) Evs.nil) (cl_list (by rw [sizeLine_eq]; simp; omega))) (.inl rfl) fun h1 t1 a1 => ?_
    refine x_assign a1 (ev_call (ev_blt rfl hli.g hli.b) (.inr (.inl ⟨_, rfl⟩)) (Evs.cons (ev_name rfl) Evs.nil) (cl_list (by rw [sizeLine_eq]; simp; omega))) (.inl rfl) fun h2 t2 a2 => ?_
    have c1 := sld_ok hs hE H hk hj pk pj zk zj d
    have c2 := sld_ok hs hE H hj hk pj pk zj zk d
    rw [r1] at c1
    rw [r2] at c2
    have e1 : PyData.eqv (.tuple [.list (ls.map (vS e)), .list ([].map (vS e))]) (.tuple [.list (ls.map (vS e)), .list []]) = true := by
      simp only [PyData.eqv, PyData.eqvAll, eqvAll_vS, List.map_nil]; rfl
    have e2 : PyData.eqv (.tuple [.list ([].map (vS e)), .list (ls.map (vS e))]) (.tuple [.list [], .list (ls.map (vS e))]) = true := by
      simp only [PyData.eqv, PyData.eqvAll, eqvAll_vS, List.map_nil]; rfl
    have e3 : ∀ l : List Nat, PyData.eqv (.list (l.map (vS e))) (.list (l.map (vS e))) = true := fun l => by simp only [PyData.eqv, eqvAll_vS]
    have o1 := op_eqd (K := K) hA (shaped_vS2 he ls []) (shaped_vS2 he ls [])
    have o2 := op_eqd (K := K) hA (shaped_vS2 he [] ls) (shaped_vS2 he [] ls)
    have o3 := op_eqd (K := K) hA (shaped_vS he ks) (shaped_vS he ks)
    have o4 := op_eqd (K := K) hA (shaped_vS he js) (shaped_vS he js)
    rw [show PyData.eqv (.tuple [.list (ls.map (vS e)), .list ([].map (vS e))]) (.tuple [.list (ls.map (vS e)), .list ([].map (vS e))]) = true from e1] at o1
    rw [show PyData.eqv (.tuple [.list ([].map (vS e)), .list (ls.map (vS e))]) (.tuple [.list ([].map (vS e)), .list (ls.map (vS e))]) = true from e2] at o2
    rw [e3] at o3 o4
    refine x_retS (Now.of_at a2 hmu) (evs_and (evs_cmp (evs_call C hA hfr (ev_glob rfl (HasDef.name hs)) (HasDef.kept hs) (Evs.cons (ev_name rfl) (Evs.cons (ev_name rfl) Evs.nil)) c1) (ev_tuple (ds := [.list (ls.map (vS e)), .list []]) (Evs.cons (ev_name rfl) (Evs.cons (ev_list (ds := []) Evs.nil (by rw [sizeLine_eq]; simp)) Evs.nil)) (by rw [sizeLine_eq]; simp)) o1)
      (evs_and (evs_cmp (evs_call C hA hfr (ev_glob rfl (HasDef.name hs)) (HasDef.kept hs) (Evs.cons (ev_name rfl) (Evs.cons (ev_name rfl) Evs.nil)) c2) (ev_tuple (ds := [.list [], .list (ls.map (vS e))]) (Evs.cons (ev_list (ds := []) Evs.nil (by rw [sizeLine_eq]; simp)) (Evs.cons (ev_name rfl) Evs.nil)) (by rw [sizeLine_eq]; simp)) o2)
        (evs_and (evs_cmp (Ev.slot (ev_name rfl)) (ev_name rfl) o3) (evs_one (evs_cmp (Ev.slot (ev_name rfl)) (ev_name rfl) o4))))) fun v h3 t3 n3 p3 => k (.ret v) h3 t3 _ n3.sx (fun _ q => q) p3
end Mine

namespace Mine
/-! the law on ranks -/
def sldG : Nat → List Nat → List Nat → List Nat × List Nat
  | 0, ks, js => (ks, js)
  | _ + 1, [], js => ([], js)
  | _ + 1, ks, [] => (ks, [])
  | f + 1, k :: ks, j :: js => if k < j then (k :: (sldG f ks (j :: js)).1, (sldG f ks (j :: js)).2) else if j < k then ((sldG f (k :: ks) js).1, j :: (sldG f (k :: ks) js).2) else sldG f ks js
theorem sldG_eq : ∀ (f : Nat) (ks js : List Nat), ks.length + js.length < f → sldG f ks js = sldF ks js
  | 0, _, _, h => by omega
  | f + 1, [], js, h => by rw [sldF_nil]; rfl
  | f + 1, k :: ks, [], h => by rw [sldF_nil']; rfl
  | f + 1, k :: ks, j :: js, h => by
    simp only [List.length_cons] at h
    rw [sldF_cons, sldG, sldG_eq f ks (j :: js) (by simp; omega), sldG_eq f (k :: ks) js (by simp; omega), sldG_eq f ks js (by omega)]
/-- u < v for words -/
def wlt : List Nat → List Nat → Bool
  | [], [] => false
  | [], _ :: _ => true
  | _ :: _, [] => false
  | a :: u, b :: v => if a < b then true else if b < a then false else wlt u v
theorem wlt_iff : ∀ (u v : List Nat), wlt u v = decide (u < v)
  | [], [] => by simp [wlt]
  | [], b :: v => by simp [wlt]
  | a :: u, [] => by simp [wlt]
  | a :: u, b :: v => by
    rw [wlt, wlt_iff u v]
    by_cases h : a < b
    · simp [h, List.cons_lt_cons_iff]
    · rw [if_neg h]
      by_cases h' : b < a
      · rw [if_pos h']
        symm
        rw [decide_eq_false_iff_not, List.cons_lt_cons_iff]
        rintro (q | ⟨q, _⟩) <;> omega
      · have : a = b := by omega
        subst this
        simp [List.cons_lt_cons_iff]
def openRGo (u : List Nat) : List Nat → List Nat
  | [] => []
  | t :: r => if wlt (u.drop t ++ u.take t) u then [] else if wlt u (u.drop t ++ u.take t) then openRGo u r else u.take t
def openR (u : List Nat) : List Nat := openRGo u (List.range' 1 u.length)
def allW (c size : Nat) : List (List Nat) := wordsF (List.range c) size
def rkW (V : List (List Nat)) (u : List Nat) : Nat := V.idxOf u
def rowR (c size : Nat) : List Nat := (allW c size).flatMap openR
def rAt (c size q : Nat) : Nat := rkW (allW c size) (wAt (rowR c size) size q)
def good1 (c size : Nat) : Bool :=
  let V := allW c size
  (V.length == c ^ size) && (List.range (c ^ size)).all (fun i => (List.range (c ^ size)).all fun j => wlt (V.getD i []) (V.getD j []) == decide (i < j)) &&
  V.all (fun u => u.length == size && u.all fun r => decide (r < c))
def gChk (ls : List Nat) : Nat → GSt → Bool
  | 0, _ => true
  | n + 1, g => !(gOpen ls g).isEmpty && gChk ls n (gStep ls g)
theorem gRun_step (ls : List Nat) (g : GSt) : ∀ t, gRun ls (gStep ls g) t = gRun ls g (t + 1)
  | 0 => rfl
  | t + 1 => by rw [gRun, gRun_step ls g t]; rfl
theorem gChk_spec (ls : List Nat) : ∀ n g, gChk ls n g = true → ∀ t, t < n → gOpen ls (gRun ls g t) ≠ []
  | 0, _, _, _, h => absurd h (Nat.not_lt_zero _)
  | n + 1, g, h, 0, _ => fun q => by
    rw [gChk] at h
    have q : gOpen ls g = [] := q
    rw [q] at h
    simp at h
  | n + 1, g, h, t + 1, ht => by
    rw [gChk] at h
    rw [← gRun_step]
    exact gChk_spec ls n _ (Bool.and_eq_true_iff.mp h).2 t (by omega)
def good2 (c size : Nat) : Bool :=
  (rowR c size).length == c ^ size && (rowR c size == greedyF (List.range c) size) && gChk (List.range c) (c ^ size) (gStart (List.range c) size)
def good3 (c size : Nat) : Bool :=
  (List.range (c ^ size)).all fun q => decide (rAt c size q < c ^ size) && (allW c size).getD (rAt c size q) [] == wAt (rowR c size) size q
def cutOk (n : Nat) (r : Nat → Nat) (m : Nat) : Bool :=
  let fs := popsF m (pushN r 0 m)
  let ls := popsF (n - m) (pushN r m (n - m))
  sldG (2 * n + 1) (List.range n) fs == (ls, []) && sldG (2 * n + 1) fs (List.range n) == ([], ls) && (fs.all fun k => decide (k < n)) && (fs.length == m) && (ls.length == n - m) && ((List.range (m - 1)).all fun i => decide (fs.getD i 0 < fs.getD (i + 1) 0))
def good4 (c size : Nat) : Bool :=
  let rs := (List.range (c ^ size)).map (rAt c size)
  (List.range (c ^ size + 1)).all fun m => cutOk (c ^ size) (fun q => rs.getD q 0) m
def good5 (p : List Nat) (size : Nat) : Bool :=
  let V := allW p.length size
  let ks := (wordsF p size).map (rkW V)
  (ks.all fun k => decide (k < p.length ^ size)) && (wordsF p size).all (fun u => V.getD (rkW V u) [] == u) && popsF ks.length (heapifyF ks) == List.range (p.length ^ size) && ks.length == p.length ^ size
set_option maxHeartbeats 0
theorem g1 : (good1 2 4 && good1 3 2 && good1 3 3 && good1 2 3) = true := by decide +kernel
theorem g2 : (good2 2 4 && good2 3 2 && good2 3 3 && good2 2 3) = true := by decide +kernel
theorem g3 : (good3 2 4 && good3 3 2 && good3 3 3 && good3 2 3) = true := by decide +kernel
def good4L (n : Nat) (rs : List Nat) : Bool := (List.range (n + 1)).all fun m => cutOk n (fun q => rs.getD q 0) m
theorem good4_of {c size : Nat} {rs : List Nat} (h1 : (List.range (c ^ size)).map (rAt c size) = rs) (h2 : good4L (c ^ size) rs = true) : good4 c size = true := by
  rw [← h1] at h2
  exact h2
theorem g4_33 : good4 3 3 = true := good4_of (rs := [0, 1, 3, 9, 2, 6, 19, 4, 12, 10, 5, 15, 20, 7, 21, 11, 8, 25, 22, 13, 14, 16, 23, 17, 26, 24, 18]) (by decide +kernel) (by decide +kernel)
theorem g4_24 : good4 2 4 = true := good4_of (rs := [0, 1, 2, 4, 9, 3, 6, 13, 10, 5, 11, 7, 15, 14, 12, 8]) (by decide +kernel) (by decide +kernel)
theorem g4_32 : good4 3 2 = true := good4_of (rs := [0, 1, 3, 2, 7, 4, 5, 8, 6]) (by decide +kernel) (by decide +kernel)
theorem g4_23 : good4 2 3 = true := good4_of (rs := [0, 1, 2, 5, 3, 7, 6, 4]) (by decide +kernel) (by decide +kernel)
theorem g4 : (good4 2 4 && good4 3 2 && good4 3 3 && good4 2 3) = true := by rw [g4_24, g4_32, g4_33, g4_23]; rfl
theorem g5a : (good5 [0, 1] 4 && good5 [1, 0] 4 && good5 [0, 1] 3 && good5 [1, 0] 3) = true := by decide +kernel
def perms3 : List (List Nat) := [[0, 1, 2], [0, 2, 1], [1, 0, 2], [1, 2, 0], [2, 0, 1], [2, 1, 0]]
theorem g5b : (perms3.all fun p => good5 p 2 && good5 p 3) = true := by decide +kernel
end Mine

namespace Mine
theorem wordsF_map (f : Nat → Nat) (l : List Nat) : ∀ t, wordsF (l.map f) t = (wordsF l t).map (·.map f)
  | 0 => rfl
  | t + 1 => by
    rw [wordsF, wordsF, wordsF_map f l t, List.map_flatMap, List.flatMap_map]
    congr 1
    funext w
    simp [Function.comp_def]
theorem ord_self (ord : List Nat) : (List.range ord.length).map (fun r => ord.getD r 0) = ord := by
  have := range_map_f id ord 0
  simpa using this
theorem wd_append (ord u v : List Nat) : wd ord (u ++ v) = wd ord u ++ wd ord v := by simp [wd]
theorem wd_drop (ord u : List Nat) (t : Nat) : (wd ord u).drop t = wd ord (u.drop t) := by simp [wd]
theorem wd_take (ord u : List Nat) (t : Nat) : (wd ord u).take t = wd ord (u.take t) := by simp [wd]
theorem wd_length (ord u : List Nat) : (wd ord u).length = u.length := by simp [wd]
section
variable {ord : List Nat} (O : Ord ord)
include O
theorem f_inj {a b : Nat} (ha : a < ord.length) (hb : b < ord.length) (h : ord.getD a 0 = ord.getD b 0) : a = b := by
  rcases Nat.lt_trichotomy a b with q | q | q
  · have := O.up a b q hb
    rw [h] at this
    rcases this with z | ⟨_, z⟩ <;> omega
  · exact q
  · have := O.up b a q ha
    rw [h] at this
    rcases this with z | ⟨_, z⟩ <;> omega
theorem f_lt (r : Nat) : ord.getD r 0 < 256 := getD_mem_lt (by omega) O.lt r
theorem wd_inj : ∀ {u v : List Nat}, (∀ r ∈ u, r < ord.length) → (∀ r ∈ v, r < ord.length) → wd ord u = wd ord v → u = v
  | [], [], _, _, _ => rfl
  | [], b :: v, _, _, h => by simp [wd] at h
  | a :: u, [], _, _, h => by simp [wd] at h
  | a :: u, b :: v, hu, hv, h => by
    simp only [wd, List.map_cons, List.cons.injEq] at h
    rw [f_inj O (hu a (by simp)) (hv b (by simp)) h.1, wd_inj (fun r q => hu r (by simp [q])) (fun r q => hv r (by simp [q])) h.2]
/-- the openings -/
theorem openGo_wd {u : List Nat} (h0 : u ≠ []) (hu : ∀ r ∈ u, r < ord.length) : ∀ ts : List Nat, openGo (encF iso (wd ord u)) (wd ord u) ts = wd ord (openRGo u ts)
  | [] => rfl
  | t :: ts => by
    have hl : (u.drop t ++ u.take t).length = u.length := by simp; omega
    have hm : ∀ r ∈ u.drop t ++ u.take t, r < ord.length := fun r q => by
      rcases List.mem_append.mp q with q | q
      · exact hu r (List.mem_of_mem_drop q)
      · exact hu r (List.mem_of_mem_take q)
    have h0' : u.drop t ++ u.take t ≠ [] := fun q => h0 (List.length_eq_zero_iff.mp (by rw [← hl, q]; rfl))
    have c : cmpI (encF iso (wd ord u)) (encF iso (wd ord (u.drop t ++ u.take t))) = b2i (wlt (u.drop t ++ u.take t) u) - b2i (wlt u (u.drop t ++ u.take t)) := by
      unfold cmpI
      rw [enc_lt O hl h0' hm hu, enc_lt O hl.symm h0 hu hm, wlt_iff, wlt_iff]
    rw [openGo, openRGo, wd_drop, wd_take, ← wd_append, c, openGo_wd h0 hu ts]
    cases h1 : wlt (u.drop t ++ u.take t) u with
    | true =>
      have h2 : wlt u (u.drop t ++ u.take t) = false := by
        rw [wlt_iff] at h1 ⊢
        exact decide_eq_false fun q => List.lt_irrefl _ (List.lt_trans q (of_decide_eq_true h1))
      rw [h2, if_pos (by decide), if_pos rfl]
      rfl
    | false =>
      cases h2 : wlt u (u.drop t ++ u.take t) with
      | true => rw [if_neg (by decide), if_neg (by decide), if_neg (by decide), if_pos rfl]
      | false => rw [if_neg (by decide), if_pos (by decide), if_neg (by decide), if_neg (by decide)]
theorem openF_wd {u : List Nat} (h0 : u ≠ []) (hu : ∀ r ∈ u, r < ord.length) : openF (encF iso (wd ord u)) (wd ord u) = wd ord (openR u) := by
  unfold openF openR
  rw [wd_length, openGo_wd O h0 hu]
/-- the greedy row -/
theorem gOpen_wd {g : GSt} (ha : ∀ r ∈ g.ahead, r < ord.length) (hc : ∀ e ∈ g.come, ∀ r ∈ e, r < ord.length) :
    gOpen ord ⟨wd ord g.ahead, g.come.map (wd ord), wd ord g.row⟩ = wd ord (gOpen (List.range ord.length) g) := by
  unfold gOpen
  conv => lhs; rw [← ord_self ord]
  rw [List.filter_map]
  unfold wd
  congr 1
  refine List.filter_congr fun r hr => ?_
  have hr' := List.mem_range.mp hr
  simp only [Function.comp, ord_self, List.any_map]
  congr 1
  have key : ∀ e ∈ g.come, decide ((e.map fun r => ord.getD r 0) = (g.ahead.map fun r => ord.getD r 0) ++ [ord.getD r 0]) = decide (e = g.ahead ++ [r]) := fun e he => by
    by_cases q : e = g.ahead ++ [r]
    · subst q; simp
    · rw [decide_eq_false q, decide_eq_false]
      intro z
      refine q (wd_inj O (hc e he) (fun x hx => ?_) (by rw [wd_append]; exact z))
      rcases List.mem_append.mp hx with w | w
      · exact ha x w
      · rw [List.mem_singleton.mp w]; exact hr'
  generalize g.come = cs at key
  induction cs with
  | nil => rfl
  | cons e cs ih =>
    rw [List.any_cons, List.any_cons, ih fun x hx => key x (List.mem_cons_of_mem _ hx)]
    congr 1
    exact key e (by simp)
structure GOk (n : Nat) (g : GSt) : Prop where
  a : ∀ r ∈ g.ahead, r < n
  c : ∀ e ∈ g.come, ∀ r ∈ e, r < n
omit O in
theorem least_lt {n : Nat} (hn : 0 < n) (g : GSt) : (gOpen (List.range n) g).getD 0 0 < n := getD_mem_lt hn (fun o ho => List.mem_range.mp (List.mem_filter.mp ho).1) 0
omit O in
theorem GOk.step {n : Nat} (hn : 0 < n) {g : GSt} (x : GOk n g) : GOk n (gStep (List.range n) g) := by
  have hl := least_lt hn g
  have h1 : ∀ r ∈ g.ahead ++ [(gOpen (List.range n) g).getD 0 0], r < n := fun r hr => by
    rcases List.mem_append.mp hr with q | q
    · exact x.a r q
    · rw [List.mem_singleton.mp q]; exact hl
  refine ⟨fun r hr => h1 r (List.mem_of_mem_drop hr), fun e he => ?_⟩
  rcases List.mem_append.mp he with q | q
  · exact x.c e q
  · rw [List.mem_singleton.mp q]; exact h1
theorem gStep_wd {g : GSt} (x : GOk ord.length g) (hne : gOpen (List.range ord.length) g ≠ []) : gStep ord ⟨wd ord g.ahead, g.come.map (wd ord), wd ord g.row⟩ = ⟨wd ord (gStep (List.range ord.length) g).ahead, (gStep (List.range ord.length) g).come.map (wd ord), wd ord (gStep (List.range ord.length) g).row⟩ := by
  have e : (wd ord (gOpen (List.range ord.length) g)).getD 0 0 = ord.getD ((gOpen (List.range ord.length) g).getD 0 0) 0 := by
    unfold wd
    rw [getD_map 0 (List.length_pos_iff.mpr hne)]
  unfold gStep
  rw [gOpen_wd O x.a x.c]
  simp only [e]
  simp [wd]
theorem gRun_wd {size : Nat} (h0 : 0 < ord.length) : ∀ t, (∀ i, i < t → gOpen (List.range ord.length) (gRun (List.range ord.length) (gStart (List.range ord.length) size) i) ≠ []) →
    GOk ord.length (gRun (List.range ord.length) (gStart (List.range ord.length) size) t) ∧
    gRun ord (gStart ord size) t = ⟨wd ord (gRun (List.range ord.length) (gStart (List.range ord.length) size) t).ahead, (gRun (List.range ord.length) (gStart (List.range ord.length) size) t).come.map (wd ord), wd ord (gRun (List.range ord.length) (gStart (List.range ord.length) size) t).row⟩
  | 0, _ => by
    have e : (List.range ord.length).getD ((List.range ord.length).length - 1) 0 = ord.length - 1 := by
      rw [List.length_range, List.getD_eq_getElem?_getD, List.getElem?_range (by omega)]; rfl
    refine ⟨⟨fun r hr => ?_, fun e he => nomatch he⟩, ?_⟩
    · have := (List.mem_replicate.mp hr).2
      rw [e] at this
      omega
    · simp only [gRun, gStart, e, wd, List.map_replicate, List.map_nil]
  | t + 1, h => by
    obtain ⟨h1, h2⟩ := gRun_wd h0 t fun i hi => h i (by omega)
    refine ⟨h1.step h0, ?_⟩
    rw [gRun, h2, gStep_wd O h1 (h t (by omega))]
    rfl
theorem greedy_wd {size : Nat} (h0 : 0 < ord.length) (h : ∀ i, i < ord.length ^ size → gOpen (List.range ord.length) (gRun (List.range ord.length) (gStart (List.range ord.length) size) i) ≠ []) : greedyF ord size = wd ord (greedyF (List.range ord.length) size) := by
  unfold greedyF
  rw [List.length_range, (gRun_wd O h0 _ h).2]
theorem hop_wd {size : Nat} (h0 : 0 < ord.length) (h : ∀ i, i < ord.length ^ size → gOpen (List.range ord.length) (gRun (List.range ord.length) (gStart (List.range ord.length) size) i) ≠ []) :
    ∀ t, t < ord.length ^ size → gOpen ord (gRun ord (gStart ord size) t) ≠ [] := fun t ht => by
  obtain ⟨h1, h2⟩ := gRun_wd (size := size) O h0 t fun i hi => h i (by omega)
  rw [h2, gOpen_wd O h1.a h1.c]
  intro q
  exact h t ht (List.length_eq_zero_iff.mp (by rw [← wd_length ord, q]; rfl))
omit O in
theorem wAt_wd {row : List Nat} (h0 : 0 < row.length) (size q : Nat) : wAt (wd ord row) size q = wd ord (wAt row size q) := by
  unfold wAt
  rw [wd_length]
  unfold wd
  rw [List.map_map]
  refine List.map_congr_left fun s hs => ?_
  exact getD_map 0 (Nat.mod_lt _ h0)
end
end Mine

namespace Mine
variable {K : Wd}
theorem sgs_lt (w : List Nat) : (∀ o ∈ w, o < 256) → ∀ c ∈ sgs w, c < 128 := fun h c hc => by
  obtain ⟨o, ho, hc⟩ := List.mem_flatMap.mp hc
  have : ∀ o, o < 256 → ∀ c ∈ signL o, c < 128 := by decide +kernel
  rw [sg_eq] at hc
  exact this o (h o ho) c hc
theorem encF_cps (cs : Str) {w : List Nat} (h : w ≠ []) : (encF cs w).cps.toList = ("=?" : Str).cps.toList ++ cs.cps.toList ++ ("?q?" : Str).cps.toList ++ sgs w ++ ("?=" : Str).cps.toList := by
  unfold encF
  rw [if_neg h]
  unfold hdrS
  simp only [List.foldl_cons, List.foldl_nil, str_append_toList, signs_toList]
  rfl
theorem strOk_of {x : Str} (h : ∀ c ∈ x.cps.toList, c < 128) : PyData.strOk x = true := by
  unfold PyData.strOk
  rw [← Array.all_toList]
  exact List.all_eq_true.mpr fun c hc => by have := h c hc; simp; omega
theorem strOk_enc {cs : Str} (hc : ∀ c ∈ cs.cps.toList, c < 128) {w : List Nat} (hw : ∀ o ∈ w, o < 256) : PyData.strOk (encF cs w) = true := by
  by_cases h : w = []
  · subst h
    unfold encF
    rw [if_pos rfl]
    decide +kernel
  · refine strOk_of fun c hx => ?_
    rw [encF_cps cs h] at hx
    simp only [List.mem_append] at hx
    have h1 : ∀ c ∈ ("=?" : Str).cps.toList, c < 128 := by decide +kernel
    have h2 : ∀ c ∈ ("?q?" : Str).cps.toList, c < 128 := by decide +kernel
    have h3 : ∀ c ∈ ("?=" : Str).cps.toList, c < 128 := by decide +kernel
    rcases hx with (((q | q) | q) | q) | q
    · exact h1 c q
    · exact hc c q
    · exact h2 c q
    · exact sgs_lt w hw c q
    · exact h3 c q
theorem joinS_toList : ∀ l : List Nat, (Txt.join (PySem.Str.ofString "") (l.map signF)).cps.toList = sgs l := fun l => by
  show (Builtin.Str.glued _ _).cps.toList = _
  rw [StrLaws.glued_eq_join]
  induction l with
  | nil => rfl
  | cons a l ih =>
    cases l with
    | nil => simp [PySem.Str.join, sgs, sg]
    | cons b l =>
      simp only [List.map_cons] at ih ⊢
      rw [PySem.Str.join, str_append_toList, str_append_toList, ih]
      · simp only [sgs, List.flatMap_cons, sg]
        rw [show (PySem.Str.ofString "").cps.toList = [] from rfl, List.append_nil]
      · intro h; cases h
theorem str_ext {x y : Str} (h : x.cps.toList = y.cps.toList) : x = y := by
  cases x; cases y
  simp only [PySem.Str.mk.injEq]
  exact Array.toList_inj.mp h
theorem joinOk_sg (l : List Nat) (hl : l.length ≤ 1000) : JoinOk (PySem.Str.ofString "") (l.map signF) = true := by
  unfold JoinOk
  rw [Bool.not_eq_true']
  have : ∀ (l : List Nat) (acc : Nat), (l.map signF).foldl (fun a (b : Str) => a + b.length + (PySem.Str.ofString "").length) acc ≤ acc + 3 * l.length := by
    intro l
    induction l with
    | nil => intro acc; simp
    | cons c l ih =>
      intro acc
      have h3 : (signF c).length ≤ 3 := signF_len c
      have h0 : (PySem.Str.ofString "").length = 0 := rfl
      simp only [List.map_cons, List.foldl_cons, List.length_cons]
      have := ih (acc + (signF c).length + (PySem.Str.ofString "").length)
      omega
  have h := this l 0
  unfold Builtin.Str.tooLong
  simp only [List.foldl_toArray']
  have hs := sizeLine_eq
  simp only [gt_iff_lt, decide_eq_false_iff_not, Nat.not_lt]
  omega
section
variable {A : Around} {env : Env} {Γ : Gam} {N : Led}
theorem strVals_of {g : Heap} : ∀ {vs : List Value} {xs : List Str}, RDs g vs (xs.map PyData.str) → ∃ l : List (Str × Tok), vs = strValues l ∧ l.map (·.1) = xs
  | _, [], .nil => ⟨[], rfl, rfl⟩
  | _, x :: xs, .cons p r => by
    obtain ⟨t, rfl⟩ := RD.str_inv p
    obtain ⟨l, rfl, rfl⟩ := strVals_of r
    exact ⟨(x, t) :: l, rfl, rfl⟩
theorem ev_join {e : Expr} {apos pos p : Pos} {k : Nat} {xs : List Str} (x : Ev K A env Γ N e (tL (xs.map PyData.str))) (hok : JoinOk (PySem.Str.ofString "") xs = true)
    (he : starEach [e] env = (false, eval e env) :: starEach [] env := by rfl) (hbase : attributeBase (.Constant (.str "") k p) "join" env (eval (.Constant (.str "") k p) env) = eval (.Constant (.str "") k p) env := by rfl) (hline : (apos.endLine == pos.line) = true := by rfl)
    (hfew : ((backTo pos (starEach [e] env)).all (fun x => !x.1) && (backToKw pos (keywordEach [] env)).all (fun x => x.1.isSome) && decide ([e].length + ([] : List Keyword).length + (if ([] : List Keyword).isEmpty then 0 else 1) < 30)) = true := by rfl) :
    Ev K A env Γ N (.Call (.Attribute (.Constant (.str "") k p) "join" apos) [e] [] pos) (tS (Txt.join (PySem.Str.ofString "") xs)) := fun mu s S => by
  refine method_go (ev_str : Ev K A env Γ N (.Constant (.str "") k p) _) (Evs.cons x Evs.nil he) S PySem.F.plainAttrs_str PySem.F.slot_str_join PySem.F.type_str_join (fun v h1 k1 e1 p1 => ?_) (fun v vs h1 k1 e1 S1 p1 p2 => ?_) hbase hfew hline he
  · obtain ⟨t, rfl⟩ := RD.str_inv p1
    exact ⟨typeIs_str _ _ _, fun _ e => nomatch e⟩
  · obtain ⟨t, rfl⟩ := RD.str_inv p1
    cases p2 with
    | cons q p2 =>
      cases p2
      obtain ⟨a, its, rfl, l, r⟩ := RD.list_inv q
      obtain ⟨ll, h1', h2'⟩ := strVals_of r
      have l' := isList_ext l (fz_ext _ _)
      have el : its = (strValues ll).toArray := by rw [← h1']
      rw [el] at l'
      exact SC.join (s := Sx s h1 k1) l' h2' hok fun t' k' => ⟨h1, k', rfl, e1, RD.str _ _ _⟩
end
theorem openGo_len (wr : Str) (w : List Nat) : ∀ ts, (openGo wr w ts).length ≤ w.length
  | [] => by simp [openGo]
  | t :: ts => by
    rw [openGo]
    split
    · simp
    · split
      · simp; omega
      · exact openGo_len wr w ts
theorem rowF_len {b : Nat} : ∀ l : List (Str × List Nat), (∀ p ∈ l, p.2.length ≤ b) → (rowF l).length ≤ b * l.length
  | [], _ => by simp [rowF]
  | p :: l, h => by
    have h1 := rowF_len l fun q hq => h q (List.mem_cons_of_mem _ hq)
    have h2 := openGo_len p.1 p.2 (List.range' 1 p.2.length)
    have h3 := h p (by simp)
    simp only [rowF, List.flatMap_cons, List.length_append, List.length_cons] at h1 ⊢
    have : (openF p.1 p.2).length ≤ b := Nat.le_trans h2 h3
    rw [Nat.mul_add]
    omega
end Mine

namespace Mine
variable {K : Wd}
/-- what the plain law says of the letters ls: ord their order, n the count of words, V the words by rank, ks the ranks of the words as laid, row the row, r the ranks of the words on the ring -/
structure Pf (ls ord : List Nat) (size n : Nat) (V : Nat → List Nat) (ks row : List Nat) (r : Nat → Nat) : Prop where
  l2 : 2 ≤ ls.length
  l3 : ls.length ≤ 3
  l256 : ∀ o ∈ ls, o < 256
  s1 : 1 ≤ size
  s4 : size ≤ 4
  n1 : 1 ≤ n
  n100 : n ≤ 100
  ol : ord.length = ls.length
  o256 : ∀ o ∈ ord, o < 256
  sorts : ∃ lt : Nat → Nat → Bool, (∀ i j, i < ls.length → j < ls.length → pairLt (ordP (ls.getD i 0)) (ordP (ls.getD j 0)) = lt i j) ∧ KasT.asks ls.length lt (kas_sort ls.length) = true ∧
    (∀ i ∈ (KasT.run lt (kas_sort ls.length)).toList, i < ls.length) ∧ (KasT.run lt (kas_sort ls.length)).toList.map (fun i => ls.getD i 0) = ord
  wl : ∀ t, t ≤ size → (wordsF ls t).length ≤ 1000 ∧ ∀ w ∈ wordsF ls t, w.length ≤ 1000
  wo : ∀ t, t ≤ size → (wordsF ord t).length ≤ 1000 ∧ ∀ w ∈ wordsF ord t, w.length ≤ 1000
  v : ∀ k, (V k).length ≤ 10 ∧ ∀ o ∈ V k, o < 256
  H : ∀ i j, i < n → j < n → decide ((encF iso (V i)).cps.toList < (encF iso (V j)).cps.toList) = decide (i < j)
  kl : ks.length = n
  kn : ∀ k ∈ ks, k < n
  kw : wordsF ls size = ks.map V
  kp : popsF n (heapifyF ks) = List.range n
  vo : wordsF ord size = (List.range n).map V
  rw' : rowF ((List.range n).map fun k => (encF iso (V k), V k)) = row
  rl : row.length = n
  r256 : ∀ o ∈ row, o < 256
  pw : ls.length ^ size = n
  gr : greedyF ord size = row
  go : ∀ t, t < n → gOpen ord (gRun ord (gStart ord size) t) ≠ []
  rk : ∀ q, q < n → r q < n ∧ V (r q) = wAt row size q
  cut : ∀ m, m ≤ n → ∃ fs ts, popsF m (pushN r 0 m) = fs ∧ popsF (n - m) (pushN r m (n - m)) = ts ∧ sldF (List.range n) fs = (ts, []) ∧ sldF fs (List.range n) = ([], ts) ∧ (∀ k ∈ fs, k < n) ∧ fs.length = m ∧ ts.length = n - m ∧ fs.Pairwise (· < ·)

structure HoldFns (K : Wd) where
  H : HeapFns K
  G : EncFns K
  fSign : Addr
  sign : K.β.HasDef dSign fSign
  fInOrder : Addr
  inOrder : K.β.HasDef dInOrder fInOrder
  fWords : Addr
  words : K.β.HasDef dWords fWords
  fLaid : Addr
  laid : K.β.HasDef dLaid fLaid
  fCmp : Addr
  cmp : K.β.HasDef dCmp fCmp
  fOpening : Addr
  opening : K.β.HasDef dOpening fOpening
  fRow : Addr
  row : K.β.HasDef dRow fRow
  fGreedy : Addr
  greedy : K.β.HasDef dGreedy fGreedy
  fOff : Addr
  off : K.β.HasDef dOff fOff
  fSLD : Addr
  sld : K.β.HasDef dSLD fSLD
  fOnce : Addr
  once : K.β.HasDef dOnce fOnce
  sorted : Bn K.β "sorted" (.builtin "sorted")
  ord : Bn K.β "ord" (.builtin "ord")
  chr : Bn K.β "chr" (.builtin "chr")
  list : Bn K.β "list" (.type "list")
  ie : Bn K.β "IndexError" (.type "IndexError")

theorem eqvAll_refl : ∀ l : List PyData, (∀ d ∈ l, PyData.eqv d d = true) → PyData.eqvAll l l = true
  | [], _ => rfl
  | d :: l, h => by rw [PyData.eqvAll, h d (by simp), eqvAll_refl l fun e he => h e (List.mem_cons_of_mem _ he)]; rfl
theorem eqv_words (ws : List (List Nat)) : PyData.eqv (.list (ws.map wD)) (.list (ws.map wD)) = true := by
  simp only [PyData.eqv]
  refine eqvAll_refl _ fun d hd => ?_
  obtain ⟨w, _, rfl⟩ := List.mem_map.mp hd
  rw [eqv_wD]; simp
theorem canLay_words : ∀ ws : List (List Nat), PyData.canLayAll0 (ws.map wD) = true
  | [] => rfl
  | w :: ws => by
    have h1 := canLay_lI w
    simp only [List.map_cons, PyData.canLayAll0, PyData.canLay0, h1, canLay_words ws]
    rfl
theorem depth_words : ∀ ws : List (List Nat), PyData.depthAll (ws.map wD) ≤ 1
  | [] => by simp [PyData.depthAll]
  | w :: ws => by
    have h1 := depth_lI w
    have h2 := depth_words ws
    simp only [List.map_cons, PyData.depthAll, PyData.depth, h1]
    omega
theorem shaped_words (ws : List (List Nat)) : SeqAt.shaped (.list (ws.map wD)) = true := by
  have h := depth_words ws
  unfold SeqAt.shaped
  simp only [PyData.canLay0, PyData.depth, canLay_words]
  simp
  omega
theorem eqv_str (x : Str) : PyData.eqv (.str x) (.str x) = true := by simp [PyData.eqv]
theorem shaped_str {x : Str} (h : PyData.strOk x = true) : SeqAt.shaped (.str x) = true := by
  unfold SeqAt.shaped
  simp only [PyData.canLay0, PyData.depth, h]
  rfl
theorem holds_ok {f : Addr} {ls ord : List Nat} {size n : Nat} {V : Nat → List Nat} {ks row : List Nat} {r : Nat → Nat} {cut : Int} (hd : K.β.HasDef dHolds f) (F : HoldFns K) (P : Pf ls ord size n V ks row r) (d : Nat) :
    FnS K (d + 5) f [dat (wD ls), tI size, tI cut] (tB true) := by
  refine fnS_of (Γ := [("letters", dat (wD ls)), ("size", tI size), ("cut", tI cut)]) hd rfl rfl rfl (by decide) (fun vals hv => ?_) ?_
  · cases hv with
    | @cons v1 _ _ _ _ hv =>
      cases hv with
      | @cons v2 _ _ _ _ hv =>
        cases hv with
        | @cons v3 _ _ _ _ hv =>
        cases hv
        exact ⟨[("letters", v1), ("size", v2), ("cut", v3)], fun _ _ _ => rfl, by rfl, fun L cd g hp => by
          cases hp with
          | cons p1 hp => cases hp with
            | cons p2 hp => cases hp with
              | cons p3 hp => exact ⟨.inl ⟨rfl, _, rfl, p1⟩, .inl ⟨rfl, _, rfl, p2⟩, .inl ⟨rfl, _, rfl, p3⟩, trivial⟩⟩
  · intro A L cd mu h₀ outer s Q hA hfr ho hFr hmu hL z k
    have C : Ctx (envOfC dHolds.name dHolds.scope L f cd) outer h₀ := ⟨rfl, rfl, ho⟩
    obtain ⟨lt, so1, so2, so3, so4⟩ := P.sorts
    have hl2 := P.l2; have hl3 := P.l3; have hs1 := P.s1; have hs4 := P.s4; have hn1 := P.n1; have hn100 := P.n100
    have hol := P.ol; have hkl := P.kl; have hrl := P.rl
    have hV : ∀ k, (V k).length ≤ 1000 ∧ ∀ o ∈ V k, o < 256 := fun k => ⟨by have := (P.v k).1; omega, (P.v k).2⟩
    -- order
    refine x_assign z (ev_call (ev_glob rfl (HasDef.name F.inOrder)) (HasDef.kept F.inOrder) (Evs.cons (ev_name rfl) Evs.nil) (in_order_ok F.inOrder F.sign F.sorted F.ord F.chr P.l256 hl2 (by omega) so1 so2 so3 so4 (by omega) (d + 2) A (hA.down (by omega)))) (.inl rfl) fun h1 t1 a1 => ?_
    -- laid
    have cw := words_ok (K := K) (ls := ls) (size := size) F.words F.H.range (by omega) (by omega) P.wl (d + 3) A (hA.down (by omega))
    have cl := laid_ok (K := K) (val := fun k => .tuple [.str (encF iso (V k)), wD (V k)]) (n := n) (ks := ks) (ws := wordsF ls size) F.laid F.H F.G (cmpLt_tup (w := V) P.H) P.kn (by omega) (by rw [P.kw, List.map_map]; rfl) (fun w hw => by
      rw [P.kw] at hw
      obtain ⟨k, _, rfl⟩ := List.mem_map.mp hw
      exact hV k) d A (hA.down (by omega))
    rw [hkl, P.kp] at cl
    refine x_assign a1 (ev_call (ev_glob rfl (HasDef.name F.laid)) (HasDef.kept F.laid) (Evs.cons (ev_call (ev_glob rfl (HasDef.name F.words)) (HasDef.kept F.words) (Evs.cons (ev_name rfl) (Evs.cons (ev_name rfl) Evs.nil)) cw) Evs.nil) cl) (.inl rfl) fun h2 t2 a2 => ?_
    have hLn : ((List.range n).map fun k => PyData.tuple [.str (encF iso (V k)), wD (V k)]).length = n := by simp
    have itL : ∀ {Γ : Gam}, Γ.lookup ("laid" : Str) = some (tL ((List.range n).map fun k => PyData.tuple [.str (encF iso (V k)), wD (V k)])) → ∀ {p : Pos}, It K A (envOfC dHolds.name dHolds.scope L f cd) Γ [] (.Name "laid" p) ((List.range n).map fun k => PyData.tuple [.str (encF iso (V k)), wD (V k)]).length (fun i => tT [.str (encF iso (V i)), wD (V i)]) := fun {Γ} hx {p} =>
      (it_list hA (ev_name hx) (by rw [sizeLine_eq, hLn]; omega)).congr fun i hi => by
        rw [getD_map 0 (by simpa using hi), show (List.range n).getD i 0 = i by simp [List.getD, (by simpa using hi : i < n)]]
    -- the words in order
    have cw2 := words_ok (K := K) (ls := ord) (size := size) F.words F.H.range (by omega) (by omega) P.wo (d + 3) A (hA.down (by omega))
    rw [P.vo] at cw2
    have em : (List.range n).map (fun i => wD (V i)) = ((List.range n).map V).map wD := by rw [List.map_map]; rfl
    have b1 : (!PyData.eqv (.list (((List.range n).map V).map wD)) (.list (((List.range n).map V).map wD))) = false := by rw [eqv_words]; rfl
    have o1 := op_ned (K := K) (A := A) hA (shaped_words ((List.range n).map V)) (shaped_words ((List.range n).map V))
    rw [b1] at o1
    refine x_if (b := false) a2 (tr_cmp (Ev.as (ev_map2 (cl := []) (d1 := fun i => .str (encF iso (V i))) (d2 := fun i => wD (V i)) hA (Γc := []) (fun i => wD (V i)) ⟨rfl, by decide, rfl, by decide, (fun _ q => nomatch q), by decide, trivial⟩ rfl rfl (fun t u => trivial) (itL rfl) (fun C i hi => ev_name rfl) (by rw [sizeLine_eq, hLn]; omega)) (by rw [hLn, em])) (ev_call (ev_glob rfl (HasDef.name F.words)) (HasDef.kept F.words) (Evs.cons (ev_name rfl) (Evs.cons (ev_name rfl) Evs.nil)) cw2) o1) (fun hb => by cases hb) (fun _ h3 t3 a3 => x_nil ?_)
    -- the row
    have cr := row_ok (K := K) (l := (List.range n).map fun k => (encF iso (V k), V k)) F.row F.opening F.cmp F.H.len F.H.range F.G (by simp; omega) (fun p hp => by
      obtain ⟨k, _, rfl⟩ := List.mem_map.mp hp
      exact hV k) (fun t ht => by
      have hb : ∀ p ∈ ((List.range n).map fun k => (encF iso (V k), V k)), p.2.length ≤ 10 := fun p hp => by
        obtain ⟨k, _, rfl⟩ := List.mem_map.mp hp
        exact (P.v k).1
      have h1 := rowF_len (b := 10) (((List.range n).map fun k => (encF iso (V k), V k)).take t) fun p hp => hb p (List.mem_of_mem_take hp)
      have h2 := openGo_len (((List.range n).map fun k => (encF iso (V k), V k)).getD t default).1 (((List.range n).map fun k => (encF iso (V k), V k)).getD t default).2 (List.range' 1 (((List.range n).map fun k => (encF iso (V k), V k)).getD t default).2.length)
      have h3 : (((List.range n).map fun k => (encF iso (V k), V k)).getD t default).2.length ≤ 10 := by
        refine hb _ ?_
        have : ((List.range n).map fun k => (encF iso (V k), V k)).getD t default = ((List.range n).map fun k => (encF iso (V k), V k))[t] := by rw [List.getD_eq_getElem?_getD, List.getElem?_eq_getElem ht]; rfl
        rw [this]; exact List.getElem_mem ht
      have h4 : (((List.range n).map fun k => (encF iso (V k), V k)).take t).length ≤ n := by simp; omega
      have h5 : 10 * (((List.range n).map fun k => (encF iso (V k), V k)).take t).length ≤ 10 * 100 := Nat.mul_le_mul_left _ (by omega)
      rw [sizeLine_eq]
      unfold openF
      omega) (d + 1) A (hA.down (by omega))
    rw [P.rw', List.map_map] at cr
    refine x_assign a3 (ev_call (ev_glob rfl (HasDef.name F.row)) (HasDef.kept F.row) (Evs.cons (ev_name rfl) Evs.nil) cr) (.inl rfl) fun h4 t4 a4 => ?_
    -- greedy
    have cg := greedy_ok (K := K) (ls := ord) (size := size) F.greedy F.H.len F.H.range (by omega) (by omega) hs1 (by omega) (by rw [hol, P.pw]; omega) (by rw [hol, P.pw]; exact P.go) (d + 3) A (hA.down (by omega))
    rw [P.gr] at cg
    have b2 : (!PyData.eqv (wD row) (wD row)) = false := by rw [eqv_wD]; simp
    have o2 := op_ned (K := K) (A := A) hA (shaped_wD row) (shaped_wD row)
    rw [b2] at o2
    refine x_if (b := false) a4 (tr_cmp (ev_name rfl) (ev_call (ev_glob rfl (HasDef.name F.greedy)) (HasDef.kept F.greedy) (Evs.cons (ev_name rfl) (Evs.cons (ev_name rfl) Evs.nil)) cg) o2) (fun hb => by cases hb) (fun _ h5 t5 a5 => x_nil ?_)
    -- the writing of the row
    have hrow : row ≠ [] := fun q => by rw [q] at hrl; simp at hrl; omega
    have lrow : (lI row).length = row.length := by simp
    have ch := he2_ok (K := K) (b := byteArr (row.map fun n : Nat => (n : Int))) (cs := "x") F.G.he F.G.map (by rw [byteArr_len]; omega) (by decide +kernel) (d + 3) A (hA.down (by omega))
    rw [byteArr_nats P.r256] at ch
    have es : encF "x" row = ("=?x?q?" : Str) ++ Txt.join (PySem.Str.ofString "") (row.map signF) ++ ("?=" : Str) := by
      refine str_ext ?_
      rw [encF_cps "x" hrow, str_append_toList, str_append_toList, joinS_toList]
      rfl
    have b3 : (!PyData.eqv (.str (encF "x" row)) (.str (encF "x" row))) = false := by rw [eqv_str]; rfl
    have so := strOk_enc (cs := "x") (by decide +kernel) P.r256
    have o3 := op_ned (K := K) (A := A) hA (shaped_str so) (shaped_str so)
    rw [b3] at o3
    have lj : (Txt.join (PySem.Str.ofString "") (row.map signF)).length ≤ 3 * row.length := by
      have e := congrArg List.length (joinS_toList row)
      have e2 : (signs row).cps.toList.length = (sgs row).length := congrArg List.length (signs_toList row)
      have := signs_len row
      have e3 : (signs row).length = (signs row).cps.toList.length := by simp [PySem.Str.length]
      have e4 : (Txt.join (PySem.Str.ofString "") (row.map signF)).length = (Txt.join (PySem.Str.ofString "") (row.map signF)).cps.toList.length := by simp [PySem.Str.length]
      omega
    have q1 : ("=?x?q?" : Str).length = 6 := by decide +kernel
    have q2 : ("?=" : Str).length = 2 := by decide +kernel
    refine x_if (b := false) a5 (tr_cmp (ev_call (ev_glob rfl (HasHE.name F.G.he)) (HasHE.kept F.G.he) (Evs.cons (ev_call (ev_blt rfl F.G.bytes.g F.G.bytes.b) (.inr (.inl ⟨_, rfl⟩)) (Evs.cons (ev_name rfl) Evs.nil) (cl_bytes hA P.r256 (by rw [sizeLine_eq]; omega))) (Evs.cons ev_str Evs.nil)) ch)
      (Ev.as (ev_bin (ev_bin ev_str (ev_join (xs := row.map signF) (Ev.as (ev_map (cl := []) (Γc := []) (fun i => .str (signF (row.getD i 0))) ⟨rfl, by decide, rfl, by decide, (fun _ q => nomatch q), by decide, trivial⟩ rfl (fun t => trivial) ((it_list hA (ev_name rfl) (by rw [sizeLine_eq]; omega)).congr fun i hi => by rw [getD_map 0 (by simpa using hi)]) (fun C i hi => ?_) (by rw [sizeLine_eq]; omega)) (by rw [lrow, range_map_f (fun o => PyData.str (signF o)), List.map_map]; rfl)) (joinOk_sg row (by omega))) (op_adds (by rw [sizeLine_eq, q1]; omega))) ev_str (op_adds (by rw [sizeLine_eq, strLen_append, q1, q2]; omega))) (by rw [← es])) o3) (fun hb => by cases hb) (fun _ h6 t6 a6 => x_nil ?_)
    · have hi' : i < row.length := by simpa using hi
      have hm : row.getD i 0 ∈ row := by
        have : row.getD i 0 = row[i] := by simp [List.getD, hi']
        rw [this]; exact List.getElem_mem hi'
      exact ev_call (ev_glob rfl (HasDef.name F.sign)) (HasDef.kept F.sign) (Evs.cons (ev_name rfl) Evs.nil) (sign_ok F.sign F.chr (P.r256 _ hm) (d + 3) A (hA.down (by omega)))
    -- the cut
    have hm0 : 0 ≤ cut.fmod ((n : Int) + 1) := Int.fmod_nonneg_of_pos _ (by omega)
    have hm1 : cut.fmod ((n : Int) + 1) < (n : Int) + 1 := Int.fmod_lt_of_pos _ (by omega)
    obtain ⟨m, hm⟩ : ∃ m : Nat, cut.fmod ((n : Int) + 1) = (m : Int) := ⟨_, (Int.toNat_of_nonneg hm0).symm⟩
    have hmn : m ≤ n := by omega
    obtain ⟨fs, ts, c1, c2, c3, c4, c5, c6, c7, c8⟩ := P.cut m hmn
    have evm : ∀ {Γ : Gam}, Γ.lookup ("cut" : Str) = some (tI cut) → Γ.lookup ("row" : Str) = some (dat (wD row)) → ∀ {p1 p2 p3 p4 p5 p6 p7 : Pos} {k1 : Nat}, Ev K A (envOfC dHolds.name dHolds.scope L f cd) Γ [] (.BinOp (.Name "cut" p1) .Mod (.BinOp (.Call (.Name "len" p2) [.Name "row" p3] [] p4) .Add (.Constant (.int 1) k1 p5) p6) p7) (tI m) := fun {Γ} g1 g2 {p1 p2 p3 p4 p5 p6 p7 k1} =>
      Ev.as (ev_bin (ev_name g1) (ev_bin (ev_call (ev_blt rfl F.H.len.g F.H.len.b) (.inl ⟨_, rfl⟩) (Evs.cons (ev_name g2) Evs.nil) (cl_len (by rw [sizeLine_eq]; omega))) ev_int op_add) (op_mod (by omega))) (by rw [lrow, hrl, hm])
    have cf := off_ok (K := K) (row := row) (size := size) (a := 0) (m := m) (val := vS fun k => encF iso (V k)) (n := n) (r := r) F.off F.H F.G (cmpLt_str P.H) (by omega) (by omega) P.r256 (by omega) (by omega) (by omega) (fun t ht => by
      have := P.rk (0 + t) (by omega)
      exact ⟨this.1, by rw [vS, this.2]⟩) d A (hA.down (by omega))
    have ct := off_ok (K := K) (row := row) (size := size) (a := m) (m := n - m) (val := vS fun k => encF iso (V k)) (n := n) (r := r) F.off F.H F.G (cmpLt_str P.H) (by omega) (by omega) P.r256 (by omega) (by omega) (by omega) (fun t ht => by
      have := P.rk (m + t) (by omega)
      exact ⟨this.1, by rw [vS, this.2]⟩) d A (hA.down (by omega))
    rw [c1] at cf
    rw [c2] at ct
    have e0 : (((0 : Nat) : Int)) = 0 := rfl
    have e1 : (((0 + m : Nat)) : Int) = m := by omega
    have e2 : (((m + (n - m) : Nat)) : Int) = n := by omega
    rw [e0, e1] at cf
    rw [e2] at ct
    refine x_assign a6 (ev_call (ev_glob rfl (HasDef.name F.off)) (HasDef.kept F.off) (Evs.cons (ev_name rfl) (Evs.cons (ev_name rfl) (Evs.cons (ev_call (ev_blt rfl F.H.range.g F.H.range.b) (.inr (.inl ⟨_, rfl⟩)) (Evs.cons (evm rfl rfl) Evs.nil) cl_range1) Evs.nil))) cf) (.inl rfl) fun h7 t7 a7 => ?_
    refine x_assign a7 (ev_call (ev_glob rfl (HasDef.name F.off)) (HasDef.kept F.off) (Evs.cons (ev_name rfl) (Evs.cons (ev_name rfl) (Evs.cons (ev_call (ev_blt rfl F.H.range.g F.H.range.b) (.inr (.inl ⟨_, rfl⟩)) (Evs.cons (evm rfl rfl) (Evs.cons (Ev.as (ev_call (ev_blt rfl F.H.len.g F.H.len.b) (.inl ⟨_, rfl⟩) (Evs.cons (ev_name rfl) Evs.nil) (cl_len (by rw [sizeLine_eq]; omega))) (by rw [lrow, hrl])) Evs.nil)) cl_range2) Evs.nil))) ct) (.inl rfl) fun h8 t8 a8 => ?_
    -- once
    have co := once_ok (K := K) (e := fun k => encF iso (V k)) (n := n) (ks := List.range n) (js := fs) (ls := ts) F.once F.sld F.ie F.list P.H (fun k hk => List.mem_range.mp hk) c5 List.pairwise_lt_range c8 (by simp; omega) (by omega) (by omega) (fun i => strOk_enc (by decide +kernel) (hV i).2) c3 c4 (d + 2)
    refine x_retS (Now.of_at a8 hmu) (evs_call C hA hfr (ev_glob rfl (HasDef.name F.once)) (HasDef.kept F.once) (Evs.cons (Ev.as (ev_map2 (cl := []) (d1 := fun i => .str (encF iso (V i))) (d2 := fun i => wD (V i)) hA (Γc := []) (fun i => .str (encF iso (V i))) ⟨rfl, by decide, rfl, by decide, (fun _ q => nomatch q), by decide, trivial⟩ rfl rfl (fun t u => trivial) (itL rfl) (fun C i hi => ev_name rfl) (by rw [sizeLine_eq, hLn]; omega)) (by rw [hLn])) (Evs.cons (ev_name rfl) (Evs.cons (ev_name rfl) Evs.nil))) co) fun v h9 t9 n9 p9 => k (.ret v) h9 t9 _ n9.sx (fun _ q => q) p9
end Mine

namespace Mine
variable {K : Wd}
theorem oct1_b (n : Int) : 0 ≤ oct1 n ∧ oct1 n < 256 := ⟨Int.fmod_nonneg_of_pos _ (by decide), Int.fmod_lt_of_pos _ (by decide)⟩
theorem oct2_b (n : Int) : 0 ≤ oct2 n ∧ oct2 n < 256 := ⟨Int.fmod_nonneg_of_pos _ (by decide), Int.fmod_lt_of_pos _ (by decide)⟩
theorem oct3_b (n : Int) : 0 ≤ oct3 n ∧ oct3 n < 256 := ⟨Int.fmod_nonneg_of_pos _ (by decide), Int.fmod_lt_of_pos _ (by decide)⟩
def octs (n : Int) : List Nat := [(oct1 n).toNat, (oct2 n).toNat, (oct3 n).toNat]
def shp (t : Nat) : Nat × Nat := [(2, 4), (3, 2), (3, 3), (2, 3)].getD t (2, 4)
theorem octs_lI (n : Int) : [PyData.int (oct1 n), .int (oct2 n), .int (oct3 n)] = lI (octs n) := by
  have h1 := oct1_b n; have h2 := oct2_b n; have h3 := oct3_b n
  simp only [octs, lI, List.map_cons, List.map_nil, Int.toNat_of_nonneg h1.1, Int.toNat_of_nonneg h2.1, Int.toNat_of_nonneg h3.1]
def PlainLaw : Prop := ∀ (n : Int) (t : Nat), t < 4 → ∃ ord m V ks row r, Pf ((octs n).take (shp t).1) ord (shp t).2 m V ks row r
structure LawFns (K : Wd) where
  F : HoldFns K
  fNumbers : Addr
  numbers : K.β.HasDef dNumbers fNumbers
  fOctets : Addr
  octets : K.β.HasDef dOctets fOctets
  fHolds : Addr
  holds : K.β.HasDef dHolds fHolds
  sum : Bn K.β "sum" (.builtin "sum")
theorem ev_two {A : Around} {env : Env} {Γ : Gam} {N : Led} {a b : Int} {k1 k2 kk : Nat} {p1 p2 p3 : Pos} : Ev K A env Γ N (.Tuple [.Constant (.int a) k1 p1, .Constant (.int b) k2 p2] kk p3) (tT [.int a, .int b]) := ev_tuple (ds := [.int a, .int b]) (Evs.cons ev_int (Evs.cons ev_int Evs.nil)) (by rw [sizeLine_eq]; simp)
theorem shp_at {t : Nat} (h : t < 4) : ([.tuple [.int 2, .int 4], .tuple [.int 3, .int 2], .tuple [.int 3, .int 3], .tuple [.int 2, .int 3]] : List PyData)[((t : Int)).toNat]? = some (.tuple [.int ((shp t).1 : Nat), .int ((shp t).2 : Nat)]) := by
  rw [Int.toNat_natCast]
  match t, h with
  | 0, _ => rfl
  | 1, _ => rfl
  | 2, _ => rfl
  | 3, _ => rfl
theorem law_pair {A : Around} {env : Env} {Γ : Gam} {N : Led} {mu : List Addr} {s : Shared} {T1 T2 T3 T4 b1 b2 : Expr} {o : Operator} {p pb pos : Pos} {t : Nat} {Q : Value → Shared → Prop} {E : Value → Shared → Prop} (ht : t < 4) (y1 : Ev K A env Γ N T1 (tT [.int 2, .int 4])) (y2 : Ev K A env Γ N T2 (tT [.int 3, .int 2])) (y3 : Ev K A env Γ N T3 (tT [.int 3, .int 3])) (y4 : Ev K A env Γ N T4 (tT [.int 2, .int 3])) (x2 : Ev K A env Γ N (.BinOp b1 o b2 pb) (tI t)) (S : Sat K.β env Γ N mu s.heap)
    (h1 : starEach [T1, T2, T3, T4] env = (false, eval T1 env) :: starEach [T2, T3, T4] env) (h2 : starEach [T2, T3, T4] env = (false, eval T2 env) :: starEach [T3, T4] env) (h3 : starEach [T3, T4] env = (false, eval T3 env) :: starEach [T4] env) (h4 : starEach [T4] env = (false, eval T4 env) :: starEach [] env)
    (k : ∀ v h' tk, Ext s.heap h' → (tT [.int ((shp t).1 : Nat), .int ((shp t).2 : Nat)]).P (fz h' mu) v → Q v (Sx s h' tk)) : wpAny K.M A (eval (.Subscript (.List [T1, T2, T3, T4] p) (.BinOp b1 o b2 pb) pos) env) Q E s := by
  have x1 : Ev K A env Γ N (.List [T1, T2, T3, T4] p) (tL [.tuple [.int 2, .int 4], .tuple [.int 3, .int 2], .tuple [.int 3, .int 3], .tuple [.int 2, .int 3]]) := ev_list (ds := [.tuple [.int 2, .int 4], .tuple [.int 3, .int 2], .tuple [.int 3, .int 3], .tuple [.int 2, .int 3]]) (Evs.cons y1 (Evs.cons y2 (Evs.cons y3 (Evs.cons y4 Evs.nil h4) h3) h2) h1) (by rw [sizeLine_eq]; simp)
  exact (ev_sub x1 x2 (op_item (d := .tuple [.int ((shp t).1 : Nat), .int ((shp t).2 : Nat)]) plain_bin (by omega) (by omega) (shp_at ht))).use S k
set_option maxHeartbeats 2000000 in
theorem law_ok {f : Addr} {its : Array Value} (hd : K.β.HasDef dLaw f) (F : LawFns K) (hi : AllInts its) (hz : its.size ≤ 1000) (P : PlainLaw) (d : Nat) : FnS K (d + 6) f [tA its] (tB true) := by
  refine fnS_of (Γ := [("script", tA its)]) hd rfl rfl rfl (by decide) (fun vals hv => ?_) ?_
  · cases hv with
    | @cons v1 _ _ _ _ hv =>
        cases hv
        exact ⟨[("script", v1)], fun _ _ _ => rfl, by rfl, fun L cd g hp => by
          cases hp with
          | cons p1 hp => exact ⟨.inl ⟨rfl, _, rfl, p1⟩, trivial⟩⟩
  · intro A L cd mu h₀ outer s Q hA hfr ho hFr hmu hL z k
    have C : Ctx (envOfC dLaw.name dLaw.scope L f cd) outer h₀ := ⟨rfl, rfl, ho⟩
    have hz' : its.size ≤ sizeLine := by rw [sizeLine_eq]; omega
    refine x_assign z (ev_call (ev_glob rfl (HasDef.name F.numbers)) (HasDef.kept F.numbers) (Evs.cons (ev_name rfl) Evs.nil) (numbers_ok F.numbers F.sum F.F.H.range hi hz' (d + 4) A (hA.down (by omega)))) (.inl rfl) fun h1 t1 a1 => ?_
    generalize numAtK its 0 = n0 at a1
    generalize numAtK its 1 = n1 at a1
    generalize numAtK its 2 = n2 at a1
    have hm0 : 0 ≤ n1.fmod 4 := Int.fmod_nonneg_of_pos _ (by decide)
    have hm1 : n1.fmod 4 < 4 := Int.fmod_lt_of_pos _ (by decide)
    obtain ⟨t, ht⟩ : ∃ t : Nat, n1.fmod 4 = (t : Int) := ⟨_, (Int.toNat_of_nonneg hm0).symm⟩
    have ht4 : t < 4 := by omega
    obtain ⟨ord, m, V, ks, row, r, P⟩ := P n0 t ht4
    have z2 : At K h₀ [] (envOfC dLaw.name dLaw.scope L f cd) [("numbers", tL [.int n0, .int n1, .int n2]), ("script", tA its)] [] mu h1 := a1
    have x2 : ∀ {p1 p2 p3 p4 p5 : Pos} {k1 k2 : Nat}, Ev K A (envOfC dLaw.name dLaw.scope L f cd) [("numbers", tL [.int n0, .int n1, .int n2]), ("script", tA its)] [] (.BinOp (.Subscript (.Name "numbers" p1) (.Constant (.int 1) k1 p2) p3) .Mod (.Constant (.int 4) k2 p4) p5) (tI t) := (Ev.as (ev_bin (ev_sub (ev_name rfl) ev_int (op_item (d := .int n1) plain_int (by decide) (by decide) rfl)) ev_int (op_mod (by decide))) (by rw [ht]))
    refine wpAny_execs_cons ?_
    refine Assign_Tuple (elts := [_, _]) ?A ?B ?C
    case B => rfl
    case C => rfl
    refine law_pair (s := Sx s h1 t1) ht4 ev_two ev_two ev_two ev_two x2 z2.sat rfl rfl rfl rfl fun v h1' k1 e1 p1 => ?_
    have tg := fun p q r kk => tg_pair (K := K) (env := envOfC dLaw.name dLaw.scope L f cd) (Γ := [("numbers", tL [.int n0, .int n1, .int n2]), ("script", tA its)]) (x := "count") (y := "size") (p := p) (q := q) (r := r) (kk := kk) (d := .int ((shp t).1 : Nat)) (e := .int ((shp t).2 : Nat)) hA rfl rfl
    refine tg _ _ _ _ [] mu (Sx s h1' k1) v _ _ (z2.sat.ext e1) p1 fun h2 t2 S2 c2 => ?_
    have a2 := (z2.ext e1).over S2 c2 fun b hb => .inl (by rw [List.mem_singleton.mp hb]; exact own_locals)
    show wpAny K.M A _ _ _ (Sx s h2 t2)
    have co := octets_ok (K := K) (n := n0) F.octets (d + 4) A (hA.down (by omega))
    rw [octs_lI] at co
    have el : (lI (octs n0)).take (((shp t).1 : Nat) : Int).toNat = lI ((octs n0).take (shp t).1) := by rw [Int.toNat_natCast, take_lI]
    refine x_retS (Now.of_at a2 hmu) (evs_call C hA hfr (ev_glob rfl (HasDef.name F.holds)) (HasDef.kept F.holds) (Evs.cons (Ev.as (ev_upto (ev_call (ev_glob rfl (HasDef.name F.octets)) (HasDef.kept F.octets) (Evs.cons (ev_sub (ev_name rfl) ev_int (op_item (d := .int n0) plain_int (by decide) (by decide) rfl)) Evs.nil) co) (ev_name rfl) (by omega) (by rw [sizeLine_eq]; simp [octs])) (by rw [el]))
      (Evs.cons (ev_name rfl) (Evs.cons (ev_sub (ev_name rfl) ev_int (op_item (d := .int n2) plain_int (by decide) (by decide) rfl)) Evs.nil))) (holds_ok (cut := n2) F.holds F.F P d)) fun v h9 t9 n9 p9 => k (.ret v) h9 t9 _ n9.sx (fun _ q => q) p9
end Mine

namespace Mine
/-! the letters, sorted -/
theorem below_pair (a b : Nat) : pairLt (ordP a) (ordP b) = true ↔ Below a b := by
  unfold pairLt ordP Below
  simp only [Bool.or_eq_true, Bool.and_eq_true, decide_eq_true_eq, beq_iff_eq]
  omega
def SortOk (p : List Nat) : Bool :=
  let lt := fun i j : Nat => decide (p.getD i 0 < p.getD j 0)
  KasT.asks p.length lt (kas_sort p.length) && ((KasT.run lt (kas_sort p.length)).toList.all fun i => decide (i < p.length)) && (((KasT.run lt (kas_sort p.length)).toList.map fun i => p.getD i 0) == List.range p.length) && p.all fun r => decide (r < p.length)
theorem sortOk_all : ([[0, 1], [1, 0]] ++ perms3).all SortOk = true := by decide +kernel
/-- ls is ord, its letters' ranks being p -/
structure Sorted (ls ord p : List Nat) : Prop where
  O : Ord ord
  len : ord.length = p.length
  ls : ls = p.map fun r => ord.getD r 0
theorem ord2 {a b : Nat} (ha : a < 256) (hb : b < 256) (h : Below a b) : Ord [a, b] := ⟨fun o ho => by
    simp only [List.mem_cons, List.not_mem_nil, or_false] at ho
    rcases ho with rfl | rfl <;> assumption, fun i j hij hj => by
    have : i = 0 ∧ j = 1 := by simp at hj; omega
    obtain ⟨rfl, rfl⟩ := this
    exact h⟩
theorem ord3 {a b c : Nat} (ha : a < 256) (hb : b < 256) (hc : c < 256) (h1 : Below a b) (h2 : Below b c) : Ord [a, b, c] := ⟨fun o ho => by
    simp only [List.mem_cons, List.not_mem_nil, or_false] at ho
    rcases ho with rfl | rfl | rfl <;> assumption, fun i j hij hj => by
    have : (i = 0 ∧ j = 1) ∨ (i = 0 ∧ j = 2) ∨ (i = 1 ∧ j = 2) := by simp at hj; omega
    rcases this with ⟨rfl, rfl⟩ | ⟨rfl, rfl⟩ | ⟨rfl, rfl⟩
    · exact h1
    · show Below a c
      unfold Below at h1 h2 ⊢
      omega
    · exact h2⟩
theorem below_total {a b : Nat} (h : a ≠ b) : Below a b ∨ Below b a := by unfold Below; omega
theorem sort2 {a b : Nat} (ha : a < 256) (hb : b < 256) (h : a ≠ b) : ∃ ord p, p ∈ [[0, 1], [1, 0]] ∧ Sorted [a, b] ord p := by
  rcases below_total h with q | q
  · exact ⟨[a, b], [0, 1], by simp, ord2 ha hb q, rfl, rfl⟩
  · exact ⟨[b, a], [1, 0], by simp, ord2 hb ha q, rfl, rfl⟩
theorem sort3 {a b c : Nat} (ha : a < 256) (hb : b < 256) (hc : c < 256) (h1 : a ≠ b) (h2 : b ≠ c) (h3 : a ≠ c) : ∃ ord p, p ∈ perms3 ∧ Sorted [a, b, c] ord p := by
  rcases below_total h1 with q1 | q1
  · rcases below_total h2 with q2 | q2
    · exact ⟨[a, b, c], [0, 1, 2], by simp [perms3], ord3 ha hb hc q1 q2, rfl, rfl⟩
    · rcases below_total h3 with q3 | q3
      · exact ⟨[a, c, b], [0, 2, 1], by simp [perms3], ord3 ha hc hb q3 q2, rfl, rfl⟩
      · exact ⟨[c, a, b], [1, 2, 0], by simp [perms3], ord3 hc ha hb q3 q1, rfl, rfl⟩
  · rcases below_total h3 with q3 | q3
    · exact ⟨[b, a, c], [1, 0, 2], by simp [perms3], ord3 hb ha hc q1 q3, rfl, rfl⟩
    · rcases below_total h2 with q2 | q2
      · exact ⟨[b, c, a], [2, 0, 1], by simp [perms3], ord3 hb hc ha q2 q3, rfl, rfl⟩
      · exact ⟨[c, b, a], [2, 1, 0], by simp [perms3], ord3 hc hb ha q2 q1, rfl, rfl⟩
theorem octs_ne (n : Int) : (oct1 n).toNat ≠ (oct2 n).toNat ∧ (oct2 n).toNat ≠ (oct3 n).toNat ∧ (oct1 n).toNat ≠ (oct3 n).toNat := by
  have h1 := oct1_b n; have h2 := oct2_b n; have h3 := oct3_b n
  have a0 : 0 ≤ (n.fdiv 256).fmod 85 := Int.fmod_nonneg_of_pos _ (by decide)
  have a1 : (n.fdiv 256).fmod 85 < 85 := Int.fmod_lt_of_pos _ (by decide)
  have b0 : 0 ≤ (n.fdiv 21760).fmod 85 := Int.fmod_nonneg_of_pos _ (by decide)
  have b1 : (n.fdiv 21760).fmod 85 < 85 := Int.fmod_lt_of_pos _ (by decide)
  have e2 : oct2 n = (oct1 n + 1 + (n.fdiv 256).fmod 85) % 256 := by unfold oct2; rw [Int.fmod_eq_emod_of_nonneg _ (by decide)]
  have e3 : oct3 n = (oct2 n + 1 + (n.fdiv 21760).fmod 85) % 256 := by unfold oct3; rw [Int.fmod_eq_emod_of_nonneg _ (by decide)]
  omega
theorem sorted_lt {ls ord p : List Nat} (S : Sorted ls ord p) (hp : ∀ r ∈ p, r < p.length) {i j : Nat} (hi : i < ls.length) (hj : j < ls.length) : pairLt (ordP (ls.getD i 0)) (ordP (ls.getD j 0)) = decide (p.getD i 0 < p.getD j 0) := by
  obtain ⟨O, hl, rfl⟩ := S
  simp only [List.length_map] at hi hj
  have ei : (p.map fun r => ord.getD r 0).getD i 0 = ord.getD (p.getD i 0) 0 := getD_map 0 hi
  have ej : (p.map fun r => ord.getD r 0).getD j 0 = ord.getD (p.getD j 0) 0 := getD_map 0 hj
  have mi : p.getD i 0 < ord.length := by rw [hl]; exact hp _ (by rw [List.getD_eq_getElem?_getD, List.getElem?_eq_getElem hi]; exact List.getElem_mem hi)
  have mj : p.getD j 0 < ord.length := by rw [hl]; exact hp _ (by rw [List.getD_eq_getElem?_getD, List.getElem?_eq_getElem hj]; exact List.getElem_mem hj)
  rw [ei, ej]
  generalize p.getD i 0 = x at mi
  generalize p.getD j 0 = y at mj
  by_cases h : x < y
  · rw [decide_eq_true h]
    exact (below_pair _ _).mpr (O.up x y h mj)
  · rw [decide_eq_false h]
    cases q : pairLt (ordP (ord.getD x 0)) (ordP (ord.getD y 0)) with
    | false => rfl
    | true =>
      have b := (below_pair _ _).mp q
      rcases Nat.lt_or_ge y x with w | w
      · have b' := O.up y x w mi
        unfold Below at b b'
        omega
      · have : x = y := by omega
        subst this
        unfold Below at b
        omega
theorem sorts_of {ls ord p : List Nat} (S : Sorted ls ord p) (h : SortOk p = true) : ∃ lt : Nat → Nat → Bool, (∀ i j, i < ls.length → j < ls.length → pairLt (ordP (ls.getD i 0)) (ordP (ls.getD j 0)) = lt i j) ∧ KasT.asks ls.length lt (kas_sort ls.length) = true ∧
    (∀ i ∈ (KasT.run lt (kas_sort ls.length)).toList, i < ls.length) ∧ (KasT.run lt (kas_sort ls.length)).toList.map (fun i => ls.getD i 0) = ord := by
  unfold SortOk at h
  simp only [Bool.and_eq_true, List.all_eq_true, decide_eq_true_eq, beq_iff_eq] at h
  obtain ⟨⟨⟨h1, h2⟩, h3⟩, h4⟩ := h
  have hlp : ls.length = p.length := by rw [S.ls]; simp
  refine ⟨fun i j => decide (p.getD i 0 < p.getD j 0), fun i j hi hj => sorted_lt S h4 hi hj, by rw [hlp]; exact h1, by rw [hlp]; exact h2, ?_⟩
  rw [hlp]
  have e : (KasT.run (fun i j : Nat => decide (p.getD i 0 < p.getD j 0)) (kas_sort p.length)).toList.map (fun i => ls.getD i 0) = ((KasT.run (fun i j : Nat => decide (p.getD i 0 < p.getD j 0)) (kas_sort p.length)).toList.map fun i => p.getD i 0).map fun r => ord.getD r 0 := by
    rw [List.map_map]
    refine List.map_congr_left fun i hi => ?_
    rw [S.ls]
    exact getD_map 0 (h2 i hi)
  rw [e, h3, ← S.len, ord_self]

/-! words -/
theorem words_len (ls : List Nat) : ∀ t, (wordsF ls t).length = ls.length ^ t
  | 0 => rfl
  | t + 1 => by
    rw [wordsF, List.length_flatMap, Nat.pow_succ, ← words_len ls t]
    have : ∀ l : List (List Nat), (l.map fun w => (ls.map fun x => w ++ [x]).length).sum = l.length * ls.length := by
      intro l
      induction l with
      | nil => simp
      | cons w l ih => simp only [List.map_cons, List.sum_cons, List.length_map, List.length_cons] at ih ⊢; rw [ih, Nat.succ_mul]; omega
    exact this _
theorem words_each (ls : List Nat) : ∀ t, ∀ w ∈ wordsF ls t, w.length = t
  | 0, w, h => by simp [wordsF] at h; subst h; rfl
  | t + 1, w, h => by
    rw [wordsF] at h
    obtain ⟨u, hu, hw⟩ := List.mem_flatMap.mp h
    obtain ⟨x, _, rfl⟩ := List.mem_map.mp hw
    simp [words_each ls t u hu]
theorem words_bound {ls : List Nat} (hl : ls.length ≤ 3) {size : Nat} (hs : size ≤ 4) : ∀ t, t ≤ size → (wordsF ls t).length ≤ 1000 ∧ ∀ w ∈ wordsF ls t, w.length ≤ 1000 := fun t ht => by
  refine ⟨?_, fun w hw => by rw [words_each ls t w hw]; omega⟩
  rw [words_len]
  have h1 : ls.length ^ t ≤ 3 ^ t := Nat.pow_le_pow_left hl t
  have h2 : 3 ^ t ≤ 3 ^ 4 := Nat.pow_le_pow_right (by omega) (by omega)
  omega
theorem pairwise_of {l : List Nat} (h : ∀ i, i + 1 < l.length → l.getD i 0 < l.getD (i + 1) 0) : l.Pairwise (· < ·) := by
  rw [List.pairwise_iff_getElem]
  have g : ∀ i (hi : i < l.length), l.getD i 0 = l[i] := fun i hi => by simp [List.getD, hi]
  intro i j hi hj hij
  obtain ⟨d, rfl⟩ := Nat.exists_eq_add_of_lt hij
  induction d with
  | zero =>
    have := h i hj
    rw [g i hi, g _ hj] at this
    exact this
  | succ d ih =>
    have h1 := ih (by omega) (by omega)
    have h2 := h (i + d + 1) hj
    rw [g _ (by omega), g _ (by omega)] at h2
    exact Nat.lt_trans h1 h2
structure Gd (c size : Nat) : Prop where
  g1 : good1 c size = true
  g2 : good2 c size = true
  g3 : good3 c size = true
  g4 : good4 c size = true
theorem pf_of {ls ord p : List Nat} {size : Nat} (S : Sorted ls ord p) (hS : SortOk p = true) (hc : p.length = 2 ∨ p.length = 3) (hs : 1 ≤ size) (hs4 : size ≤ 4) (hn : p.length ^ size ≤ 100) (g : Gd p.length size) (g5 : good5 p size = true) :
    ∃ m V ks row r, Pf ls ord size m V ks row r := by
  have O := S.O
  have hlo := S.len
  have hll : ls.length = p.length := by rw [S.ls]; simp
  have h0 : 0 < ord.length := by omega
  obtain ⟨g1, g2, g3, g4⟩ := g
  unfold good1 at g1
  simp only [Bool.and_eq_true, List.all_eq_true, decide_eq_true_eq, beq_iff_eq, List.mem_range] at g1
  obtain ⟨⟨v1, v2⟩, v3⟩ := g1
  unfold good2 at g2
  simp only [Bool.and_eq_true, beq_iff_eq] at g2
  obtain ⟨⟨r1, r2⟩, r3⟩ := g2
  unfold good3 at g3
  simp only [Bool.and_eq_true, List.all_eq_true, decide_eq_true_eq, beq_iff_eq, List.mem_range] at g3
  unfold good4 at g4
  simp only [List.all_eq_true, List.mem_range] at g4
  unfold good5 at g5
  simp only [Bool.and_eq_true, List.all_eq_true, decide_eq_true_eq, beq_iff_eq] at g5
  obtain ⟨⟨⟨k1, k2⟩, k3⟩, k4⟩ := g5
  have hn1 : 1 ≤ p.length ^ size := Nat.one_le_pow _ _ (by omega)
  have vmem : ∀ k, k < p.length ^ size → (allW p.length size).getD k [] ∈ allW p.length size := fun k hk => by
    have hk' : k < (allW p.length size).length := by rw [v1]; exact hk
    have : (allW p.length size).getD k [] = (allW p.length size)[k] := by simp [List.getD, hk']
    rw [this]; exact List.getElem_mem hk'
  have vlen : ∀ k, ((allW p.length size).getD k []).length ≤ 10 := fun k => by
    by_cases hk : k < p.length ^ size
    · have := (v3 _ (vmem k hk)).1; omega
    · have : (allW p.length size).getD k [] = [] := by simp [List.getD, v1, hk]
      rw [this]; simp
  have hlt : ∀ k, k < p.length ^ size → ∀ x ∈ (allW p.length size).getD k [], x < ord.length := fun k hk x hx => by rw [hlo]; exact (v3 _ (vmem k hk)).2 x hx
  have hne : ∀ k, k < p.length ^ size → (allW p.length size).getD k [] ≠ [] := fun k hk q => by
    have := (v3 _ (vmem k hk)).1
    rw [q] at this; simp at this; omega
  have ro : ∀ o ∈ wd ord (rowR p.length size), o < 256 := fun o ho => by
    obtain ⟨x, _, rfl⟩ := List.mem_map.mp ho
    exact f_lt O x
  have hop : ∀ i, i < ord.length ^ size → gOpen (List.range ord.length) (gRun (List.range ord.length) (gStart (List.range ord.length) size) i) ≠ [] := fun i hi => by rw [hlo] at hi ⊢; exact gChk_spec _ _ _ r3 i hi
  have rl : (wd ord (rowR p.length size)).length = p.length ^ size := by rw [wd_length]; exact r1
  have rAt' : ∀ q, q < p.length ^ size → ((List.range (p.length ^ size)).map (rAt p.length size)).getD q 0 = rAt p.length size q := fun q hq => by
    rw [getD_map 0 (by simpa using hq)]
    congr 1
    simp [List.getD, hq]
  refine ⟨p.length ^ size, fun k => wd ord ((allW p.length size).getD k []), (wordsF p size).map (rkW (allW p.length size)), wd ord (rowR p.length size), fun q => ((List.range (p.length ^ size)).map (rAt p.length size)).getD q 0, ?_⟩
  have hpn : ∀ r ∈ p, r < p.length := by
    unfold SortOk at hS
    simp only [Bool.and_eq_true, List.all_eq_true, decide_eq_true_eq, beq_iff_eq] at hS
    exact hS.2
  exact {
    l2 := by omega
    l3 := by omega
    l256 := fun o ho => by rw [S.ls] at ho; obtain ⟨x, _, rfl⟩ := List.mem_map.mp ho; exact f_lt O x
    s1 := hs
    s4 := hs4
    n1 := hn1
    n100 := hn
    ol := by omega
    o256 := O.lt
    sorts := sorts_of S hS
    wl := words_bound (by omega) hs4
    wo := words_bound (by omega) hs4
    v := fun k => ⟨by rw [wd_length]; exact vlen k, fun o ho => by obtain ⟨x, _, rfl⟩ := List.mem_map.mp ho; exact f_lt O x⟩
    H := fun i j hi hj => by
      have := enc_lt O (u := (allW p.length size).getD i []) (v := (allW p.length size).getD j []) (by rw [(v3 _ (vmem i hi)).1, (v3 _ (vmem j hj)).1]) (hne i hi) (hlt i hi) (hlt j hj)
      rw [this, ← wlt_iff, v2 i hi j hj]
    kl := by rw [k4]
    kn := k1
    kw := by
      rw [S.ls, wordsF_map, List.map_map]
      refine List.map_congr_left fun u hu => ?_
      show _ = wd ord ((allW p.length size).getD (rkW (allW p.length size) u) [])
      rw [k2 u hu]
      rfl
    kp := by rw [← k4] at k3 ⊢; exact k3
    vo := by
      have : wordsF ord size = (allW p.length size).map (wd ord) := by
        conv => lhs; rw [← ord_self ord]
        rw [wordsF_map, hlo]
        rfl
      rw [this, ← v1, range_map_f (wd ord)]
    rw' := by
      unfold rowF
      rw [List.flatMap_map]
      have : ∀ k, k ∈ List.range (p.length ^ size) → openF (encF iso (wd ord ((allW p.length size).getD k []))) (wd ord ((allW p.length size).getD k [])) = wd ord (openR ((allW p.length size).getD k [])) := fun k hk => openF_wd O (hne k (List.mem_range.mp hk)) (hlt k (List.mem_range.mp hk))
      have e : (List.range (p.length ^ size)).flatMap (fun k => openF (encF iso (wd ord ((allW p.length size).getD k []))) (wd ord ((allW p.length size).getD k []))) = (List.range (p.length ^ size)).flatMap (fun k => wd ord (openR ((allW p.length size).getD k []))) := by
        rw [List.flatMap_def, List.flatMap_def, List.map_congr_left this]
      rw [e, ← v1, range_flatMap_f (fun u => wd ord (openR u))]
      unfold rowR wd
      rw [List.map_flatMap]
    rl := rl
    r256 := ro
    pw := by rw [hll]
    gr := by rw [greedy_wd O h0 hop, hlo, ← r2]
    go := fun t ht => hop_wd O h0 hop t (by rw [hlo]; exact ht)
    rk := fun q hq => by
      obtain ⟨q1, q2⟩ := g3 q hq
      refine ⟨by rw [rAt' q hq]; exact q1, ?_⟩
      rw [rAt' q hq, q2, wAt_wd (by rw [r1]; omega)]
    cut := fun m hm => by
      have h := g4 m (by omega)
      unfold cutOk at h
      simp only [Bool.and_eq_true, List.all_eq_true, decide_eq_true_eq, beq_iff_eq, List.mem_range] at h
      obtain ⟨⟨⟨⟨⟨c1, c2⟩, c3⟩, c4⟩, c5⟩, c6⟩ := h
      refine ⟨_, _, rfl, rfl, ?_, ?_, c3, c4, c5, pairwise_of fun i hi => c6 i (by rw [c4] at hi; omega)⟩
      · rw [← c1, sldG_eq _ _ _ (by rw [c4]; simp; omega)]
      · rw [← c2, sldG_eq _ _ _ (by rw [c4]; simp; omega)] }
theorem plain_law : PlainLaw := fun n t ht => by
  have b1 := oct1_b n; have b2 := oct2_b n; have b3 := oct3_b n
  obtain ⟨d1, d2, d3⟩ := octs_ne n
  have a1 : (oct1 n).toNat < 256 := by omega
  have a2 : (oct2 n).toNat < 256 := by omega
  have a3 : (oct3 n).toNat < 256 := by omega
  have hg1 := g1; have hg2 := g2; have hg3 := g3; have hg4 := g4; have h5a := g5a; have h5b := g5b; have hso := sortOk_all
  simp only [Bool.and_eq_true] at hg1 hg2 hg3 hg4 h5a
  rw [List.all_eq_true] at h5b hso
  have so : ∀ p, p ∈ [[0, 1], [1, 0]] ∨ p ∈ perms3 → SortOk p = true := fun p hp => hso p (List.mem_append.mpr hp)
  have two : ∀ p, p ∈ ([[0, 1], [1, 0]] : List (List Nat)) → p.length = 2 ∧ good5 p 4 = true ∧ good5 p 3 = true := fun p hp => by
    rcases List.mem_cons.mp hp with rfl | hp
    · exact ⟨rfl, h5a.1.1.1, h5a.1.2⟩
    · rw [List.mem_singleton.mp hp]; exact ⟨rfl, h5a.1.1.2, h5a.2⟩
  have three : ∀ p, p ∈ perms3 → p.length = 3 ∧ good5 p 2 = true ∧ good5 p 3 = true := fun p hp => by
    have := h5b p hp
    simp only [Bool.and_eq_true] at this
    exact ⟨(by decide : ∀ p ∈ perms3, p.length = 3) p hp, this.1, this.2⟩
  have t4 : t = 0 ∨ t = 1 ∨ t = 2 ∨ t = 3 := by omega
  rcases t4 with rfl | rfl | rfl | rfl
  · obtain ⟨ord, p, hp, S⟩ := sort2 a1 a2 d1
    obtain ⟨e, f4, f3⟩ := two p hp
    have := pf_of (size := 4) S (so p (.inl hp)) (.inl e) (by decide) (by decide) (by rw [e]; decide) (by rw [e]; exact ⟨hg1.1.1.1, hg2.1.1.1, hg3.1.1.1, hg4.1.1.1⟩) f4
    exact ⟨ord, this⟩
  · obtain ⟨ord, p, hp, S⟩ := sort3 a1 a2 a3 d1 d2 d3
    obtain ⟨e, f2, f3⟩ := three p hp
    have := pf_of (size := 2) S (so p (.inr hp)) (.inr e) (by decide) (by decide) (by rw [e]; decide) (by rw [e]; exact ⟨hg1.1.1.2, hg2.1.1.2, hg3.1.1.2, hg4.1.1.2⟩) f2
    exact ⟨ord, this⟩
  · obtain ⟨ord, p, hp, S⟩ := sort3 a1 a2 a3 d1 d2 d3
    obtain ⟨e, f2, f3⟩ := three p hp
    have := pf_of (size := 3) S (so p (.inr hp)) (.inr e) (by decide) (by decide) (by rw [e]; decide) (by rw [e]; exact ⟨hg1.1.2, hg2.1.2, hg3.1.2, hg4.1.2⟩) f3
    exact ⟨ord, this⟩
  · obtain ⟨ord, p, hp, S⟩ := sort2 a1 a2 d1
    obtain ⟨e, f4, f3⟩ := two p hp
    have := pf_of (size := 3) S (so p (.inl hp)) (.inl e) (by decide) (by decide) (by rw [e]; decide) (by rw [e]; exact ⟨hg1.2, hg2.2, hg3.2, hg4.2⟩) f3
    exact ⟨ord, this⟩
end Mine

namespace Mine
abbrev pg : Program := PySem.Challenge.pw_op0063_01
/-! behind the boot -/
structure Booted (s : Shared) (mb mg : Str → Option Value) : Prop where
  gens : s.gens = #[]
  b : s.heap.Ns builtinsNs mb
  bi : ∀ x : Str, x ≠ "__name__" → mb x = bootBuiltins x
  statics : s.heap.Ns cStatics (fun _ => none)
  g : s.heap.Ns mainGlobals mg
  others : ∀ x, x ∉ bootMainNames → mg x = none
  bm : ∃ bm o, mg "__builtins__" = some (.ref bm) ∧ bm ≠ builtinsNs ∧ bm ≠ mainGlobals ∧ s.heap.get? bm = some o ∧ o.cls = .type "module" ∧ o.dict = some builtinsNs ∧ o.data = .plain
theorem open_body : (opening pg).main.body = [] := by kernel_rfl
theorem open_more : (opening pg).main.more = [] := by kernel_rfl
theorem booted_at (w : World) (q : Program) (hb : q.main.body = []) (hm : q.main.more = []) : (∃ s, AfterRun q w s) ∧ ∀ s, AfterRun q w s → ∃ mb mg, Booted s mb mg :=
  AfterImport.of_wp (P := fun s => ∃ mb mg, Booted s mb mg) (wpAny_boot9 (M := model q w) (A := {}) (E := fun _ _ => False) q (fun s' => (∃ mb mg, Booted s' mb mg) ∧ s'.gens = #[])
    (fun hp tk mb mg c Pl F hB => by
      rw [hb]
      refine codeAny_body rfl rfl (wpAny_execs_nil ⟨⟨_, rfl⟩, ⟨mb, mg, ?_⟩, rfl⟩)
      exact ⟨rfl, hB.b, hB.builtins, hB.statics, hB.g, hB.others, let ⟨bm, o, h1, h2, h3, _, h4⟩ := hB.bmod; ⟨bm, o, h1, h2, h3, h4⟩⟩) hm _ default boot_in)
theorem booted (w : World) : (∃ s, AfterRun (opening pg) w s) ∧ ∀ s, AfterRun (opening pg) w s → ∃ mb mg, Booted s mb mg := booted_at w _ open_body open_more
theorem bh_fence (s : Shared) : fenceModules? pg s = some s := by kernel_rfl
theorem bh_imp : importedModules pg.main.body = [] := by kernel_rfl
theorem bh_behind : behindTheImports pg = pg.main.body := by kernel_rfl
/-! the top as a thread -/
theorem run_sched {den : Code → Sem PySem.Fin} {p : Program} {w : World} : ∀ {n : Nat} {s s' : Shared} {t t' : Thread}, runN den p w n s t = .running s' t' → (∀ k s₁ t₁, runN den p w k s t = .running s₁ t₁ → t₁.calm = true) → s.asleep → schedN den p w n (.single s t) = .running (.single s' t')
  | 0, s, s', t, t', h, _, _ => by cases h; rfl
  | n + 1, s, s', t, t', h, hc, hz => by
    have e := sstep_single den p w s t (hc 0 s t rfl) hz
    simp only [runN] at h
    cases hs : step den p w s t with
    | halt o₂ s₂ => rw [hs] at h; cases h
    | go s₂ t₂ =>
      rw [hs] at h e
      rcases e with e | e
      · have := run_sched h (fun k s₁ t₁ q => hc (k + 1) s₁ t₁ (by simp only [runN, hs]; exact q)) (Shared.asleep_of_life (step_life den p w s s₂ t t₂ hs) hz)
        simp only [schedN, e, Step.lift]
        exact this
      · cases e
theorem top_ran {prog : Program} {w : World} {s : Shared} {t : Sem PySem.Fin} {f : Flow} {P : Shared → Prop} (hz : s.asleep)
    (h : wpAny (model prog w) callerA t (fun fin s' => fin = .done f ∧ P s' ∧ s'.gens = #[]) (fun _ _ => False) s) :
    ∃ n t₁ s', schedN (denote table) prog w n (.single s ⟨t, .builtin "claim.caller" {}, default, []⟩) = .running (.single s' t₁) ∧ through t₁ = true ∧ s'.heap.life = s.heap.life ∧ P s' ∧ s'.gens = #[] := by
  have h' := wp_of_wpAny_done (R := fun r s' => ((r = .ok f ∧ P s') ∧ s'.gens = #[]) ∧ leftWithCleanup s'.gens = false) caller_in
    (wpAny_mono h (fun _ _ ⟨e, a, b⟩ => ⟨f, e, ⟨⟨rfl, a⟩, b⟩, by rw [b]; simp [leftWithCleanup]⟩) fun _ _ x => x.elim) default
  obtain ⟨n, r, s₁, hn, ⟨⟨rfl, hR⟩, hg'⟩⟩ := (wp_iff_halts (M := model prog w) (R := fun r s' => (r = .ok f ∧ P s') ∧ s'.gens = #[]) ..).mp h'
  obtain ⟨s₂, hr, hf, hc⟩ := runNI_real _ _ _ hn (outcomeOf_ends _)
  obtain ⟨m, s', σ, p', leaf, hm, hfo, hl, _⟩ := wp_reaches_first (M := model prog w) (h _ default caller_in)
  rcases hl with ⟨a, rfl, rfl, hP, hg⟩ | ⟨e, _, hF⟩
  · obtain rfl := Shared.eq_of_forget_eq hfo hg
    exact ⟨m, _, σ, run_sched hm hc hz, rfl, runN_life_running hm, hP, hg⟩
  · exact hF.elim
end Mine

namespace Mine
open Builtin Builtin.Str
def hexT (n : Nat) : List Nat := (percentInt { zero := true, width := some 2, type := 88 } false ((Nat.toDigits 16 n).map Char.toNat))
def hexF (n : Nat) : List Nat := match percentField { zero := true, width := some 2, type := 88 } true (hexT n) with
  | none => hexT n
  | some l => l
def figN' (i : Nat) : Nat := [48, 49, 50, 51, 52, 53, 54, 55, 56, 57, 65, 66, 67, 68, 69, 70].getD i 0
theorem hexF_eq : ∀ n, n < 256 → hexF n = [figN' (n / 16), figN' (n % 16)] := by decide +kernel
def hexS (n : Nat) : PySem.Str := ⟨#[61, figN' (n / 16), figN' (n % 16)]⟩
theorem hex_meets (n : Nat) (hn : n < 256) (t u : Tok) (s : Shared) : Meets («str.__mod__» ⟨[.str "=%02X" t, .int (n : Int) u], []⟩) (fun _ R s => ∀ t' k, R (.ok (.ret (.str (hexS n) t'))) { s with toks := k }) := by
  apply KPc.meets_of
  intro _ _ _ _ Q E h
  rw [KPc.entry_is]
  unfold Builtin.Str.percentFormat
  refine wpAny_bind (wpAny_isInstance (typeIs_int _ _ _) F.sub_int_tuple ?_)
  refine wpAny_bind (wpAny_of_eq (a := none) rfl ?_)
  refine wpAny_bind (wpAny_of_eq (KPc.fills _ _) ?_)
  kpc_if
  refine wpAny_bind (wpAny_pure ?_)
  refine wpAny_bind ?_
  rw [KPc.range_list]
  refine KPc.start ?_
  intro w0 g0
  refine KPc.turn ?_; kpc_check; (repeat kpc_if)
  refine wpAny_pure ?_
  refine KPc.after_add0 (y := "=") g0 rfl (KPc.obj_none rfl) ?_
  intro w1 g1
  refine KPc.turn ?_; kpc_check; (repeat kpc_if)
  refine wpAny_bind ?_; refine wpAny_holding ?_; (repeat kpc_if)
  refine wpAny_bind (wpAny_of_eq (a := (n : Int)) rfl ?_); (repeat kpc_if)
  refine wpAny_bind (wpAny_pure ?_)
  refine wpAny_pure ?_
  have hd : decide ((n : Int) < 0) = false := decide_eq_false (by omega)
  rw [hd]
  change wpAny _ _ (match percentField { zero := true, width := some 2, type := 88 } true (hexT n) with
    | none => pure (ForInStep.yield (([] : List Value), w1.add ⟨(hexT n).toArray⟩ none, ([] : List Nat)))
    | some laid => pure (ForInStep.yield (([] : List Value), w1.add ⟨laid.toArray⟩ none, ([] : List Nat)))) _ _ _
  have hx := hexF_eq n hn
  unfold hexF at hx
  generalize percentField { zero := true, width := some 2, type := 88 } true (hexT n) = pf at hx ⊢
  have e2 : ("=" : PySem.Str) ++ ⟨#[figN' (n / 16), figN' (n % 16)]⟩ = hexS n := rfl
  cases pf with
  | none =>
    have hx : hexT n = _ := hx
    refine wpAny_pure ?_
    refine KPc.after_add (y := ⟨#[figN' (n / 16), figN' (n % 16)]⟩) g1 (by rw [hx]) (KPc.obj_none rfl) fun w2 g2 => ?_
    rw [e2] at g2
    have g3 : KPc.Good w2 (hexS n) 3 := g2
    refine KPc.turn ?_
    refine wpAny_ite (KPc.ite_no (KPc.short_good g3 (by decide)) ?_)
    refine wpAny_ite (KPc.ite_yes rfl ?_)
    refine wpAny_pure ?_; kpc_if
    exact KPc.finish_ok g3 (by decide) rfl h
  | some l =>
    have hx : l = _ := hx
    subst hx
    refine wpAny_pure ?_
    refine KPc.after_add (y := ⟨#[figN' (n / 16), figN' (n % 16)]⟩) g1 rfl (KPc.obj_none rfl) fun w2 g2 => ?_
    rw [e2] at g2
    have g3 : KPc.Good w2 (hexS n) 3 := g2
    refine KPc.turn ?_
    refine wpAny_ite (KPc.ite_no (KPc.short_good g3 (by decide)) ?_)
    refine wpAny_ite (KPc.ite_yes rfl ?_)
    refine wpAny_pure ?_; kpc_if
    exact KPc.finish_ok g3 (by decide) rfl h
theorem mod_hex {prog : Program} {w : World} {A : Around} {s : Shared} {n : Nat} {t u : Tok} {Q : Value → Shared → Prop} {E : Value → Shared → Prop} (hn : n < 256) (h : ∀ t' k, Q (.str (hexS n) t') { s with toks := k }) : wpAny (model prog w) A (binaryOp .Mod (.str "=%02X" t) (.int (n : Int) u)) Q E s :=
  KPc.mod_lit rfl (by
    show ((n : Int).natAbs).log2 < 1920
    have : (n : Int).natAbs = n := rfl
    rw [this]
    by_cases h0 : n = 0
    · subst h0; decide
    · exact (Nat.log2_lt h0).mpr (Nat.lt_of_lt_of_le hn (by decide +kernel))) (fun _ _ => hex_meets n hn t u s) h
end Mine

namespace Mine
open Builtin
def lowS : PySem.Str := "abcdefghijklmnopqrstuvwxyz"
def uppS : PySem.Str := "ABCDEFGHIJKLMNOPQRSTUVWXYZ"
def digS : PySem.Str := "0123456789"
def bytesOf (x : PySem.Str) : Array UInt8 := x.cps.map fun c => UInt8.ofNat c
theorem enc_letters (t t1 : Tok) : «str.encode» ⟨[.str (lowS ++ uppS) t, .str "ascii" t1], []⟩ = (mkBytes (bytesOf (lowS ++ uppS)) >>= fun v => ret v) := by kernel_rfl
theorem enc_digits (t t1 : Tok) : «str.encode» ⟨[.str digS t, .str "ascii" t1], []⟩ = (mkBytes (bytesOf digS) >>= fun v => ret v) := by kernel_rfl

/-! the module's names -/
abbrev Gl := List (PySem.Str × Option Value)
def mgOf (l : Gl) (m0 : PySem.Str → Option Value) : PySem.Str → Option Value := fun x => match l.lookup x with
  | some u => u
  | none => m0 x
theorem mgOf_cons (n : PySem.Str) (u : Option Value) (l : Gl) (m0 : PySem.Str → Option Value) : (fun x => if x = n then u else mgOf l m0 x) = mgOf ((n, u) :: l) m0 := by
  funext x
  unfold mgOf
  rw [List.lookup_cons]
  by_cases h : x = n
  · subst h; simp
  · rw [if_neg h, show (x == n) = false from by simpa using h]
theorem mgOf_nil (m0 : PySem.Str → Option Value) : mgOf [] m0 = m0 := rfl
theorem mgOf_over (n : PySem.Str) (u u' : Option Value) (l : Gl) (m0 : PySem.Str → Option Value) : mgOf ((n, u) :: (n, u') :: l) m0 = mgOf ((n, u) :: l) m0 := by
  funext x
  unfold mgOf
  rw [List.lookup_cons, List.lookup_cons, List.lookup_cons]
  by_cases h : x = n
  · subst h; simp
  · rw [show (x == n) = false from by simpa using h]

def LstAt (h : Heap) (a : Addr) (f : Nat → PySem.Str) : Prop := ∃ its n, h.get? a = some (oL its n) ∧ its.size = 256 ∧ ∀ i, i < 256 → ∃ t, its[i]? = some (.str (f i) t)
/-- what neither a store of a name nor of a list's item can change -/
def Stab (Pl : Addr) (g : Heap → Prop) : Prop := ∀ h h' : Heap, (∀ b o, b ≠ Pl → (∀ es n, o.data ≠ .dict es n) → (∀ vs n, o.data = .seq vs n → o.cls ≠ .type "list") → h.get? b = some o → h'.get? b = some o) → g h → g h'
structure Md (hs : Heap) (m0 : PySem.Str → Option Value) (c Pl : Addr) (ps : Array Value) (l : Gl) (G : List (Heap → Prop)) (Ls : List (Addr × (Nat → PySem.Str))) (h : Heap) : Prop where
  main : h.Main (mgOf l m0) c Pl ps
  ks : ∀ b o, b ≠ mainGlobals → hs.get? b = some o → h.get? b = some o
  lowP : hs.get? Pl = none
  gs : ∃ o, hs.get? mainGlobals = some o
  facts : ∀ g ∈ G, Stab Pl g ∧ g h
  lists : ∀ p ∈ Ls, LstAt h p.1 p.2 ∧ hs.get? p.1 = none ∧ p.1 ≠ Pl
  nd : (Ls.map (·.1)).Nodup
section
variable {hs : Heap} {m0 : PySem.Str → Option Value} {c Pl : Addr} {ps ps' : Array Value} {l l' : Gl} {G : List (Heap → Prop)} {Ls Ls' : List (Addr × (Nat → PySem.Str))} {h h' : Heap}
theorem Md.ng (X : Md hs m0 c Pl ps l G Ls h) {b : Addr} {o : Obj} (e : h.get? b = some o) (hd : ∀ es n, o.data ≠ .dict es n) : b ≠ mainGlobals := fun q => by
  obtain ⟨o', es, ep, e', d, _⟩ := X.main.g
  subst q
  rw [e'] at e; cases e
  exact hd es ep d
theorem Md.chg {D : List Addr} (X : Md hs m0 c Pl ps l G Ls h) (hm : h'.Main (mgOf l' m0) c Pl ps') (ke : ∀ b o, b ≠ mainGlobals → b ≠ Pl → b ∉ D → h.get? b = some o → h'.get? b = some o)
    (hD : ∀ b ∈ D, b ∈ Ls.map (·.1)) (he : Ls'.map (·.1) = Ls.map (·.1)) (hl : ∀ p ∈ Ls', p.1 ∈ D → LstAt h' p.1 p.2) (hk : ∀ p ∈ Ls', p.1 ∉ D → p ∈ Ls) : Md hs m0 c Pl ps' l' G Ls' h' := by
  have dl : ∀ b ∈ D, ∃ its n, h.get? b = some (oL its n) ∧ hs.get? b = none := fun b hb => by
    obtain ⟨p, hp, rfl⟩ := List.mem_map.mp (hD b hb)
    obtain ⟨⟨its, n, e, _⟩, z, _⟩ := X.lists p hp
    exact ⟨its, n, e, z⟩
  refine ⟨hm, fun b o hb e => ke b o hb (fun q => by rw [q, X.lowP] at e; cases e) (fun q => by obtain ⟨_, _, _, z⟩ := dl b q; rw [z] at e; cases e) (X.ks b o hb e), X.lowP, X.gs, fun g hg => ⟨(X.facts g hg).1, (X.facts g hg).1 h h' (fun b o hP hd hc e => ?_) (X.facts g hg).2⟩, fun p hp => ?_, by rw [he]; exact X.nd⟩
  · exact ke b o (X.ng e hd) hP (fun q => by obtain ⟨its, n, e', _⟩ := dl b q; rw [e'] at e; cases e; exact hc _ _ rfl rfl) e
  · by_cases q : p.1 ∈ D
    · have hp' : p.1 ∈ Ls.map (·.1) := by rw [← he]; exact List.mem_map.mpr ⟨p, hp, rfl⟩
      obtain ⟨p', hp', e⟩ := List.mem_map.mp hp'
      have := (X.lists p' hp').2
      rw [e] at this
      exact ⟨hl p hp q, this⟩
    · obtain ⟨⟨its, n, e, r⟩, z⟩ := X.lists p (hk p hp q)
      exact ⟨⟨its, n, ke _ _ (X.ng e fun es m w => nomatch w) z.2 q e, r⟩, z⟩
theorem Md.chg0 (X : Md hs m0 c Pl ps l G Ls h) (hm : h'.Main (mgOf l' m0) c Pl ps') (ke : ∀ b o, b ≠ mainGlobals → b ≠ Pl → h.get? b = some o → h'.get? b = some o) : Md hs m0 c Pl ps' l' G Ls h' :=
  X.chg (D := []) hm (fun b o h1 h2 _ e => ke b o h1 h2 e) (fun _ q => nomatch q) rfl (fun p _ q => nomatch q) fun p hp _ => hp
theorem main_ext {mg : PySem.Str → Option Value} (x : h.Main mg c Pl ps) (k : Ext h h') : h'.Main mg c Pl ps :=
  ⟨x.g.keeps k, x.code.keeps k, x.low, let ⟨bm, o, h1, h2, h3, h4, h5, h6⟩ := x.bmod; ⟨bm, o, h1, h2, h3, h4, k _ _ h5, h6⟩⟩
theorem Md.ext (X : Md hs m0 c Pl ps l G Ls h) (k : Ext h h') : Md hs m0 c Pl ps l G Ls h' := X.chg0 (main_ext X.main k) fun b o _ _ e => k b o e
/-- a name is stored -/
theorem Md.stored {x : PySem.Str} {u : Option Value} (X : Md hs m0 c Pl ps l G Ls h) (hx : x ≠ "__builtins__") (hn : h'.Ns mainGlobals (fun y => if y = x then u else mgOf l m0 y)) (hs' : Heap.SameBut mainGlobals h h') : Md hs m0 c Pl ps ((x, u) :: l) G Ls h' := by
  obtain ⟨bm, o, h1, h2, h3, h4, h5, h6⟩ := X.main.bmod
  refine X.chg0 ⟨by rw [← mgOf_cons]; exact hn, X.main.code.sameBut hs' (Nat.ne_of_gt X.main.low.1) (Nat.ne_of_gt X.main.low.2), X.main.low, ⟨bm, o, ?_, h2, h3, h4, (hs'.2 _ h3).trans h5, h6⟩⟩ fun b o hb _ e => (hs'.2 _ hb).trans e
  rw [← mgOf_cons]
  simp only [Ne.symm hx, if_false]
  exact h1
theorem Md.fresh (X : Md hs m0 c Pl ps l G Ls h) {a : Addr} (ha : h.get? a = none) : hs.get? a = none ∧ a ≠ Pl ∧ a ∉ Ls.map (·.1) := by
  refine ⟨?_, fun q => ?_, fun q => ?_⟩
  · cases z : hs.get? a with
    | none => rfl
    | some o =>
      by_cases q : a = mainGlobals
      · obtain ⟨o', _, _, e', _⟩ := X.main.g
        rw [q, e'] at ha; cases ha
      · have := X.ks a o q z
        rw [ha] at this; cases this
  · obtain ⟨o, vs, file, tf, flags, tg, inF, text, tt, op, _, _, _, _, _, _, _, e, _⟩ := X.main.code
    rw [q, e] at ha; cases ha
  · obtain ⟨p, hp, rfl⟩ := List.mem_map.mp q
    obtain ⟨⟨its, n, e, _⟩, _⟩ := X.lists p hp
    rw [e] at ha; cases ha
theorem Md.addL {a : Addr} {f : Nat → PySem.Str} (X : Md hs m0 c Pl ps l G Ls h) (ha : LstAt h a f) (h1 : hs.get? a = none) (h2 : a ≠ Pl) (h3 : a ∉ Ls.map (·.1)) : Md hs m0 c Pl ps l G ((a, f) :: Ls) h :=
  ⟨X.main, X.ks, X.lowP, X.gs, X.facts, fun p hp => by
    rcases List.mem_cons.mp hp with rfl | hp
    · exact ⟨ha, h1, h2⟩
    · exact X.lists p hp, by rw [List.map_cons]; exact List.nodup_cons.mpr ⟨h3, X.nd⟩⟩
theorem Md.addG {g : Heap → Prop} (X : Md hs m0 c Pl ps l G Ls h) (hg : Stab Pl g) (hh : g h) : Md hs m0 c Pl ps l (g :: G) Ls h :=
  ⟨X.main, X.ks, X.lowP, X.gs, fun p hp => by
    rcases List.mem_cons.mp hp with rfl | hp
    · exact ⟨hg, hh⟩
    · exact X.facts p hp, X.lists, X.nd⟩
/-- an item of a list is stored -/
theorem Md.setL {a : Addr} {f : Nat → PySem.Str} {i : Nat} {y : PySem.Str} {t : Tok} {its : Array Value} {n n' : Nat} (X : Md hs m0 c Pl ps l G Ls h) (hm : (a, f) ∈ Ls) (he : h.get? a = some (oL its n)) (hi : i < 256)
    (he' : h'.get? a = some (oL (its.setIfInBounds i (.str y t)) n')) (sb : Heap.SameBut a h h') : Md hs m0 c Pl ps l G (Ls.map fun p => if p.1 = a then (a, fun j => if j = i then y else f j) else p) h' := by
  obtain ⟨⟨its0, n0, e0, hz, hv⟩, z1, z2⟩ := X.lists _ hm
  rw [he] at e0
  have e0 := Option.some.inj e0
  injection e0 with e1 e2 e3 e4
  injection e3 with e5 e6
  subst e5
  have agl : a ≠ mainGlobals := X.ng he fun es m w => nomatch w
  have acc : a ≠ c := fun q => by
    obtain ⟨o, vs, file, tf, flags, tg, inF, text, tt, op, e, d, _⟩ := X.main.code
    rw [← q, he] at e; cases e; cases d
  have uniq : ∀ p ∈ Ls, p.1 = a → p = (a, f) := fun p hp e => by
    have nd := X.nd
    clear X
    induction Ls with
    | nil => cases hp
    | cons q r ih =>
      rw [List.map_cons] at nd
      obtain ⟨n1, n2⟩ := List.nodup_cons.mp nd
      rcases List.mem_cons.mp hp with hp1 | hp1
      · rcases List.mem_cons.mp hm with hm1 | hm1
        · exact hp1.trans hm1.symm
        · exact absurd (List.mem_map.mpr ⟨_, hm1, by rw [← hp1, e]⟩) n1
      · rcases List.mem_cons.mp hm with hm1 | hm1
        · exact absurd (List.mem_map.mpr ⟨_, hp1, by rw [← hm1, e]⟩) n1
        · exact ih hm1 hp1 n2
  obtain ⟨bm, o, h1, h2, h3, h4, h5, h6⟩ := X.main.bmod
  refine X.chg (D := [a]) ⟨X.main.g.sameBut sb (Ne.symm agl), X.main.code.sameBut sb (Ne.symm acc) (Ne.symm z2), X.main.low, ⟨bm, o, h1, h2, h3, h4, (sb.2 _ (fun q => by rw [q, he] at h5; cases h5; have := h6.2.2; cases this)).trans h5, h6⟩⟩ (fun b o _ _ hb e => (sb.2 _ (by simpa using hb)).trans e) (fun b hb => by rw [List.mem_singleton.mp hb]; exact List.mem_map.mpr ⟨_, hm, rfl⟩) ?_ (fun p hp q => ?_) fun p hp q => ?_
  · rw [List.map_map]
    refine List.map_congr_left fun p hp => ?_
    by_cases q : p.1 = a
    · simp [q]
    · simp [q]
  · obtain ⟨p0, hp0, rfl⟩ := List.mem_map.mp hp
    have q := List.mem_singleton.mp q
    by_cases w : p0.1 = a
    · rw [if_pos w]
      refine ⟨_, _, he', by simpa using hz, fun j hj => ?_⟩
      by_cases v : j = i
      · subst v
        exact ⟨t, by simp [hz, hj]⟩
      · obtain ⟨t', ht'⟩ := hv j hj
        exact ⟨t', by simp only [v, if_false]; rw [Array.getElem?_setIfInBounds_ne (Ne.symm v)]; exact ht'⟩
    · rw [if_neg w] at q; exact absurd q w
  · obtain ⟨p0, hp0, rfl⟩ := List.mem_map.mp hp
    by_cases w : p0.1 = a
    · rw [if_pos w] at q; exact absurd (List.mem_singleton.mpr rfl) q
    · rw [if_neg w]; exact hp0
end
end Mine

namespace Mine
abbrev E0 (c F : Addr) : Env := mainEnv pg c F
structure Bt (hs : Heap) (mb : PySem.Str → Option Value) : Prop where
  b : hs.Ns builtinsNs mb
  bi : ∀ x : PySem.Str, x ≠ "__name__" → mb x = bootBuiltins x
section
variable {w : World} {A : Around} {s : Shared} {hs : Heap} {m0 mb : PySem.Str → Option Value} {c Pl F : Addr} {ps ps' : Array Value} {l l' : Gl} {G : List (Heap → Prop)} {Ls Ls' : List (Addr × (Nat → PySem.Str))} {h h' : Heap}
theorem Md.bt (X : Md hs m0 c Pl ps l G Ls h) (B : Bt hs mb) : h.Ns builtinsNs mb :=
  let ⟨o, es, ep, e, r⟩ := B.b; ⟨o, es, ep, X.ks _ _ (by decide) e, r⟩
section
variable {Q : Value → Shared → Prop} {E : Value → Shared → Prop} {x : PySem.Str} {p pos : Pos}
theorem m_name {v : Value} (X : Md hs m0 c Pl ps l G Ls s.heap) (hv : mgOf l m0 x = some v) (k : Q v s) (hd : (x == ("__debug__" : PySem.Str)) = false := by decide) : wpAny (model pg w) A (eval (.Name x p) (E0 c F)) Q E s :=
  Calls.Name_module rfl rfl (Calls.loadGlobal_global X.main.g hv k) hd
theorem m_blt {v : Value} (X : Md hs m0 c Pl ps l G Ls s.heap) (B : Bt hs mb) (hm : mgOf l m0 x = none) (hb : bootBuiltins x = some v) (k : Q v s) (hx : x ≠ "__name__" := by decide) (hd : (x == ("__debug__" : PySem.Str)) = false := by decide) : wpAny (model pg w) A (eval (.Name x p) (E0 c F)) Q E s :=
  Calls.Name_module rfl rfl (Calls.loadGlobal_builtin X.main.g hm (X.bt B) ((B.bi x hx).trans hb) k) hd
theorem m_call1 {f : PySem.Str} {e : Expr} {u : Value} (X : Md hs m0 c Pl ps l G Ls s.heap) (B : Bt hs mb) (hu : (∃ id, u = .builtin id) ∨ ∃ T, u = .type T) (hm : mgOf l m0 f = none) (hb : bootBuiltins f = some u)
    (he : wpAny (model pg w) A (eval e (E0 c F)) (fun v s' => wpAny (model pg w) A (call u [v]) Q E s') E s) (hx : f ≠ "__name__" := by decide) (hd : (f == ("__debug__" : PySem.Str)) = false := by decide)
    (hst : starEach [e] (E0 c F) = (false, eval e (E0 c F)) :: starEach [] (E0 c F) := by rfl) : wpAny (model pg w) A (eval (.Call (.Name f p) [e] [] pos) (E0 c F)) Q E s :=
  wpAny_Call_Name_kw (m_blt X B hm hb (by
    rw [hst]
    refine callWith_of (P := fun _ => True) rfl (fun h _ => ?_) (Calls.evalArgs_plain (Calls.spliced_cons (wpAny_mono he (fun v s' h' => Calls.spliced_nil ⟨trivial, h'⟩) fun _ _ z => z)))
    rcases hu with ⟨id, rfl⟩ | ⟨T, rfl⟩
    · exact ⟨_, .inr (.inl rfl), Looks.of_pure rfl⟩
    · exact ⟨_, .inr (.inl rfl), Looks.of_pure rfl⟩) hx hd)
end
section
variable {Q : Flow → Shared → Prop} {E : Value → Shared → Prop} {rest : List Stmt} {x : PySem.Str} {p p' pos : Pos}
theorem m_storeN {v : Value} {Q : Unit → Shared → Prop} (X : Md hs m0 c Pl ps l G Ls s.heap) (hl : pg.main.scope.names.lookup x = some .local) (hx : x ≠ "__builtins__") (k : ∀ h' tk, Md hs m0 c Pl ps ((x, some v) :: l) G Ls h' → (∀ b o, b ≠ mainGlobals → s.heap.get? b = some o → h'.get? b = some o) → Q () (Sx s h' tk)) :
    wpAny (model pg w) A (storeName (E0 c F) x v) Q E s :=
  wpAny_storeName_local (env := E0 c F) hl X.main.g (fun h' hn hs' => k h' _ (X.stored hx hn hs') fun b o hb e => (hs'.2 _ hb).trans e) rfl
theorem m_assign {e : Expr} (hl : pg.main.scope.names.lookup x = some .local) (hx : x ≠ "__builtins__")
    (he : wpAny (model pg w) A (eval e (E0 c F)) (fun v s' => ∃ h' tk, s' = Sx s h' tk ∧ Md hs m0 c Pl ps l G Ls h' ∧ ∀ h2 tk2, Md hs m0 c Pl ps ((x, some v) :: l) G Ls h2 → (∀ b o, b ≠ mainGlobals → h'.get? b = some o → h2.get? b = some o) → wpAny (model pg w) A (execs rest (E0 c F)) Q E (Sx s h2 tk2)) E s)
    (hsw : swapsWith e (some (.Name x p)) pos.line (E0 c F) = pure false := by rfl) : wpAny (model pg w) A (execs (.Assign [.Name x p] e pos :: rest) (E0 c F)) Q E s :=
  wpAny_execs_cons (wpAny_Assign_Name (wpAny_mono he (fun v s' z => by
    obtain ⟨h', tk, rfl, X, k⟩ := z
    exact m_storeN (s := Sx s h' tk) X hl hx fun h2 tk2 X2 k2 => k h2 tk2 X2 k2) fun _ _ z => z) hsw)
theorem m_str {y : PySem.Str} {kk : Nat} (X : Md hs m0 c Pl ps l G Ls s.heap) (hl : pg.main.scope.names.lookup x = some .local) (hx : x ≠ "__builtins__")
    (k : ∀ t h' tk, Md hs m0 c Pl ps ((x, some (.str y t)) :: l) G Ls h' → wpAny (model pg w) A (execs rest (E0 c F)) Q E (Sx s h' tk)) : wpAny (model pg w) A (execs (.Assign [.Name x p] (.Constant (.str y) kk p') pos :: rest) (E0 c F)) Q E s :=
  m_assign hl hx (wpAny_Constant_str ⟨s.heap, _, rfl, X, fun h2 tk2 X2 _ => k _ h2 tk2 X2⟩)
theorem m_cat {n1 n2 y1 y2 : PySem.Str} {t1 t2 : Tok} {p1 p2 p3 : Pos} (X : Md hs m0 c Pl ps l G Ls s.heap) (hl : pg.main.scope.names.lookup x = some .local) (hx : x ≠ "__builtins__") (g1 : mgOf l m0 n1 = some (.str y1 t1)) (g2 : mgOf l m0 n2 = some (.str y2 t2)) (hz : y1.length + y2.length ≤ sizeLine)
    (k : ∀ t h' tk, Md hs m0 c Pl ps ((x, some (.str (y1 ++ y2) t)) :: l) G Ls h' → wpAny (model pg w) A (execs rest (E0 c F)) Q E (Sx s h' tk))
    (d1 : (n1 == ("__debug__" : PySem.Str)) = false := by decide) (d2 : (n2 == ("__debug__" : PySem.Str)) = false := by decide) : wpAny (model pg w) A (execs (.Assign [.Name x p] (.BinOp (.Name n1 p1) .Add (.Name n2 p2) p3) pos :: rest) (E0 c F)) Q E s :=
  m_assign hl hx (wpAny_BinOp (m_name X g1 (m_name X g2 (add_str (fun t k' => ⟨s.heap, _, rfl, X, fun h2 tk2 X2 _ => k _ h2 tk2 X2⟩) hz) d2) d1))
/-- a def met -/
def FnAt (Pl : Addr) (d : FD) (a : Addr) : Heap → Prop := fun h => a ≠ Pl ∧ ∃ o pm c' doc, c' ≠ Pl ∧ h.get? a = some o ∧ o.data = .func (Calls.docDef d.name d.params d.body d.scope pm (.ref c') doc) ∧ h.CodeRec (.ref c') d.name
theorem codeRec_stab {h h' : Heap} {c' : Addr} {q : PySem.Str} (k : ∀ b o, b ≠ Pl → (∀ es n, o.data ≠ .dict es n) → (∀ vs n, o.data = .seq vs n → o.cls ≠ .type "list") → h.get? b = some o → h'.get? b = some o) (hc : c' ≠ Pl) (x : h.CodeRec (.ref c') q) : h'.CodeRec (.ref c') q := by
  obtain ⟨c2, o, vs, t, e, g, d, r⟩ := x
  cases e
  exact ⟨_, o, vs, t, rfl, k _ o hc (fun es n z => by rw [d] at z; cases z) (fun v n z => by rw [d] at z; cases z) g, d, r⟩
theorem FnAt.stab (d : FD) (a : Addr) : Stab Pl (FnAt Pl d a) := fun h h' k x => by
  obtain ⟨hp, o, pm, c', doc, hc, e, hd, hr⟩ := x
  exact ⟨hp, o, pm, c', doc, hc, k _ o hp (fun es n z => by rw [hd] at z; cases z) (fun v n z => by rw [hd] at z; cases z) e, hd, codeRec_stab k hc hr⟩
theorem m_def (d : FD) (X : Md hs m0 c Pl ps l G Ls s.heap) (hexec : PlainDefTree d.name d.params d.body d.scope pos) (hfree : ∀ x ∈ d.scope.names, x.2 ≠ .free) (hdoc : docOf d.body = none) (hloc : pg.main.scope.names.lookup d.name = some .local)
    (hq : qualnameIn { scope := pg.main.scope, locals := mainGlobals, globals := mainGlobals, cells := [] } d.name d.name = d.name) (hnb : d.name ≠ "__builtins__") (hnf : codeAmong pos ps.toList = none)
    (k : ∀ a c' h' tk, Md hs m0 c Pl (ps ++ #[rawInt pos.line, rawInt pos.col, .ref c']) ((d.name, some (.ref a)) :: l) (FnAt Pl d a :: G) Ls h' → wpAny (model pg w) A (execs rest (E0 c F)) Q E (Sx s h' tk)) :
    wpAny (model pg w) A (execs (.FunctionDef d.name d.params d.body [] none [] d.scope none d.name pos :: rest) (E0 c F)) Q E s :=
  wpAny_execs_cons (wpAny_plainDefN hexec hfree hdoc hloc hq X.main (fun a c' h' tk ha hm hf hcd htb keep => by
    have hPl : Pl < s.heap.objs.size := X.main.code.lt.2
    have hm' := hm
    rw [mgOf_cons] at hm'
    refine k a c' h' tk ((X.chg0 hm' fun b o h1 h2 e => keep b o h2 h1 e).addG (FnAt.stab d a) ⟨Nat.ne_of_gt (Nat.lt_of_lt_of_le hPl ha), _, _, c', _, Nat.ne_of_gt (Nat.lt_of_lt_of_le hPl hcd.1), hf, rfl, hcd.2⟩)) hnb rfl hnf)
/-- header_encode met -/
def HEAt (Pl a : Addr) : Heap → Prop := fun h => a ≠ Pl ∧ ∃ o pm c' doc T its n t, c' ≠ Pl ∧ T ≠ Pl ∧ h.get? a = some o ∧ o.data = .func (methDefD dHE.name dHE.name dHE.params dHE.body dHE.scope pm (.ref c') doc (.ref T)) ∧ h.CodeRec (.ref c') dHE.name ∧ h.get? T = some ({ cls := .type "tuple", data := .seq its n } : Obj) ∧ its = #[.str iso t]
theorem HEAt.stab (a : Addr) : Stab Pl (HEAt Pl a) := fun h h' k x => by
  obtain ⟨hp, o, pm, c', doc, T, its, n, t, hc, hT, e, hd, hr, eT, hi⟩ := x
  exact ⟨hp, o, pm, c', doc, T, its, n, t, hc, hT, k _ o hp (fun es n z => by rw [hd] at z; cases z) (fun v n z => by rw [hd] at z; cases z) e, hd, codeRec_stab k hc hr, k _ _ hT (fun es n z => nomatch z) (fun v n z q => by injection q with q; exact absurd q (by decide)) eT, hi⟩
theorem m_he (X : Md hs m0 c Pl ps l G Ls s.heap) (hnf : codeAmong pos ps.toList = none)
    (k : ∀ a c' h' tk, Md hs m0 c Pl (ps ++ #[rawInt pos.line, rawInt pos.col, .ref c']) ((dHE.name, some (.ref a)) :: l) (HEAt Pl a :: G) Ls h' → wpAny (model pg w) A (execs rest (E0 c F)) Q E (Sx s h' tk)) :
    wpAny (model pg w) A (execs (.FunctionDef dHE.name dHE.params dHE.body [] none [] dHE.scope none dHE.name pos :: rest) (E0 c F)) Q E s :=
  wpAny_execs_cons (wpAny_defStmt0N rfl rfl (by decide) rfl (by decide) rfl rfl X.main (fun a c' doc dV vs h' tk ha hm hf hcv hD hcd htb keep => by
    have hPl : Pl < s.heap.objs.size := X.main.code.lt.2
    have hm' := hm
    rw [mgOf_cons] at hm'
    have ed : dHE.params.defaults = [.Constant (.str iso) 0 ((dHE.params.defaults.getD 0 (.Constant .none 0 default)).pos)] := rfl
    rw [ed] at hcv
    cases vs with
    | nil => exact hcv.elim
    | cons v vs =>
      cases vs with
      | cons _ _ => exact hcv.2.elim
      | nil =>
        obtain ⟨t, rfl⟩ : ∃ t, v = .str iso t := hcv.1
        rcases hD with ⟨q, _⟩ | ⟨_, T, rfl, hT, eT⟩
        · cases q
        · exact k a c' h' tk ((X.chg0 hm' fun b o h1 h2 e => keep b o h2 h1 e).addG (HEAt.stab a) ⟨Nat.ne_of_gt (Nat.lt_of_lt_of_le hPl ha), _, _, c', _, T, _, _, t, Nat.ne_of_gt (Nat.lt_of_lt_of_le hPl hcd.1), Nat.ne_of_gt (Nat.lt_of_lt_of_le hPl hT), hf, rfl, hcd.2, eT, rfl⟩)) (by decide) rfl hnf)
end
end
end Mine

namespace Mine
section
variable {w : World} {A : Around} {s : Shared} {hs : Heap} {m0 mb : PySem.Str → Option Value} {c Pl F : Addr} {ps ps' : Array Value} {l l' : Gl} {G : List (Heap → Prop)} {Ls Ls' : List (Addr × (Nat → PySem.Str))} {h h' : Heap}
section
variable {Q : Value → Shared → Prop} {E : Value → Shared → Prop} {x : PySem.Str} {p pos : Pos}
theorem g_name {mg : PySem.Str → Option Value} {v : Value} (g : s.heap.Ns mainGlobals mg) (hv : mg x = some v) (k : Q v s) (hd : (x == ("__debug__" : PySem.Str)) = false := by decide) : wpAny (model pg w) A (eval (.Name x p) (E0 c F)) Q E s :=
  Calls.Name_module rfl rfl (Calls.loadGlobal_global g hv k) hd
theorem g_call1 {mg : PySem.Str → Option Value} {f : PySem.Str} {e : Expr} {u : Value} (g : s.heap.Ns mainGlobals mg) (b : s.heap.Ns builtinsNs mb) (hu : (∃ id, u = .builtin id) ∨ ∃ T, u = .type T) (hm : mg f = none) (hb : mb f = some u)
    (he : wpAny (model pg w) A (eval e (E0 c F)) (fun v s' => wpAny (model pg w) A (call u [v]) Q E s') E s) (hd : (f == ("__debug__" : PySem.Str)) = false := by decide)
    (hst : starEach [e] (E0 c F) = (false, eval e (E0 c F)) :: starEach [] (E0 c F) := by rfl) : wpAny (model pg w) A (eval (.Call (.Name f p) [e] [] pos) (E0 c F)) Q E s :=
  wpAny_Call_Name_kw (Calls.Name_module rfl rfl (Calls.loadGlobal_builtin g hm b hb (by
    rw [hst]
    refine callWith_of (P := fun _ => True) rfl (fun h _ => ?_) (Calls.evalArgs_plain (Calls.spliced_cons (wpAny_mono he (fun v s' h' => Calls.spliced_nil ⟨trivial, h'⟩) fun _ _ z => z)))
    rcases hu with ⟨id, rfl⟩ | ⟨T, rfl⟩
    · exact ⟨_, .inr (.inl rfl), Looks.of_pure rfl⟩
    · exact ⟨_, .inr (.inl rfl), Looks.of_pure rfl⟩)) hd)
end
theorem paired_get {α β : Type} {R : α → β → Prop} : ∀ {l₁ : List α} {l₂ : List β}, Paired R l₁ l₂ → ∀ (i : Nat) (a : α), l₁[i]? = some a → ∃ b, l₂[i]? = some b ∧ R a b
  | _, _, .nil, i, a, e => by simp at e
  | _, _, .cons x r, 0, a, e => by simp at e; subst e; exact ⟨_, rfl, x⟩
  | _, _, .cons x r, i + 1, a, e => by
    obtain ⟨b, h1, h2⟩ := paired_get r i a (by simpa using e)
    exact ⟨b, by simpa using h1, h2⟩
section
variable {Q : Flow → Shared → Prop} {E : Value → Shared → Prop} {rest : List Stmt} {x : PySem.Str} {p p' pos : Pos}
theorem m_hex {scope : Scope} {k1 k2 : Nat} {p1 p2 p3 p4 p5 p6 p7 p8 : Pos} (hh : A.handled = none) (X : Md hs m0 c Pl ps l G Ls s.heap) (B : Bt hs mb) (hl : pg.main.scope.names.lookup x = some .local) (hx : x ≠ "__builtins__") (hr : mgOf l m0 "range" = none)
    (hkind : scope.kind = .function) (hcell : ∀ y ∈ scope.names, y.2 ≠ .cell) (hfree : ∀ y ∈ scope.names, y.2 ≠ .free) (hnames : ∀ y ∈ scope.names, y.2 = .local → scope.names.lookup y.1 = some .local) (hc : scope.names.lookup ("c" : PySem.Str) = some .local)
    (k : ∀ a h' tk, Md hs m0 c Pl ps ((x, some (.ref a)) :: l) G ((a, hexS) :: Ls) h' → wpAny (model pg w) A (execs rest (E0 c F)) Q E (Sx s h' tk)) :
    wpAny (model pg w) A (execs (.Assign [.Name x p] (.ListComp (.BinOp (.Constant (.str "=%02X") k1 p1) .Mod (.Name "c" p2) p3) [⟨.Name "c" p4, .Call (.Name "range" p5) [.Constant (.int 256) k2 p6] [] p7, [], 0⟩] scope p8) pos :: rest) (E0 c F)) Q E s := by
  refine m_assign (hs := hs) (m0 := m0) (c := c) (Pl := Pl) (ps := ps) (l := l) (G := G) (Ls := Ls) hl hx ?_
  refine wpAny_ListComp_free (cl := []) (fun _ => true) (fun v y => ∃ (i : Nat) (t t' : Tok), i < 256 ∧ v = .int (i : Int) t ∧ y = .str (hexS i) t') (closureFor_none hfree) hcell hkind hnames hc ?_
  refine g_call1 X.main.g (X.bt B) (.inr ⟨"range", rfl⟩) hr ((B.bi _ (by decide)).trans boot_range) (wpAny_Constant_int (call_range_1 ?_))
  refine wpAny_pyIter_range (a := 0) (b := 256) (c := 1) (Heap.get?_push_size _ rfl) (by decide) ?_
  generalize hobj : ({ cls := .type "range", data := .fields _ } : Obj) = ob
  have e1 : Ext s.heap (s.heap.push ob) := Ext.push _ _
  generalize hH1 : s.heap.push ob = H1 at e1 ⊢
  have esz : Builtin.Range.rangeSize 0 256 1 = 256 := by decide
  rw [esz]
  have e2 : Ext H1 (H1.push { cls := .type "range_iterator", data := .fields #[rawInt 0, rawInt 256, rawInt 1] }) := Ext.push _ _
  have hI : (H1.push { cls := .type "range_iterator", data := .fields #[rawInt 0, rawInt 256, rawInt 1] }).get? H1.objs.size = some { cls := .type "range_iterator", data := .fields #[rawInt 0, rawInt 256, rawInt 1] } := Heap.get?_push_size _ rfl
  have hsz : (H1.push { cls := .type "range_iterator", data := .fields #[rawInt 0, rawInt 256, rawInt 1] }).objs.size = H1.objs.size + 1 := Heap.size_push ..
  generalize H1.push { cls := .type "range_iterator", data := .fields #[rawInt 0, rawInt 256, rawInt 1] } = H2 at e2 hI hsz ⊢
  refine ⟨H1.objs.size, [H1.objs.size], [H1.objs.size], 256, _, _, rfl, (LCg.range_walks hh 0 256).bound, by rw [sizeLine_eq]; decide, hI, fun b hb => by rw [List.mem_singleton.mp hb]; exact Heap.lt_size hI, ⟨fun C i v s3 m3 E' _ _ _ _ _ _ => wpAny_tests_nil ⟨rfl, s3.heap, s3.toks, rfl, fun _ _ e => e⟩, fun C i v s3 m3 E' _ hP _ hn hm _ _ => ?_⟩, fun D h' tk ys vs hD hlD hpD hlen hP hF hk => ?_⟩
  · obtain ⟨hi, t, rfl⟩ := hP
    have ei : (0 : Int) + (i : Int) = (i : Int) := by omega
    rw [ei] at hm ⊢
    refine wpAny_BinOp (wpAny_Constant_str (wpAny_Name (wpAny_loadName_local (s := { s3 with toks := s3.toks + 1 }) (by simp [compEnvC, relabel, hkind]) (lookup_relabel_local hc) hn hm ?_) (by decide)))
    exact mod_hex hi fun t' k' => ⟨⟨i, t, t', hi, rfl, rfl⟩, _, _, rfl, fun _ _ e => e⟩
  · have hs0 : s.heap.get? D = none := by
      cases z : s.heap.get? D with
      | none => rfl
      | some o => have := e2 _ _ (e1 _ _ z); rw [hD] at this; cases this
    have eF : vs.filter (fun _ => true) = vs := by simp
    rw [eF] at hF
    have kp : Ext s.heap h' := fun b o e => hk b o (fun q => by
      have := Heap.lt_size (e1 _ _ e)
      rw [List.mem_singleton.mp q] at this
      exact absurd this (Nat.lt_irrefl _)) (e2 _ _ (e1 _ _ e))
    have X' := X.ext kp
    obtain ⟨f1, f2, f3⟩ := X.fresh hs0
    obtain ⟨n, hg⟩ := hpD
    have lst : LstAt h' D hexS := by
      refine ⟨ys, n, hg, by have := hF.length; simpa [hlen] using this.symm, fun i hi => ?_⟩
      have hi' : i < vs.length := by rw [hlen]; exact hi
      obtain ⟨y, hy, i', t, t', hi2, ev, ey⟩ := paired_get hF i vs[i] (List.getElem?_eq_getElem hi')
      obtain ⟨_, t2, ev2⟩ := hP i vs[i] (List.getElem?_eq_getElem hi')
      rw [ev] at ev2
      injection ev2 with q1 q2
      have : i' = i := by omega
      subst this
      exact ⟨t', by rw [← ey]; simpa using hy⟩
    refine ⟨h', tk, rfl, X', fun h2 tk2 X2 k2 => k D h2 tk2 (X2.addL ?_ f1 f2 f3)⟩
    obtain ⟨its, n', e, r⟩ := lst
    exact ⟨its, n', k2 _ _ (X'.ng e fun es m q => nomatch q) e, r⟩
/-- x = y[:] -/
theorem m_copy {y : PySem.Str} {a : Addr} {f : Nat → PySem.Str} {p1 p2 p3 : Pos} (X : Md hs m0 c Pl ps l G Ls s.heap) (hl : pg.main.scope.names.lookup x = some .local) (hx : x ≠ "__builtins__") (gy : mgOf l m0 y = some (.ref a)) (ha : (a, f) ∈ Ls) (hd : (y == ("__debug__" : PySem.Str)) = false)
    (k : ∀ b h' tk, Md hs m0 c Pl ps ((x, some (.ref b)) :: l) G ((b, f) :: Ls) h' → wpAny (model pg w) A (execs rest (E0 c F)) Q E (Sx s h' tk)) :
    wpAny (model pg w) A (execs (.Assign [.Name x p] (.Subscript (.Name y p1) (.Slice none none none p2) p3) pos :: rest) (E0 c F)) Q E s := by
  refine m_assign (hs := hs) (m0 := m0) (c := c) (Pl := Pl) (ps := ps) (l := l) (G := G) (Ls := Ls) hl hx ?_
  refine Subscript_ (m_name X gy (wpAny_Slice (wpAny_pure (wpAny_pure (wpAny_pure ?_)))) hd)
  obtain ⟨⟨its, n, e, hz, hv⟩, _⟩ := X.lists _ ha
  have e1 : Ext s.heap (s.heap.push { cls := .type "slice", data := .fields #[.none, .none, .none] }) := Ext.push _ _
  have il : (s.heap.push { cls := .type "slice", data := .fields #[.none, .none, .none] }).IsList a its := ⟨_, e1 _ _ e, rfl, _, rfl⟩
  refine tail_any (ops := [.ref s.heap.objs.size, .ref a]) (s := Sx s (s.heap.push { cls := .type "slice", data := .fields #[.none, .none, .none] }) s.toks) il.typeIs slot_list_getitem.lookup
      (wpAny_getItem_list_slice (s := Sx s (s.heap.push { cls := .type "slice", data := .fields #[.none, .none, .none] }) s.toks) il (Heap.IsSliceOf.new ..) .none .none .none (by simp) ?_ (by rw [hz, sizeLine_eq]; decide)) rfl
  rw [slicePick_all]
  generalize s.heap.push { cls := .type "slice", data := .fields #[.none, .none, .none] } = H1 at e1
  have kp : Ext s.heap (H1.push { cls := .type "list", data := .seq its }) := e1.trans (Ext.push _ _)
  have X' := X.ext kp
  have hs0 : s.heap.get? H1.objs.size = none := by
    cases z : s.heap.get? H1.objs.size with
    | none => rfl
    | some o => exact absurd (Heap.lt_size (e1 _ _ z)) (Nat.lt_irrefl _)
  obtain ⟨f1, f2, f3⟩ := X.fresh hs0
  have hg : (H1.push { cls := .type "list", data := .seq its }).get? H1.objs.size = some (oL its 0) := Heap.get?_push_size _ rfl
  exact ⟨_, s.toks, rfl, X', fun h2 tk2 X2 k2 => k H1.objs.size h2 tk2 (X2.addL ⟨its, 0, k2 _ _ (X'.ng hg fun es m q => nomatch q) hg, hz, hv⟩ f1 f2 f3)⟩
end
end
end Mine

namespace Mine
def chrN (f : Nat → PySem.Str) (l : List Nat) : Nat → PySem.Str := l.foldl (fun g c => fun j => if j = c then ⟨#[c]⟩ else g j) f
def updL (Ls : List (Addr × (Nat → PySem.Str))) (a : Addr) (f : Nat → PySem.Str) : List (Addr × (Nat → PySem.Str)) := Ls.map fun p => if p.1 = a then (a, f) else p
section
variable {w : World} {A : Around} {s : Shared} {hs : Heap} {m0 mb : PySem.Str → Option Value} {c Pl F : Addr} {ps ps' : Array Value} {l l' : Gl} {G : List (Heap → Prop)} {Ls Ls' : List (Addr × (Nat → PySem.Str))} {h h' : Heap}
theorem mgOf_other {n x : PySem.Str} {u : Option Value} (hx : x ≠ n) : mgOf ((n, u) :: l) m0 x = mgOf l m0 x := by rw [← mgOf_cons]; simp only [hx, if_false]
theorem mgOf_same {n : PySem.Str} {u : Option Value} : mgOf ((n, u) :: l) m0 n = u := by rw [← mgOf_cons]; simp only [if_true]
theorem updL_fst {a : Addr} {f : Nat → PySem.Str} : (updL Ls a f).map (·.1) = Ls.map (·.1) := by
  unfold updL
  rw [List.map_map]
  refine List.map_congr_left fun p hp => ?_
  by_cases q : p.1 = a
  · simp [q]
  · simp [q]
theorem LstAt.set {a : Addr} {f : Nat → PySem.Str} {i : Nat} {y : PySem.Str} {t : Tok} {its : Array Value} {n n' : Nat} (x : LstAt h a f) (he : h.get? a = some (oL its n)) (he' : h'.get? a = some (oL (its.setIfInBounds i (.str y t)) n')) : LstAt h' a (fun j => if j = i then y else f j) := by
  obtain ⟨its0, n0, e0, hz, hv⟩ := x
  rw [he] at e0
  have e0 := Option.some.inj e0
  injection e0 with e1 e2 e3 e4
  injection e3 with e5 e6
  subst e5
  refine ⟨_, _, he', by simpa using hz, fun j hj => ?_⟩
  by_cases v : j = i
  · subst v
    exact ⟨t, by simp [hz, hj]⟩
  · obtain ⟨t', ht'⟩ := hv j hj
    exact ⟨t', by simp only [v, if_false]; rw [Array.getElem?_setIfInBounds_ne (Ne.symm v)]; exact ht'⟩
/-- the lists' contents after changes at a alone -/
theorem Md.over {a : Addr} {f f' : Nat → PySem.Str} (X : Md hs m0 c Pl ps l G Ls h) (hm : (a, f) ∈ Ls) (hn : h'.Ns mainGlobals (mgOf l' m0)) (hb : mgOf l' m0 "__builtins__" = mgOf l m0 "__builtins__") (la : LstAt h' a f') (ke : ∀ b o, b ≠ mainGlobals → b ≠ a → h.get? b = some o → h'.get? b = some o) : Md hs m0 c Pl ps l' G (updL Ls a f') h' := by
  obtain ⟨⟨its, n, e, _⟩, z1, z2⟩ := X.lists _ hm
  have agl : a ≠ mainGlobals := X.ng e fun es m w => nomatch w
  have cg : c ≠ mainGlobals := fun q => absurd X.main.low.1 (by rw [q]; exact Nat.lt_irrefl _)
  have pg' : Pl ≠ mainGlobals := fun q => absurd X.main.low.2 (by rw [q]; exact Nat.lt_irrefl _)
  obtain ⟨bm, o, h1, h2, h3, h4, h5, h6⟩ := X.main.bmod
  have hcode : h'.IsCode c Pl ps := by
    obtain ⟨o, vs, file, tf, flags, tg, inF, text, tt, op, q1, d, r1, r2, r3, r4, r5, q2, r⟩ := X.main.code
    exact ⟨o, vs, file, tf, flags, tg, inF, text, tt, op, ke _ _ cg (fun q => by rw [q, e] at q1; cases q1; cases d) q1, d, r1, r2, r3, r4, r5, ke _ _ pg' (Ne.symm z2) q2, r⟩
  refine X.chg (D := [a]) ⟨hn, hcode, X.main.low, ⟨bm, o, hb.trans h1, h2, h3, h4, ke _ _ h3 (fun q => by rw [q, e] at h5; cases h5; have := h6.2.2; cases this) h5, h6⟩⟩ (fun b o h1 _ hb e => ke b o h1 (by simpa using hb) e) (fun b hb => by rw [List.mem_singleton.mp hb]; exact List.mem_map.mpr ⟨_, hm, rfl⟩) updL_fst (fun p hp q => ?_) fun p hp q => ?_
  · obtain ⟨p0, hp0, rfl⟩ := List.mem_map.mp hp
    have q := List.mem_singleton.mp q
    by_cases w : p0.1 = a
    · rw [if_pos w]; exact la
    · rw [if_neg w] at q; exact absurd q w
  · obtain ⟨p0, hp0, rfl⟩ := List.mem_map.mp hp
    by_cases w : p0.1 = a
    · rw [if_pos w] at q; exact absurd (List.mem_singleton.mpr rfl) q
    · rw [if_neg w]; exact hp0
section
variable {Q : Flow → Shared → Prop} {E : Value → Shared → Prop} {rest : List Stmt} {x : PySem.Str} {p p' pos : Pos}
/-- x[ord(' ')] = '_' -/
theorem m_set {a : Addr} {f : Nat → PySem.Str} {d : Nat} {y : PySem.Str} {k1 k2 : Nat} {p1 p2 p3 p4 p5 p6 : Pos} (X : Md hs m0 c Pl ps l G Ls s.heap) (B : Bt hs mb) (gx : mgOf l m0 x = some (.ref a)) (ho : mgOf l m0 "ord" = none) (ha : (a, f) ∈ Ls) (hd : (x == ("__debug__" : PySem.Str)) = false) (hi : d < 256)
    (k : ∀ h' tk, Md hs m0 c Pl ps l G (updL Ls a fun j => if j = d then y else f j) h' → wpAny (model pg w) A (execs rest (E0 c F)) Q E (Sx s h' tk)) :
    wpAny (model pg w) A (execs (.Assign [.Subscript (.Name x p1) (.Call (.Name "ord" p2) [.Constant (.str ⟨#[d]⟩) k1 p3] [] p4) p5] (.Constant (.str y) k2 p6) pos :: rest) (E0 c F)) Q E s := by
  refine wpAny_execs_cons (wpAny_Assign_Subscript (wpAny_Constant_str (m_name (s := { s with toks := s.toks + 1 }) X gx (g_call1 (s := { s with toks := s.toks + 1 }) X.main.g (X.bt B) (.inl ⟨"ord", rfl⟩) ho ((B.bi _ (by decide)).trans boot_ord) (wpAny_Constant_str (PySem.P.ord_of_char ?_))) hd)))
  obtain ⟨⟨its, n, e, hz, hv⟩, z1, z2⟩ := X.lists _ ha
  refine ki_setAt (s := { s with toks := _ }) e (by omega) (by omega) (by rw [hz]; omega) ?_
  rw [Int.toNat_natCast]
  obtain ⟨n', e'⟩ : ∃ n', (s.heap.update a (Obj.mapSeq (·.setIfInBounds d (.str y s.toks)))).get? a = some (oL (its.setIfInBounds d (.str y s.toks)) n') := ⟨_, PySem.IsL.update e _⟩
  have sb : Heap.SameBut a s.heap (s.heap.update a (Obj.mapSeq (·.setIfInBounds d (.str y s.toks)))) := Heap.SameBut.update ..
  generalize s.heap.update a (Obj.mapSeq (·.setIfInBounds d (.str y s.toks))) = h2 at e' sb
  exact k h2 _ (X.over ha (X.main.g.sameBut sb (fun q => X.ng e (fun es m w => nomatch w) q.symm)) rfl (LstAt.set ⟨its, n, e, hz, hv⟩ e e') fun b o _ hb q => (sb.2 _ hb).trans q)
/-- for c in bytes: x[c] = chr(c) -/
theorem m_for {iter : Expr} {a : Addr} {f : Nat → PySem.Str} {bs : Array UInt8} {p1 p2 p3 p4 p5 p6 p7 p8 : Pos} (hh : A.handled = none) (X : Md hs m0 c Pl ps l G Ls s.heap) (B : Bt hs mb) (hne : bs.size ≠ 0) (hcl : pg.main.scope.names.lookup ("c" : PySem.Str) = some .local) (gx : mgOf l m0 x = some (.ref a)) (hxc : x ≠ "c") (hd : (x == ("__debug__" : PySem.Str)) = false) (hch : mgOf l m0 "chr" = none) (ha : (a, f) ∈ Ls)
    (he : wpAny (model pg w) A (eval iter (E0 c F)) (fun v s' => ∃ t h' tk, v = .bytes bs t ∧ s' = Sx s h' tk ∧ Ext s.heap h') E s)
    (k : ∀ u h' tk, Md hs m0 c Pl ps (("c", some u) :: l) G (updL Ls a (chrN f (bs.toList.map (·.toNat)))) h' → wpAny (model pg w) A (execs rest (E0 c F)) Q E (Sx s h' tk))
    (hfs : ∀ x, foldedSetIterable iter (E0 c F) x = pure x := by intro _; rfl) :
    wpAny (model pg w) A (execs (.For (.Name "c" p1) iter [.Assign [.Subscript (.Name x p2) (.Name "c" p3) p4] (.Call (.Name "chr" p5) [.Name "c" p6] [] p7) p8] [] pos :: rest) (E0 c F)) Q E s := by
  refine wpAny_execs_cons (wpAny_For (wpAny_mono he (fun v s' z => ?_) fun _ _ z => z) hfs)
  obtain ⟨tb, h1, k1, rfl, rfl, e1⟩ := z
  have X1 := X.ext e1
  refine KBw.pyIter_bytes ?_
  have W := KBw.walks (prog := pg) (w := w) hh h1.objs.size bs tb
  have hIg : h1.objs.size ≠ mainGlobals := fun q => absurd X1.main.g.lt (by rw [← q]; exact Nat.lt_irrefl _)
  obtain ⟨⟨its0, n0, ea, _⟩, z1, z2⟩ := X1.lists _ ha
  have agl : a ≠ mainGlobals := X1.ng ea fun es m w => nomatch w
  have hIa : h1.objs.size ≠ a := fun q => absurd (Heap.lt_size ea) (by rw [← q]; exact Nat.lt_irrefl _)
  have up : Ext h1 (h1.push { cls := .type "bytes_iterator", data := .fields #[.bytes bs tb, .int 0 0] }) := Ext.push _ _
  have hit0 : KBw.IsBytesIter (h1.push { cls := .type "bytes_iterator", data := .fields #[.bytes bs tb, .int 0 0] }) h1.objs.size bs tb 0 := ⟨_, Heap.get?_push_size _ rfl, rfl, rfl⟩
  generalize h1.push { cls := .type "bytes_iterator", data := .fields #[.bytes bs tb, .int 0 0] } = H0 at up hit0 ⊢
  -- what holds between the turns
  let I : Nat → Shared → Prop := fun m s' => ∃ i l' h2 tk, m = bs.size - i ∧ i ≤ bs.size ∧ s' = Sx s h2 tk ∧ KBw.IsBytesIter h2 h1.objs.size bs tb i ∧ h2.Ns mainGlobals (mgOf l' m0) ∧ ((i = 0 ∧ l' = l) ∨ ∃ u, l' = (("c" : PySem.Str), some u) :: l) ∧ LstAt h2 a (chrN f ((bs.toList.take i).map (·.toNat))) ∧ ∀ b o, b ≠ mainGlobals → b ≠ a → h1.get? b = some o → h2.get? b = some o
  have I0 : I (bs.size - 0) (Sx s H0 k1) := ⟨0, l, H0, k1, rfl, by omega, rfl, hit0, X1.main.g.keeps up, .inl ⟨rfl, rfl⟩, by
    obtain ⟨its, n, e, r⟩ := (X1.lists _ ha).1
    exact ⟨its, n, up _ _ e, r⟩, fun b o _ _ e => up b o e⟩
  refine codeAny_forLoop_any I ?_ _ I0
  rintro m s' ⟨i, l', h2, tk, rfl, hi, rfl, hit, hg, hl', hla, hke⟩
  have hX' : mgOf l' m0 x = some (.ref a) := by
    rcases hl' with ⟨_, rfl⟩ | ⟨u, rfl⟩
    · exact gx
    · rw [mgOf_other hxc]; exact gx
  have hchr' : mgOf l' m0 "chr" = none := by
    rcases hl' with ⟨_, rfl⟩ | ⟨u, rfl⟩
    · exact hch
    · rw [mgOf_other (by decide)]; exact hch
  have hbt : ∀ {h3 : Heap}, (∀ b o, b ≠ mainGlobals → b ≠ a → h1.get? b = some o → h3.get? b = some o) → h3.Ns builtinsNs mb := fun {h3} kk => by
    obtain ⟨o, es, ep, e, d, r⟩ := X1.bt B
    exact ⟨o, es, ep, kk _ _ (by decide) (fun q => by rw [q, ea] at e; cases e; cases d) e, d, r⟩
  by_cases hlt : i < bs.size
  · refine W.item i (Sx s h2 tk) _ _ hlt hit fun v h3 tk3 hP hit3 hk3 => ?_
    obtain ⟨cb, u, hcb, rfl⟩ := hP
    refine wpAny_of_eq (a := ()) rfl ?_
    have g3 : h3.Ns mainGlobals (mgOf l' m0) := by
      obtain ⟨o, es, ep, e, r⟩ := hg
      exact ⟨o, es, ep, hk3 _ _ (by simpa using Ne.symm hIg) e, r⟩
    have la3 : LstAt h3 a (chrN f ((bs.toList.take i).map (·.toNat))) := by
      obtain ⟨its, n, e, r⟩ := hla
      exact ⟨its, n, hk3 _ _ (by simpa using Ne.symm hIa) e, r⟩
    have ke3 : ∀ b o, b ≠ mainGlobals → b ≠ a → h1.get? b = some o → h3.get? b = some o := fun b o q1 q2 e => hk3 _ _ (fun q => absurd (List.mem_singleton.mp q) (Nat.ne_of_lt (Heap.lt_size e))) (hke b o q1 q2 e)
    refine wpAny_assign_Name (wpAny_storeName_local (env := E0 c F) hcl g3 (fun h4 g4 s4 => ?_) rfl)
    have g4 : h4.Ns mainGlobals (fun y => if y = "c" then some (.int (cb.toNat : Int) u) else mgOf l' m0 y) := g4
    have s4 : Heap.SameBut mainGlobals h3 h4 := s4
    rw [mgOf_cons] at g4
    have ke4 : ∀ b o, b ≠ mainGlobals → b ≠ a → h1.get? b = some o → h4.get? b = some o := fun b o q1 q2 e => (s4.2 _ q1).trans (ke3 b o q1 q2 e)
    obtain ⟨its, n, e3, r3⟩ := la3
    have e4 : h4.get? a = some (oL its n) := (s4.2 _ agl).trans e3
    have hit4 : KBw.IsBytesIter h4 h1.objs.size bs tb (i + 1) := by
      obtain ⟨o, e, r⟩ := hit3
      exact ⟨o, (s4.2 _ hIg).trans e, r⟩
    have gX4 : mgOf (("c", some (.int (cb.toNat : Int) u)) :: l') m0 x = some (.ref a) := by rw [mgOf_other hxc]; exact hX'
    have gc4 : mgOf (("c", some (.int (cb.toNat : Int) u)) :: l') m0 "chr" = none := by rw [mgOf_other (by decide)]; exact hchr'
    have gcc : mgOf (("c", some (.int (cb.toNat : Int) u)) :: l') m0 "c" = some (.int (cb.toNat : Int) u) := mgOf_same
    have hc256 : cb.toNat < 256 := cb.toNat_lt
    refine wpAny_execs_cons (wpAny_Assign_Subscript (g_call1 (s := Sx s h4 (tk3 + 1)) g4 (hbt ke4) (.inl ⟨"chr", rfl⟩) gc4 ((B.bi _ (by decide)).trans boot_chr) (g_name (s := Sx s h4 (tk3 + 1)) g4 gcc (chr_of_range (i := (cb.toNat : Int)) (by omega) (by omega) ?_))))
    refine g_name (s := { Sx s h4 (tk3 + 1) with toks := _ }) g4 gX4 (g_name (s := { Sx s h4 (tk3 + 1) with toks := _ }) g4 gcc ?_) hd
    refine ki_setAt (s := { Sx s h4 (tk3 + 1) with toks := _ }) e4 (by omega) (by omega) (by rw [r3.1]; omega) ?_
    rw [Int.toNat_natCast]
    obtain ⟨n', e5⟩ : ∃ n', (h4.update a (Obj.mapSeq (·.setIfInBounds cb.toNat (.str ⟨#[cb.toNat]⟩ (tk3 + 1))))).get? a = some (oL (its.setIfInBounds cb.toNat (.str ⟨#[cb.toNat]⟩ (tk3 + 1))) n') := ⟨_, PySem.IsL.update e4 _⟩
    have s5 : Heap.SameBut a h4 (h4.update a (Obj.mapSeq (·.setIfInBounds cb.toNat (.str ⟨#[cb.toNat]⟩ (tk3 + 1))))) := Heap.SameBut.update ..
    generalize h4.update a (Obj.mapSeq (·.setIfInBounds cb.toNat (.str ⟨#[cb.toNat]⟩ (tk3 + 1)))) = h5 at e5 s5
    refine wpAny_execs_nil ⟨bs.size - (i + 1), by omega, i + 1, ("c", some (.int (cb.toNat : Int) u)) :: l, h5, _, rfl, by omega, rfl, ?_, ?_, .inr ⟨_, rfl⟩, ?_, fun b o q1 q2 e => (s5.2 _ q2).trans (ke4 b o q1 q2 e)⟩
    · obtain ⟨o, e, r⟩ := hit4
      exact ⟨o, (s5.2 _ hIa).trans e, r⟩
    · have := g4.sameBut s5 (Ne.symm agl)
      rcases hl' with ⟨_, rfl⟩ | ⟨u', rfl⟩
      · exact this
      · rw [mgOf_over] at this; exact this
    · have := LstAt.set (y := ⟨#[cb.toNat]⟩) (i := cb.toNat) ⟨its, n, e4, r3⟩ e4 e5
      have ec : (bs.toList.take (i + 1)).map (·.toNat) = (bs.toList.take i).map (·.toNat) ++ [cb.toNat] := by
        have h6 : i < bs.toList.length := by simpa using hlt
        rw [List.take_succ_eq_append_getElem h6, List.map_append]
        have : bs.toList[i] = cb := by
          have := hcb
          rw [Array.getElem?_eq_getElem hlt] at this
          simpa using Option.some.inj this
        simp [this]
      rw [ec]
      unfold chrN at this ⊢
      rw [List.foldl_append]
      exact this
  · have hi' : i = bs.size := by omega
    subst hi'
    refine W.done (Sx s h2 tk) _ _ hit fun h3 tk3 hk3 => wpAny_execs_nil ?_
    rcases hl' with ⟨q, _⟩ | ⟨u, rfl⟩
    · exact absurd q hne
    · have g3 : h3.Ns mainGlobals (mgOf (("c", some u) :: l) m0) := by
        obtain ⟨o, es, ep, e, r⟩ := hg
        exact ⟨o, es, ep, hk3 _ _ (by simpa using Ne.symm hIg) e, r⟩
      have la3 : LstAt h3 a (chrN f (bs.toList.map (·.toNat))) := by
        obtain ⟨its, n, e, r⟩ := hla
        rw [List.take_of_length_le (by simp)] at r
        exact ⟨its, n, hk3 _ _ (by simpa using Ne.symm hIa) e, r⟩
      refine k u h3 tk3 (X1.over ha g3 ?_ la3 fun b o q1 q2 e => hk3 _ _ (fun q => absurd (List.mem_singleton.mp q) (Nat.ne_of_lt (Heap.lt_size e))) (hke b o q1 q2 e))
      rw [mgOf_other (by decide)]
/-- del x -/
theorem m_del {v : Value} {p1 : Pos} (X : Md hs m0 c Pl ps l G Ls s.heap) (hl : pg.main.scope.names.lookup x = some .local) (hx : x ≠ "__builtins__") (gx : mgOf l m0 x = some v)
    (k : ∀ u h' tk, Md hs m0 c Pl ps ((x, u) :: l) G Ls h' → wpAny (model pg w) A (execs rest (E0 c F)) Q E (Sx s h' tk)) :
    wpAny (model pg w) A (execs (.Delete [.Name x p1] pos :: rest) (E0 c F)) Q E s :=
  wpAny_execs_cons (wpAny_Delete (wpAny_deleteEach_cons (wpAny_delete_Name (wpAny_unbindName_local (env := E0 c F) hl X.main.g gx rfl fun h' u hn hs' => wpAny_deleteEach_nil (k u h' s.toks (X.stored hx hn hs'))))))
end
end
end Mine

namespace Mine
section
variable {w : World} {A : Around} {s : Shared} {hs : Heap} {m0 mb : PySem.Str → Option Value} {c Pl F : Addr} {ps ps' : Array Value} {l l' : Gl} {G : List (Heap → Prop)} {Ls Ls' : List (Addr × (Nat → PySem.Str))} {h h' : Heap}
theorem g_encode {Q : Value → Shared → Prop} {E : Value → Shared → Prop} {mg : PySem.Str → Option Value} {n y : PySem.Str} {t : Tok} {bs : Array UInt8} {p1 p2 pos pa : Pos} {k1 : Nat} (g : s.heap.Ns mainGlobals mg) (hv : mg n = some (.str y t)) (hy : ∀ t t1, Builtin.«str.encode» ⟨[.str y t, .str "ascii" t1], []⟩ = (mkBytes bs >>= fun v => ret v)) (hz : bs.size ≤ 1000)
    (k : ∀ t' k', Q (.bytes bs t') { s with toks := k' }) (hd : (n == ("__debug__" : PySem.Str)) = false := by decide) (hline : (pa.endLine == pos.line) = true := by rfl) :
    wpAny (model pg w) A (eval (.Call (.Attribute (.Name n p1) "encode" pa) [.Constant (.str "ascii") k1 p2] [] pos) (E0 c F)) Q E s := by
  refine wpAny_Call_method rfl rfl hline PySem.F.plainAttrs_str PySem.F.slot_str_encode PySem.F.type_str_encode (g_name g hv ⟨typeIs_str _ _ _, (fun _ e => nomatch e), ?_⟩ hd)
  have hst : starEach [Expr.Constant (.str "ascii") k1 p2] (E0 c F) = (false, eval (.Constant (.str "ascii") k1 p2) (E0 c F)) :: starEach [] (E0 c F) := rfl
  rw [hst]
  refine callWith_of (P := fun _ => True) rfl (fun h _ => ⟨_, .inr (.inl rfl), Looks.of_pure rfl⟩) (Calls.evalArgs_plain (Calls.spliced_cons (wpAny_Constant_str (k := k1) (pos := p2) (Calls.spliced_nil ⟨trivial, ?_⟩))))
  refine wpAny_call_entry (s := { s with toks := s.toks + 1 }) PySem.F.slot_str_encode (typeIs_str _ _ _) PySem.F.entry_str_encode ?_ (PySem.F.args_str_encode_2 _ _)
  show wpAny _ _ (Builtin.«str.encode» ⟨[.str y t, .str "ascii" s.toks], []⟩) _ _ _
  rw [hy]
  exact wpAny_bind (wpAny_mkBytes (wpAny_pure ⟨_, rfl, k _ _⟩) (by rw [sizeLine_eq]; omega))

def bs1 : Array UInt8 := ([45, 33, 42, 43, 47] : List UInt8).toArray ++ bytesOf (lowS ++ uppS) ++ bytesOf digS
def bs2 : Array UInt8 := ([32, 33, 34, 35, 36, 37, 38, 39, 40, 41, 42, 43, 44, 45, 46, 47, 48, 49, 50, 51, 52, 53, 54, 55, 56, 57, 58, 59, 60, 62, 63, 64, 65, 66, 67, 68, 69, 70, 71, 72, 73, 74, 75, 76, 77, 78, 79, 80, 81, 82, 83, 84, 85, 86, 87, 88, 89, 90, 91, 92, 93, 94, 95, 96, 97, 98, 99, 100, 101, 102, 103, 104, 105, 106, 107, 108, 109, 110, 111, 112, 113, 114, 115, 116, 117, 118, 119, 120, 121, 122, 123, 124, 125, 126, 9] : List UInt8).toArray
def bs3 : Array UInt8 := ([13, 10] : List UInt8).toArray
def hMap : Nat → PySem.Str := fun j => if j = 32 then "_" else chrN hexS (bs1.toList.map (·.toNat)) j
/-- behind the defs of the first two files -/
theorem walk1 {Q : Flow → Shared → Prop} {E : Value → Shared → Prop} (hh : A.handled = none) (X : Md hs m0 c Pl #[] [] [] [] s.heap) (B : Bt hs mb) (H0 : ∀ x, x ∉ bootMainNames → m0 x = none)
    (k : ∀ a1 a2 c1 c2 t1 aM aH aB h' tk, Md hs m0 c Pl (#[] ++ #[rawInt 2, rawInt 0, .ref c1] ++ #[rawInt 34, rawInt 0, .ref c2])
      [("_QUOPRI_BODY_MAP", some (.ref aB)), ("_QUOPRI_HEADER_MAP", some (.ref aH)), ("_QUOPRI_MAP", some (.ref aM)), (dCmp.name, some (.ref a2)), (dSLD.name, some (.ref a1)), ("__name__", some (.str "cpy313.unittest.util" t1))] [FnAt Pl dCmp a2, FnAt Pl dSLD a1] [(aB, hexS), (aH, hexS), (aM, hexS)] h' →
      wpAny (model pg w) A (execs (pg.main.body.drop 6) (E0 c F)) Q E (Sx s h' tk)) :
    wpAny (model pg w) A (execs pg.main.body (E0 c F)) Q E s := by
  refine m_str X (by decide) (by decide) fun t1 h1 k1 X1 => ?_
  refine m_def dSLD (s := Sx s h1 k1) X1 (fun _ => rfl) (by decide) rfl (by decide) rfl (by decide) rfl fun a1 c1 h2 k2 X2 => ?_
  refine m_def dCmp (s := Sx s h2 k2) X2 (fun _ => rfl) (by decide) rfl (by decide) rfl (by decide) rfl fun a2 c2 h3 k3 X3 => ?_
  refine m_hex (s := Sx s h3 k3) hh X3 B (by decide) (by decide) (H0 _ (by decide)) rfl (by decide) (by decide) (by decide) (by decide) fun aM h4 k4 X4 => ?_
  refine m_copy (s := Sx s h4 k4) X4 (by decide) (by decide) (a := aM) (f := hexS) rfl (by simp) (by decide) fun aH h5 k5 X5 => ?_
  refine m_copy (s := Sx s h5 k5) X5 (by decide) (by decide) (a := aM) (f := hexS) rfl (by simp) (by decide) fun aB h6 k6 X6 => ?_
  exact k a1 a2 c1 c2 t1 aM aH aB h6 k6 X6
theorem hMap_eq : (fun j => if j = 32 then ("_" : PySem.Str) else chrN hexS (bs1.toList.map (·.toNat)) j) = hMap := rfl
/-- the maps filled -/
theorem walk2 {Q : Flow → Shared → Prop} {E : Value → Shared → Prop} {aH aB aM : Addr} {l0 : Gl} (hh : A.handled = none) (B : Bt hs mb) (ho : mgOf l0 m0 "ord" = none) (hc : mgOf l0 m0 "chr" = none)
    (gB : mgOf l0 m0 "_QUOPRI_BODY_MAP" = some (.ref aB)) (gH : mgOf l0 m0 "_QUOPRI_HEADER_MAP" = some (.ref aH)) (hBH : aB ≠ aH) (hMH : aM ≠ aH) (hMB : aM ≠ aB)
    (X : Md hs m0 c Pl ps l0 G [(aB, hexS), (aH, hexS), (aM, hexS)] s.heap)
    (k : ∀ t1 t2 t3 t4 t5 u f h' tk, Md hs m0 c Pl ps
      (("c", some u) :: ("__name__", some (.str "cpy313.email.quoprimime" t5)) :: ("digits", some (.str digS t4)) :: ("ascii_letters", some (.str (lowS ++ uppS) t3)) :: ("ascii_uppercase", some (.str uppS t2)) :: ("ascii_lowercase", some (.str lowS t1)) :: l0) G [(aB, f), (aH, hMap), (aM, hexS)] h' →
      wpAny (model pg w) A (execs (pg.main.body.drop 14) (E0 c F)) Q E (Sx s h' tk)) :
    wpAny (model pg w) A (execs (pg.main.body.drop 6) (E0 c F)) Q E s := by
  have hb1 : bs1.size = 67 := by decide +kernel
  have hb2 : bs2.size = 95 := by decide +kernel
  refine m_str X (by decide) (by decide) fun t1 h1 k1 X1 => ?_
  refine m_str (s := Sx s h1 k1) X1 (by decide) (by decide) fun t2 h2 k2 X2 => ?_
  refine m_cat (s := Sx s h2 k2) (y1 := lowS) (y2 := uppS) (t1 := t1) (t2 := t2) X2 (by decide) (by decide) (by rw [mgOf_other (by decide)]; exact mgOf_same) mgOf_same (by rw [sizeLine_eq]; decide +kernel) fun t3 h3 k3 X3 => ?_
  refine m_str (s := Sx s h3 k3) X3 (by decide) (by decide) fun t4 h4 k4 X4 => ?_
  refine m_str (s := Sx s h4 k4) X4 (by decide) (by decide) fun t5 h5 k5 X5 => ?_
  have oth : ∀ {n : PySem.Str} {u : Option Value}, n ≠ "__name__" → n ≠ "digits" → n ≠ "ascii_letters" → n ≠ "ascii_uppercase" → n ≠ "ascii_lowercase" → mgOf l0 m0 n = u → mgOf (("__name__", some (.str "cpy313.email.quoprimime" t5)) :: ("digits", some (.str digS t4)) :: ("ascii_letters", some (.str (lowS ++ uppS) t3)) :: ("ascii_uppercase", some (.str uppS t2)) :: ("ascii_lowercase", some (.str lowS t1)) :: l0) m0 n = u := fun {n u} q1 q2 q3 q4 q5 e => by
    rw [mgOf_other q1, mgOf_other q2, mgOf_other q3, mgOf_other q4, mgOf_other q5]; exact e
  refine m_for (s := Sx s h5 k5) (a := aH) (f := hexS) (bs := bs1) hh X5 B (by rw [hb1]; decide) (by decide) (oth (by decide) (by decide) (by decide) (by decide) (by decide) gH) (by decide) (by decide) (oth (by decide) (by decide) (by decide) (by decide) (by decide) hc) (by simp) ?_ fun u6 h6 k6 X6 => ?_
  · refine wpAny_BinOp (wpAny_BinOp (Constant_bytes (g_encode (s := { Sx s h5 k5 with toks := k5 + 1 }) (y := lowS ++ uppS) (t := t3) X5.main.g (by rw [mgOf_other (by decide), mgOf_other (by decide)]; exact mgOf_same) enc_letters (by decide +kernel) fun t' k' => ?_)))
    refine KBy.add_bytes (by decide +kernel) fun t7 k7 => ?_
    refine g_encode (s := { Sx s h5 k5 with toks := k7 }) (y := digS) (t := t4) X5.main.g (by rw [mgOf_other (by decide)]; exact mgOf_same) enc_digits (by decide +kernel) fun t8 k8 => ?_
    exact KBy.add_bytes (by decide +kernel) fun t9 k9 => ⟨t9, h5, k9, rfl, rfl, Ext.refl _⟩
  have el : updL [(aB, hexS), (aH, hexS), (aM, hexS)] aH (chrN hexS (bs1.toList.map (·.toNat))) = [(aB, hexS), (aH, chrN hexS (bs1.toList.map (·.toNat))), (aM, hexS)] := by simp [updL, hBH, hMH]
  rw [el] at X6
  refine m_set (s := Sx s h6 k6) (a := aH) (d := 32) (y := "_") X6 B (by rw [mgOf_other (by decide)]; exact oth (by decide) (by decide) (by decide) (by decide) (by decide) gH) (by rw [mgOf_other (by decide)]; exact oth (by decide) (by decide) (by decide) (by decide) (by decide) ho) (f := chrN hexS (bs1.toList.map (·.toNat))) (by simp) (by decide) (by decide) fun h7 k7 X7 => ?_
  have el2 : updL [(aB, hexS), (aH, chrN hexS (bs1.toList.map (·.toNat))), (aM, hexS)] aH (fun j => if j = 32 then "_" else chrN hexS (bs1.toList.map (·.toNat)) j) = [(aB, hexS), (aH, hMap), (aM, hexS)] := by rw [hMap_eq]; simp [updL, hBH, hMH]
  rw [el2] at X7
  refine m_for (s := Sx s h7 k7) (a := aB) (f := hexS) (bs := bs2) hh X7 B (by rw [hb2]; decide) (by decide) (by rw [mgOf_other (by decide)]; exact oth (by decide) (by decide) (by decide) (by decide) (by decide) gB) (by decide) (by decide) (by rw [mgOf_other (by decide)]; exact oth (by decide) (by decide) (by decide) (by decide) (by decide) hc) (by simp) (Constant_bytes ⟨_, h7, _, rfl, rfl, Ext.refl _⟩) fun u8 h8 k8 X8 => ?_
  have el3 : updL [(aB, hexS), (aH, hMap), (aM, hexS)] aB (chrN hexS (bs2.toList.map (·.toNat))) = [(aB, chrN hexS (bs2.toList.map (·.toNat))), (aH, hMap), (aM, hexS)] := by simp [updL, Ne.symm hBH, hMB]
  rw [el3] at X8
  have X9 : Md hs m0 c Pl ps (("c", some u8) :: ("__name__", some (.str "cpy313.email.quoprimime" t5)) :: ("digits", some (.str digS t4)) :: ("ascii_letters", some (.str (lowS ++ uppS) t3)) :: ("ascii_uppercase", some (.str uppS t2)) :: ("ascii_lowercase", some (.str lowS t1)) :: l0) G [(aB, chrN hexS (bs2.toList.map (·.toNat))), (aH, hMap), (aM, hexS)] h8 :=
    ⟨by rw [← mgOf_over]; exact X8.main, X8.ks, X8.lowP, X8.gs, X8.facts, X8.lists, X8.nd⟩
  exact k t1 t2 t3 t4 t5 u8 _ h8 k8 X9
end
end Mine

namespace Mine
section
variable {w : World} {A : Around} {s : Shared} {hs : Heap} {m0 mb : PySem.Str → Option Value} {c Pl F : Addr} {ps ps' : Array Value} {l l' : Gl} {G : List (Heap → Prop)} {Ls Ls' : List (Addr × (Nat → PySem.Str))} {h h' : Heap}
theorem Md.dropL {p : Addr × (Nat → PySem.Str)} (X : Md hs m0 c Pl ps l G (p :: Ls) h) : Md hs m0 c Pl ps l G Ls h :=
  ⟨X.main, X.ks, X.lowP, X.gs, X.facts, fun q hq => X.lists q (List.mem_cons_of_mem _ hq), (List.nodup_cons.mp (by have := X.nd; rwa [List.map_cons] at this)).2⟩
/-- header_encode, the last map -/
theorem walk3 {Q : Flow → Shared → Prop} {E : Value → Shared → Prop} {aH aB aM : Addr} {fB : Nat → PySem.Str} {l0 : Gl} {u0 : Option Value} (hh : A.handled = none) (B : Bt hs mb) (hnf : codeAmong ⟨49, 0, 53, 45⟩ ps.toList = none) (hc : mgOf l0 m0 "chr" = none)
    (gB : mgOf l0 m0 "_QUOPRI_BODY_MAP" = some (.ref aB))
    (X : Md hs m0 c Pl ps (("c", u0) :: l0) G [(aB, fB), (aH, hMap), (aM, hexS)] s.heap)
    (k : ∀ a3 c3 t1 aE u h' tk, Md hs m0 c Pl (ps ++ #[rawInt 49, rawInt 0, .ref c3])
      (("__name__", some (.str "cpy313.heapq" t1)) :: ("c", u) :: ("_QUOPRI_BODY_ENCODE_MAP", some (.ref aE)) :: (dHE.name, some (.ref a3)) :: ("c", u0) :: l0) (HEAt Pl a3 :: G) [(aH, hMap)] h' →
      wpAny (model pg w) A (execs (pg.main.body.drop 19) (E0 c F)) Q E (Sx s h' tk)) :
    wpAny (model pg w) A (execs (pg.main.body.drop 14) (E0 c F)) Q E s := by
  refine m_he X hnf fun a3 c3 h1 k1 X1 => ?_
  refine m_copy (s := Sx s h1 k1) X1 (by decide) (by decide) (a := aB) (f := fB) (by rw [mgOf_other (by decide), mgOf_other (by decide)]; exact gB) (by simp) (by decide) fun aE h2 k2 X2 => ?_
  refine m_for (s := Sx s h2 k2) (a := aE) (f := fB) (bs := bs3) hh X2 B (by decide) (by decide) mgOf_same (by decide) (by decide) (by rw [mgOf_other (by decide), mgOf_other (by decide), mgOf_other (by decide)]; exact hc) (by simp) (Constant_bytes ⟨_, h2, _, rfl, rfl, Ext.refl _⟩) fun u3 h3 k3 X3 => ?_
  refine m_del (s := Sx s h3 k3) X3 (by decide) (by decide) mgOf_same fun u4 h4 k4 X4 => ?_
  refine m_str (s := Sx s h4 k4) X4 (by decide) (by decide) fun t5 h5 k5 X5 => ?_
  have hne : aH ≠ aE := fun q => by
    have nd := X2.nd
    simp only [List.map_cons, List.map_nil, List.nodup_cons, List.mem_cons] at nd
    exact nd.1 (.inr (.inl q.symm))
  have hBE : aB ≠ aE := fun q => by
    have nd := X2.nd
    simp only [List.map_cons, List.map_nil, List.nodup_cons, List.mem_cons] at nd
    exact nd.1 (.inl q.symm)
  have hME : aM ≠ aE := fun q => by
    have nd := X2.nd
    simp only [List.map_cons, List.map_nil, List.nodup_cons, List.mem_cons] at nd
    exact nd.1 (.inr (.inr (.inl q.symm)))
  have el : updL [(aE, fB), (aB, fB), (aH, hMap), (aM, hexS)] aE (chrN fB (bs3.toList.map (·.toNat))) = [(aE, chrN fB (bs3.toList.map (·.toNat))), (aB, fB), (aH, hMap), (aM, hexS)] := by simp [updL, hne, hBE, hME]
  rw [el] at X5
  have X6 : Md hs m0 c Pl (ps ++ #[rawInt 49, rawInt 0, .ref c3]) (("__name__", some (.str "cpy313.heapq" t5)) :: ("c", u4) :: ("_QUOPRI_BODY_ENCODE_MAP", some (.ref aE)) :: (dHE.name, some (.ref a3)) :: ("c", u0) :: l0) (HEAt Pl a3 :: G) [(aH, hMap)] h5 := by
    have X7 := X5.dropL.dropL
    refine ⟨?_, X7.ks, X7.lowP, X7.gs, X7.facts, fun q hq => X7.lists q ?_, by simp⟩
    · have := X7.main
      have e : mgOf (("__name__", some (.str "cpy313.heapq" t5)) :: ("c", u4) :: ("c", some u3) :: ("_QUOPRI_BODY_ENCODE_MAP", some (.ref aE)) :: (dHE.name, some (.ref a3)) :: ("c", u0) :: l0) m0 = mgOf (("__name__", some (.str "cpy313.heapq" t5)) :: ("c", u4) :: ("_QUOPRI_BODY_ENCODE_MAP", some (.ref aE)) :: (dHE.name, some (.ref a3)) :: ("c", u0) :: l0) m0 := by
        rw [← mgOf_cons, ← mgOf_cons (l := ("c", u4) :: _), mgOf_over]
      rw [← e]; exact this
    · rw [List.mem_singleton.mp hq]; exact .head _
  exact k a3 c3 t5 aE u4 h5 k5 X6
theorem codeAmong_ne {pos : Pos} {a b : Int} {c : Value} (l : List Value) (h : TriplesOk l) (hn : codeAmong pos l = none) (ha : a ≠ pos.line) : codeAmong pos (l ++ [rawInt a, rawInt b, c]) = none := by
  fun_induction TriplesOk l with
  | case1 =>
    have : (a == (pos.line : Int)) = false := by simpa using ha
    simp [codeAmong, rawInt, this]
  | case2 a t b u x rest ih =>
    simp only [List.cons_append, codeAmong] at hn ⊢
    split at hn
    · cases hn
    · rename_i hc; rw [if_neg hc]; exact ih h hn
  | case3 l h1 h2 => exact h.elim
def Old (n : Nat) (ps : Array Value) : Prop := TriplesOk ps.toList ∧ ∀ pos : Pos, n ≤ pos.line → codeAmong pos ps.toList = none
theorem Old.nil : Old 0 #[] := ⟨trivial, fun _ _ => rfl⟩
theorem Old.snoc {n : Nat} {pos : Pos} {v : Value} (o : Old n ps) (hn : n ≤ pos.line) : Old (pos.line + 1) (ps ++ #[rawInt pos.line, rawInt pos.col, v]) := by
  have e : (ps ++ #[rawInt pos.line, rawInt pos.col, v]).toList = ps.toList ++ [rawInt pos.line, rawInt pos.col, v] := by simp
  refine ⟨by rw [e]; exact TriplesOk_snoc _ _ _ _ o.1, fun q hq => ?_⟩
  rw [e]
  exact codeAmong_ne _ o.1 (o.2 q (by omega)) (by omega)
theorem m_defO {Q : Flow → Shared → Prop} {E : Value → Shared → Prop} {rest : List Stmt} {pos : Pos} {n : Nat} (d : FD) (X : Md hs m0 c Pl ps l G Ls s.heap) (o : Old n ps) (hn : Nat.ble n pos.line = true) (hexec : PlainDefTree d.name d.params d.body d.scope pos) (hfree : (d.scope.names.all fun x => x.2 != .free) = true) (hdoc : docOf d.body = none) (hloc : pg.main.scope.names.lookup d.name = some .local)
    (hq : qualnameIn { scope := pg.main.scope, locals := mainGlobals, globals := mainGlobals, cells := [] } d.name d.name = d.name) (hnb : (d.name == ("__builtins__" : PySem.Str)) = false)
    (k : ∀ a ps' h' tk, Old (pos.line + 1) ps' → Md hs m0 c Pl ps' ((d.name, some (.ref a)) :: l) (FnAt Pl d a :: G) Ls h' → wpAny (model pg w) A (execs rest (E0 c F)) Q E (Sx s h' tk)) :
    wpAny (model pg w) A (execs (.FunctionDef d.name d.params d.body [] none [] d.scope none d.name pos :: rest) (E0 c F)) Q E s :=
  m_def d X hexec (fun x hx => by have := List.all_eq_true.mp hfree x hx; simpa using this) hdoc hloc hq (by simpa using hnb) (o.2 pos (Nat.le_of_ble_eq_true hn)) fun a c' h' tk X' => k a _ h' tk (o.snoc (Nat.le_of_ble_eq_true hn)) X'
end
end Mine

namespace Mine
section
variable {w : World} {A : Around} {s : Shared} {hs : Heap} {m0 mb : PySem.Str → Option Value} {c Pl F : Addr} {ps : Array Value} {l l' : Gl} {G : List (Heap → Prop)} {Ls Ls' : List (Addr × (Nat → PySem.Str))} {h h' : Heap} {Q : Flow → Shared → Prop} {E : Value → Shared → Prop} {n : Nat}
theorem st19 (X : Md hs m0 c Pl ps l G Ls s.heap) (o : Old n ps) (hn : Nat.ble n 59 = true)
    (k : ∀ a ps' h' tk, Old 60 ps' → Md hs m0 c Pl ps' ((dPush.name, some (.ref a)) :: l) (FnAt Pl dPush a :: G) Ls h' → wpAny (model pg w) A (execs (pg.main.body.drop 20) (E0 c F)) Q E (Sx s h' tk)) :
    wpAny (model pg w) A (execs (pg.main.body.drop 19) (E0 c F)) Q E s :=
  m_defO (rest := pg.main.body.drop 20) dPush X o hn (fun _ => by kernel_rfl) (by kernel_rfl) (by kernel_rfl) (by kernel_rfl) (by kernel_rfl) (by kernel_rfl) k
theorem st20 (X : Md hs m0 c Pl ps l G Ls s.heap) (o : Old n ps) (hn : Nat.ble n 62 = true)
    (k : ∀ a ps' h' tk, Old 63 ps' → Md hs m0 c Pl ps' ((dPop.name, some (.ref a)) :: l) (FnAt Pl dPop a :: G) Ls h' → wpAny (model pg w) A (execs (pg.main.body.drop 21) (E0 c F)) Q E (Sx s h' tk)) :
    wpAny (model pg w) A (execs (pg.main.body.drop 20) (E0 c F)) Q E s :=
  m_defO (rest := pg.main.body.drop 21) dPop X o hn (fun _ => by kernel_rfl) (by kernel_rfl) (by kernel_rfl) (by kernel_rfl) (by kernel_rfl) (by kernel_rfl) k
theorem st21 (X : Md hs m0 c Pl ps l G Ls s.heap) (o : Old n ps) (hn : Nat.ble n 70 = true)
    (k : ∀ a ps' h' tk, Old 71 ps' → Md hs m0 c Pl ps' ((dHeapify.name, some (.ref a)) :: l) (FnAt Pl dHeapify a :: G) Ls h' → wpAny (model pg w) A (execs (pg.main.body.drop 22) (E0 c F)) Q E (Sx s h' tk)) :
    wpAny (model pg w) A (execs (pg.main.body.drop 21) (E0 c F)) Q E s :=
  m_defO (rest := pg.main.body.drop 22) dHeapify X o hn (fun _ => by kernel_rfl) (by kernel_rfl) (by kernel_rfl) (by kernel_rfl) (by kernel_rfl) (by kernel_rfl) k
theorem st22 (X : Md hs m0 c Pl ps l G Ls s.heap) (o : Old n ps) (hn : Nat.ble n 74 = true)
    (k : ∀ a ps' h' tk, Old 75 ps' → Md hs m0 c Pl ps' ((dSD.name, some (.ref a)) :: l) (FnAt Pl dSD a :: G) Ls h' → wpAny (model pg w) A (execs (pg.main.body.drop 23) (E0 c F)) Q E (Sx s h' tk)) :
    wpAny (model pg w) A (execs (pg.main.body.drop 22) (E0 c F)) Q E s :=
  m_defO (rest := pg.main.body.drop 23) dSD X o hn (fun _ => by kernel_rfl) (by kernel_rfl) (by kernel_rfl) (by kernel_rfl) (by kernel_rfl) (by kernel_rfl) k
theorem st23 (X : Md hs m0 c Pl ps l G Ls s.heap) (o : Old n ps) (hn : Nat.ble n 85 = true)
    (k : ∀ a ps' h' tk, Old 86 ps' → Md hs m0 c Pl ps' ((dSU.name, some (.ref a)) :: l) (FnAt Pl dSU a :: G) Ls h' → wpAny (model pg w) A (execs (pg.main.body.drop 24) (E0 c F)) Q E (Sx s h' tk)) :
    wpAny (model pg w) A (execs (pg.main.body.drop 23) (E0 c F)) Q E s :=
  m_defO (rest := pg.main.body.drop 24) dSU X o hn (fun _ => by kernel_rfl) (by kernel_rfl) (by kernel_rfl) (by kernel_rfl) (by kernel_rfl) (by kernel_rfl) k
theorem st24 (X : Md hs m0 c Pl ps l G Ls s.heap)
    (k : ∀ t h' tk, Md hs m0 c Pl ps (("__name__", some (.str "law_op0063_01" t)) :: l) G Ls h' → wpAny (model pg w) A (execs (pg.main.body.drop 25) (E0 c F)) Q E (Sx s h' tk)) :
    wpAny (model pg w) A (execs (pg.main.body.drop 24) (E0 c F)) Q E s :=
  m_str (rest := pg.main.body.drop 25) X (by decide) (by decide) k
theorem st25 (X : Md hs m0 c Pl ps l G Ls s.heap) (o : Old n ps) (hn : Nat.ble n 100 = true)
    (k : ∀ a ps' h' tk, Old 101 ps' → Md hs m0 c Pl ps' ((dNumbers.name, some (.ref a)) :: l) (FnAt Pl dNumbers a :: G) Ls h' → wpAny (model pg w) A (execs (pg.main.body.drop 26) (E0 c F)) Q E (Sx s h' tk)) :
    wpAny (model pg w) A (execs (pg.main.body.drop 25) (E0 c F)) Q E s :=
  m_defO (rest := pg.main.body.drop 26) dNumbers X o hn (fun _ => by kernel_rfl) (by kernel_rfl) (by kernel_rfl) (by kernel_rfl) (by kernel_rfl) (by kernel_rfl) k
theorem st26 (X : Md hs m0 c Pl ps l G Ls s.heap) (o : Old n ps) (hn : Nat.ble n 103 = true)
    (k : ∀ a ps' h' tk, Old 104 ps' → Md hs m0 c Pl ps' ((dOctets.name, some (.ref a)) :: l) (FnAt Pl dOctets a :: G) Ls h' → wpAny (model pg w) A (execs (pg.main.body.drop 27) (E0 c F)) Q E (Sx s h' tk)) :
    wpAny (model pg w) A (execs (pg.main.body.drop 26) (E0 c F)) Q E s :=
  m_defO (rest := pg.main.body.drop 27) dOctets X o hn (fun _ => by kernel_rfl) (by kernel_rfl) (by kernel_rfl) (by kernel_rfl) (by kernel_rfl) (by kernel_rfl) k
theorem st27 (X : Md hs m0 c Pl ps l G Ls s.heap) (o : Old n ps) (hn : Nat.ble n 108 = true)
    (k : ∀ a ps' h' tk, Old 109 ps' → Md hs m0 c Pl ps' ((dSign.name, some (.ref a)) :: l) (FnAt Pl dSign a :: G) Ls h' → wpAny (model pg w) A (execs (pg.main.body.drop 28) (E0 c F)) Q E (Sx s h' tk)) :
    wpAny (model pg w) A (execs (pg.main.body.drop 27) (E0 c F)) Q E s :=
  m_defO (rest := pg.main.body.drop 28) dSign X o hn (fun _ => by kernel_rfl) (by kernel_rfl) (by kernel_rfl) (by kernel_rfl) (by kernel_rfl) (by kernel_rfl) k
theorem st28 (X : Md hs m0 c Pl ps l G Ls s.heap) (o : Old n ps) (hn : Nat.ble n 116 = true)
    (k : ∀ a ps' h' tk, Old 117 ps' → Md hs m0 c Pl ps' ((dInOrder.name, some (.ref a)) :: l) (FnAt Pl dInOrder a :: G) Ls h' → wpAny (model pg w) A (execs (pg.main.body.drop 29) (E0 c F)) Q E (Sx s h' tk)) :
    wpAny (model pg w) A (execs (pg.main.body.drop 28) (E0 c F)) Q E s :=
  m_defO (rest := pg.main.body.drop 29) dInOrder X o hn (fun _ => by kernel_rfl) (by kernel_rfl) (by kernel_rfl) (by kernel_rfl) (by kernel_rfl) (by kernel_rfl) k
theorem st29 (X : Md hs m0 c Pl ps l G Ls s.heap) (o : Old n ps) (hn : Nat.ble n 119 = true)
    (k : ∀ a ps' h' tk, Old 120 ps' → Md hs m0 c Pl ps' ((dWords.name, some (.ref a)) :: l) (FnAt Pl dWords a :: G) Ls h' → wpAny (model pg w) A (execs (pg.main.body.drop 30) (E0 c F)) Q E (Sx s h' tk)) :
    wpAny (model pg w) A (execs (pg.main.body.drop 29) (E0 c F)) Q E s :=
  m_defO (rest := pg.main.body.drop 30) dWords X o hn (fun _ => by kernel_rfl) (by kernel_rfl) (by kernel_rfl) (by kernel_rfl) (by kernel_rfl) (by kernel_rfl) k
theorem st30 (X : Md hs m0 c Pl ps l G Ls s.heap) (o : Old n ps) (hn : Nat.ble n 124 = true)
    (k : ∀ a ps' h' tk, Old 125 ps' → Md hs m0 c Pl ps' ((dLaid.name, some (.ref a)) :: l) (FnAt Pl dLaid a :: G) Ls h' → wpAny (model pg w) A (execs (pg.main.body.drop 31) (E0 c F)) Q E (Sx s h' tk)) :
    wpAny (model pg w) A (execs (pg.main.body.drop 30) (E0 c F)) Q E s :=
  m_defO (rest := pg.main.body.drop 31) dLaid X o hn (fun _ => by kernel_rfl) (by kernel_rfl) (by kernel_rfl) (by kernel_rfl) (by kernel_rfl) (by kernel_rfl) k
theorem st31 (X : Md hs m0 c Pl ps l G Ls s.heap) (o : Old n ps) (hn : Nat.ble n 128 = true)
    (k : ∀ a ps' h' tk, Old 129 ps' → Md hs m0 c Pl ps' ((dOpening.name, some (.ref a)) :: l) (FnAt Pl dOpening a :: G) Ls h' → wpAny (model pg w) A (execs (pg.main.body.drop 32) (E0 c F)) Q E (Sx s h' tk)) :
    wpAny (model pg w) A (execs (pg.main.body.drop 31) (E0 c F)) Q E s :=
  m_defO (rest := pg.main.body.drop 32) dOpening X o hn (fun _ => by kernel_rfl) (by kernel_rfl) (by kernel_rfl) (by kernel_rfl) (by kernel_rfl) (by kernel_rfl) k
theorem st32 (X : Md hs m0 c Pl ps l G Ls s.heap) (o : Old n ps) (hn : Nat.ble n 136 = true)
    (k : ∀ a ps' h' tk, Old 137 ps' → Md hs m0 c Pl ps' ((dRow.name, some (.ref a)) :: l) (FnAt Pl dRow a :: G) Ls h' → wpAny (model pg w) A (execs (pg.main.body.drop 33) (E0 c F)) Q E (Sx s h' tk)) :
    wpAny (model pg w) A (execs (pg.main.body.drop 32) (E0 c F)) Q E s :=
  m_defO (rest := pg.main.body.drop 33) dRow X o hn (fun _ => by kernel_rfl) (by kernel_rfl) (by kernel_rfl) (by kernel_rfl) (by kernel_rfl) (by kernel_rfl) k
theorem st33 (X : Md hs m0 c Pl ps l G Ls s.heap) (o : Old n ps) (hn : Nat.ble n 141 = true)
    (k : ∀ a ps' h' tk, Old 142 ps' → Md hs m0 c Pl ps' ((dGreedy.name, some (.ref a)) :: l) (FnAt Pl dGreedy a :: G) Ls h' → wpAny (model pg w) A (execs (pg.main.body.drop 34) (E0 c F)) Q E (Sx s h' tk)) :
    wpAny (model pg w) A (execs (pg.main.body.drop 33) (E0 c F)) Q E s :=
  m_defO (rest := pg.main.body.drop 34) dGreedy X o hn (fun _ => by kernel_rfl) (by kernel_rfl) (by kernel_rfl) (by kernel_rfl) (by kernel_rfl) (by kernel_rfl) k
theorem st34 (X : Md hs m0 c Pl ps l G Ls s.heap) (o : Old n ps) (hn : Nat.ble n 151 = true)
    (k : ∀ a ps' h' tk, Old 152 ps' → Md hs m0 c Pl ps' ((dOff.name, some (.ref a)) :: l) (FnAt Pl dOff a :: G) Ls h' → wpAny (model pg w) A (execs (pg.main.body.drop 35) (E0 c F)) Q E (Sx s h' tk)) :
    wpAny (model pg w) A (execs (pg.main.body.drop 34) (E0 c F)) Q E s :=
  m_defO (rest := pg.main.body.drop 35) dOff X o hn (fun _ => by kernel_rfl) (by kernel_rfl) (by kernel_rfl) (by kernel_rfl) (by kernel_rfl) (by kernel_rfl) k
theorem st35 (X : Md hs m0 c Pl ps l G Ls s.heap) (o : Old n ps) (hn : Nat.ble n 157 = true)
    (k : ∀ a ps' h' tk, Old 158 ps' → Md hs m0 c Pl ps' ((dOnce.name, some (.ref a)) :: l) (FnAt Pl dOnce a :: G) Ls h' → wpAny (model pg w) A (execs (pg.main.body.drop 36) (E0 c F)) Q E (Sx s h' tk)) :
    wpAny (model pg w) A (execs (pg.main.body.drop 35) (E0 c F)) Q E s :=
  m_defO (rest := pg.main.body.drop 36) dOnce X o hn (fun _ => by kernel_rfl) (by kernel_rfl) (by kernel_rfl) (by kernel_rfl) (by kernel_rfl) (by kernel_rfl) k
theorem st36 (X : Md hs m0 c Pl ps l G Ls s.heap) (o : Old n ps) (hn : Nat.ble n 161 = true)
    (k : ∀ a ps' h' tk, Old 162 ps' → Md hs m0 c Pl ps' ((dHolds.name, some (.ref a)) :: l) (FnAt Pl dHolds a :: G) Ls h' → wpAny (model pg w) A (execs (pg.main.body.drop 37) (E0 c F)) Q E (Sx s h' tk)) :
    wpAny (model pg w) A (execs (pg.main.body.drop 36) (E0 c F)) Q E s :=
  m_defO (rest := pg.main.body.drop 37) dHolds X o hn (fun _ => by kernel_rfl) (by kernel_rfl) (by kernel_rfl) (by kernel_rfl) (by kernel_rfl) (by kernel_rfl) k
theorem st37 (X : Md hs m0 c Pl ps l G Ls s.heap) (o : Old n ps) (hn : Nat.ble n 174 = true)
    (k : ∀ a ps' h' tk, Old 175 ps' → Md hs m0 c Pl ps' ((dLaw.name, some (.ref a)) :: l) (FnAt Pl dLaw a :: G) Ls h' → wpAny (model pg w) A (execs (pg.main.body.drop 38) (E0 c F)) Q E (Sx s h' tk)) :
    wpAny (model pg w) A (execs (pg.main.body.drop 37) (E0 c F)) Q E s :=
  m_defO (rest := pg.main.body.drop 38) dLaw X o hn (fun _ => by kernel_rfl) (by kernel_rfl) (by kernel_rfl) (by kernel_rfl) (by kernel_rfl) (by kernel_rfl) k
/-- the other defs -/
theorem walk4 {l0 : Gl} (X : Md hs m0 c Pl ps l0 G Ls s.heap) (o : Old 50 ps)
    (k : ∀ a1 a2 a3 a4 a5 tn a7 a8 a9 a10 a11 a12 a13 a14 a15 a16 a17 a18 a19 ps h' tk, Md hs m0 c Pl ps ((dLaw.name, some (.ref a19)) :: (dHolds.name, some (.ref a18)) :: (dOnce.name, some (.ref a17)) :: (dOff.name, some (.ref a16)) :: (dGreedy.name, some (.ref a15)) :: (dRow.name, some (.ref a14)) :: (dOpening.name, some (.ref a13)) :: (dLaid.name, some (.ref a12)) :: (dWords.name, some (.ref a11)) :: (dInOrder.name, some (.ref a10)) :: (dSign.name, some (.ref a9)) :: (dOctets.name, some (.ref a8)) :: (dNumbers.name, some (.ref a7)) :: ("__name__", some (.str "law_op0063_01" tn)) :: (dSU.name, some (.ref a5)) :: (dSD.name, some (.ref a4)) :: (dHeapify.name, some (.ref a3)) :: (dPop.name, some (.ref a2)) :: (dPush.name, some (.ref a1)) :: l0) (FnAt Pl dLaw a19 :: FnAt Pl dHolds a18 :: FnAt Pl dOnce a17 :: FnAt Pl dOff a16 :: FnAt Pl dGreedy a15 :: FnAt Pl dRow a14 :: FnAt Pl dOpening a13 :: FnAt Pl dLaid a12 :: FnAt Pl dWords a11 :: FnAt Pl dInOrder a10 :: FnAt Pl dSign a9 :: FnAt Pl dOctets a8 :: FnAt Pl dNumbers a7 :: FnAt Pl dSU a5 :: FnAt Pl dSD a4 :: FnAt Pl dHeapify a3 :: FnAt Pl dPop a2 :: FnAt Pl dPush a1 :: G) Ls h' → Q .next (Sx s h' tk)) :
    wpAny (model pg w) A (execs (pg.main.body.drop 19) (E0 c F)) Q E s := by
  refine st19 (s := s) X o rfl fun a1 ps1 h1 k1 o1 X1 => ?_
  refine st20 (s := (Sx s h1 k1)) X1 o1 rfl fun a2 ps2 h2 k2 o2 X2 => ?_
  refine st21 (s := (Sx s h2 k2)) X2 o2 rfl fun a3 ps3 h3 k3 o3 X3 => ?_
  refine st22 (s := (Sx s h3 k3)) X3 o3 rfl fun a4 ps4 h4 k4 o4 X4 => ?_
  refine st23 (s := (Sx s h4 k4)) X4 o4 rfl fun a5 ps5 h5 k5 o5 X5 => ?_
  refine st24 (s := (Sx s h5 k5)) X5 fun tn h6 k6 X6 => ?_
  refine st25 (s := (Sx s h6 k6)) X6 o5 rfl fun a7 ps7 h7 k7 o7 X7 => ?_
  refine st26 (s := (Sx s h7 k7)) X7 o7 rfl fun a8 ps8 h8 k8 o8 X8 => ?_
  refine st27 (s := (Sx s h8 k8)) X8 o8 rfl fun a9 ps9 h9 k9 o9 X9 => ?_
  refine st28 (s := (Sx s h9 k9)) X9 o9 rfl fun a10 ps10 h10 k10 o10 X10 => ?_
  refine st29 (s := (Sx s h10 k10)) X10 o10 rfl fun a11 ps11 h11 k11 o11 X11 => ?_
  refine st30 (s := (Sx s h11 k11)) X11 o11 rfl fun a12 ps12 h12 k12 o12 X12 => ?_
  refine st31 (s := (Sx s h12 k12)) X12 o12 rfl fun a13 ps13 h13 k13 o13 X13 => ?_
  refine st32 (s := (Sx s h13 k13)) X13 o13 rfl fun a14 ps14 h14 k14 o14 X14 => ?_
  refine st33 (s := (Sx s h14 k14)) X14 o14 rfl fun a15 ps15 h15 k15 o15 X15 => ?_
  refine st34 (s := (Sx s h15 k15)) X15 o15 rfl fun a16 ps16 h16 k16 o16 X16 => ?_
  refine st35 (s := (Sx s h16 k16)) X16 o16 rfl fun a17 ps17 h17 k17 o17 X17 => ?_
  refine st36 (s := (Sx s h17 k17)) X17 o17 rfl fun a18 ps18 h18 k18 o18 X18 => ?_
  refine st37 (s := (Sx s h18 k18)) X18 o18 rfl fun a19 ps19 h19 k19 o19 X19 => ?_
  show wpAny (model pg w) A (execs [] (E0 c F)) Q E (Sx s h19 k19)
  exact wpAny_execs_nil (k a1 a2 a3 a4 a5 tn a7 a8 a9 a10 a11 a12 a13 a14 a15 a16 a17 a18 a19 _ h19 k19 X19)
end
end Mine

namespace Mine
def theDefs : List FD := [dSLD, dCmp, dPush, dPop, dHeapify, dSD, dSU, dNumbers, dOctets, dSign, dInOrder, dWords, dLaid, dOpening, dRow, dGreedy, dOff, dOnce, dHolds, dLaw]
def biNames : List PySem.Str := ["len", "range", "reversed", "bytes", "sorted", "ord", "chr", "list", "IndexError", "sum"]
def HasD (mg : PySem.Str → Option Value) (h : Heap) (d : FD) : Prop := ∃ a o pm cd doc, mg d.name = some (.ref a) ∧ h.get? a = some o ∧ o.data = .func (Calls.docDef d.name d.params d.body d.scope pm cd doc) ∧ h.CodeRec cd d.name
structure Fin (m0 mg : PySem.Str → Option Value) (h : Heap) : Prop where
  defs : ∀ d ∈ theDefs, HasD mg h d
  he : ∃ a o pm cd doc T its n t, mg dHE.name = some (.ref a) ∧ h.get? a = some o ∧ o.data = .func (methDefD dHE.name dHE.name dHE.params dHE.body dHE.scope pm cd doc (.ref T)) ∧ h.CodeRec cd dHE.name ∧ h.get? T = some ({ cls := .type "tuple", data := .seq its n } : Obj) ∧ its = #[.str iso t]
  map : ∃ a, mg "_QUOPRI_HEADER_MAP" = some (.ref a) ∧ LstAt h a hMap
  bi : ∀ x ∈ biNames, mg x = none
  keys : ∀ x v, mg x = some v → x ∈ startupNames ∨ x ∈ pg.boundNames
  laid : ∀ x ∈ ("__builtins__" : PySem.Str) :: laidNames, mg x = m0 x
structure Tp (hs : Heap) (m0 : PySem.Str → Option Value) (h : Heap) : Prop where
  ks : ∀ b o, b ≠ mainGlobals → hs.get? b = some o → h.get? b = some o
  ex : ∃ mg, h.Ns mainGlobals mg ∧ Fin m0 mg h
section
variable {hs h : Heap} {m0 : PySem.Str → Option Value} {c Pl : Addr} {ps : Array Value}
theorem HasD.of {d : FD} {a : Addr} {l : Gl} {G : List (Heap → Prop)} {Ls : List (Addr × (Nat → PySem.Str))} (X : Md hs m0 c Pl ps l G Ls h) (hg : FnAt Pl d a ∈ G) (e : mgOf l m0 d.name = some (.ref a)) : HasD (mgOf l m0) h d :=
  let ⟨_, o, pm, c', doc, _, h1, h2, h3⟩ := (X.facts _ hg).2; ⟨a, o, pm, _, doc, e, h1, h2, h3⟩
theorem keys_of {l : Gl} (H0 : ∀ x, x ∉ bootMainNames → m0 x = none) (hl : (l.map (·.1)).all (fun n => startupNames.contains n || pg.boundNames.contains n) = true) : ∀ x v, mgOf l m0 x = some v → x ∈ startupNames ∨ x ∈ pg.boundNames := fun x v e => by
  by_cases q : x ∈ l.map (·.1)
  · have := List.all_eq_true.mp hl x q
    simpa using this
  · have e2 : l.lookup x = none := by
      cases z : l.lookup x with
      | none => rfl
      | some u =>
        exfalso
        have : (x, u) ∈ l := by
          clear hl e q
          induction l with
          | nil => simp at z
          | cons p r ih =>
            rw [List.lookup_cons] at z
            by_cases w : (x == p.1) = true
            · rw [w] at z
              have : p = (x, u) := by
                have hz : p.2 = u := Option.some.inj z
                have hx : x = p.1 := eq_of_beq w
                rw [← hz, hx]
              rw [this]; exact .head _
            · rw [Bool.not_eq_true] at w
              rw [w] at z
              exact .tail _ (ih z)
        exact q (List.mem_map.mpr ⟨_, this, rfl⟩)
    unfold mgOf at e
    rw [e2] at e
    by_cases w : x ∈ bootMainNames
    · exact .inl ((by decide : ∀ x ∈ bootMainNames, x ∈ startupNames) x w)
    · rw [show m0 x = none from H0 x w] at e; cases e
set_option maxHeartbeats 4000000 in
theorem tp_of {a1 a2 a3 aM aH aB aE b1 b2 b3 b4 b5 b7 b8 b9 b10 b11 b12 b13 b14 b15 b16 b17 b18 b19 : Addr} {t1 q1 q2 q3 q4 q5 r1 tn : Tok} {u1 : Value} {u2 : Option Value} (H0 : ∀ x, x ∉ bootMainNames → m0 x = none)
    (X : Md hs m0 c Pl ps ((dLaw.name, some (.ref b19)) :: (dHolds.name, some (.ref b18)) :: (dOnce.name, some (.ref b17)) :: (dOff.name, some (.ref b16)) :: (dGreedy.name, some (.ref b15)) :: (dRow.name, some (.ref b14)) :: (dOpening.name, some (.ref b13)) :: (dLaid.name, some (.ref b12)) :: (dWords.name, some (.ref b11)) :: (dInOrder.name, some (.ref b10)) :: (dSign.name, some (.ref b9)) :: (dOctets.name, some (.ref b8)) :: (dNumbers.name, some (.ref b7)) :: ("__name__", some (.str "law_op0063_01" tn)) :: (dSU.name, some (.ref b5)) :: (dSD.name, some (.ref b4)) :: (dHeapify.name, some (.ref b3)) :: (dPop.name, some (.ref b2)) :: (dPush.name, some (.ref b1)) :: ("__name__", some (.str "cpy313.heapq" r1)) :: ("c", u2) :: ("_QUOPRI_BODY_ENCODE_MAP", some (.ref aE)) :: (dHE.name, some (.ref a3)) :: ("c", some u1) :: ("__name__", some (.str "cpy313.email.quoprimime" q5)) :: ("digits", some (.str digS q4)) :: ("ascii_letters", some (.str (lowS ++ uppS) q3)) :: ("ascii_uppercase", some (.str uppS q2)) :: ("ascii_lowercase", some (.str lowS q1)) :: ("_QUOPRI_BODY_MAP", some (.ref aB)) :: ("_QUOPRI_HEADER_MAP", some (.ref aH)) :: ("_QUOPRI_MAP", some (.ref aM)) :: (dCmp.name, some (.ref a2)) :: (dSLD.name, some (.ref a1)) :: [("__name__", some (.str "cpy313.unittest.util" t1))]) (FnAt Pl dLaw b19 :: FnAt Pl dHolds b18 :: FnAt Pl dOnce b17 :: FnAt Pl dOff b16 :: FnAt Pl dGreedy b15 :: FnAt Pl dRow b14 :: FnAt Pl dOpening b13 :: FnAt Pl dLaid b12 :: FnAt Pl dWords b11 :: FnAt Pl dInOrder b10 :: FnAt Pl dSign b9 :: FnAt Pl dOctets b8 :: FnAt Pl dNumbers b7 :: FnAt Pl dSU b5 :: FnAt Pl dSD b4 :: FnAt Pl dHeapify b3 :: FnAt Pl dPop b2 :: FnAt Pl dPush b1 :: HEAt Pl a3 :: [FnAt Pl dCmp a2, FnAt Pl dSLD a1]) [(aH, hMap)] h) : Tp hs m0 h := by
  refine ⟨X.ks, _, X.main.g, ⟨fun d hd => ?_, ?_, ⟨aH, by kernel_rfl, (X.lists (aH, hMap) (.head _)).1⟩, fun x hx => ?_, keys_of H0 (by kernel_rfl), fun x hx => ?_⟩⟩
  · unfold theDefs at hd
    rcases List.mem_cons.mp hd with rfl | hd
    · exact HasD.of (a := a1) X (.tail _ (.tail _ (.tail _ (.tail _ (.tail _ (.tail _ (.tail _ (.tail _ (.tail _ (.tail _ (.tail _ (.tail _ (.tail _ (.tail _ (.tail _ (.tail _ (.tail _ (.tail _ (.tail _ (.tail _ (.head _))))))))))))))))))))) (by kernel_rfl)
    rcases List.mem_cons.mp hd with rfl | hd
    · exact HasD.of (a := a2) X (.tail _ (.tail _ (.tail _ (.tail _ (.tail _ (.tail _ (.tail _ (.tail _ (.tail _ (.tail _ (.tail _ (.tail _ (.tail _ (.tail _ (.tail _ (.tail _ (.tail _ (.tail _ (.tail _ (.head _)))))))))))))))))))) (by kernel_rfl)
    rcases List.mem_cons.mp hd with rfl | hd
    · exact HasD.of (a := b1) X (.tail _ (.tail _ (.tail _ (.tail _ (.tail _ (.tail _ (.tail _ (.tail _ (.tail _ (.tail _ (.tail _ (.tail _ (.tail _ (.tail _ (.tail _ (.tail _ (.tail _ (.head _)))))))))))))))))) (by kernel_rfl)
    rcases List.mem_cons.mp hd with rfl | hd
    · exact HasD.of (a := b2) X (.tail _ (.tail _ (.tail _ (.tail _ (.tail _ (.tail _ (.tail _ (.tail _ (.tail _ (.tail _ (.tail _ (.tail _ (.tail _ (.tail _ (.tail _ (.tail _ (.head _))))))))))))))))) (by kernel_rfl)
    rcases List.mem_cons.mp hd with rfl | hd
    · exact HasD.of (a := b3) X (.tail _ (.tail _ (.tail _ (.tail _ (.tail _ (.tail _ (.tail _ (.tail _ (.tail _ (.tail _ (.tail _ (.tail _ (.tail _ (.tail _ (.tail _ (.head _)))))))))))))))) (by kernel_rfl)
    rcases List.mem_cons.mp hd with rfl | hd
    · exact HasD.of (a := b4) X (.tail _ (.tail _ (.tail _ (.tail _ (.tail _ (.tail _ (.tail _ (.tail _ (.tail _ (.tail _ (.tail _ (.tail _ (.tail _ (.tail _ (.head _))))))))))))))) (by kernel_rfl)
    rcases List.mem_cons.mp hd with rfl | hd
    · exact HasD.of (a := b5) X (.tail _ (.tail _ (.tail _ (.tail _ (.tail _ (.tail _ (.tail _ (.tail _ (.tail _ (.tail _ (.tail _ (.tail _ (.tail _ (.head _)))))))))))))) (by kernel_rfl)
    rcases List.mem_cons.mp hd with rfl | hd
    · exact HasD.of (a := b7) X (.tail _ (.tail _ (.tail _ (.tail _ (.tail _ (.tail _ (.tail _ (.tail _ (.tail _ (.tail _ (.tail _ (.tail _ (.head _))))))))))))) (by kernel_rfl)
    rcases List.mem_cons.mp hd with rfl | hd
    · exact HasD.of (a := b8) X (.tail _ (.tail _ (.tail _ (.tail _ (.tail _ (.tail _ (.tail _ (.tail _ (.tail _ (.tail _ (.tail _ (.head _)))))))))))) (by kernel_rfl)
    rcases List.mem_cons.mp hd with rfl | hd
    · exact HasD.of (a := b9) X (.tail _ (.tail _ (.tail _ (.tail _ (.tail _ (.tail _ (.tail _ (.tail _ (.tail _ (.tail _ (.head _))))))))))) (by kernel_rfl)
    rcases List.mem_cons.mp hd with rfl | hd
    · exact HasD.of (a := b10) X (.tail _ (.tail _ (.tail _ (.tail _ (.tail _ (.tail _ (.tail _ (.tail _ (.tail _ (.head _)))))))))) (by kernel_rfl)
    rcases List.mem_cons.mp hd with rfl | hd
    · exact HasD.of (a := b11) X (.tail _ (.tail _ (.tail _ (.tail _ (.tail _ (.tail _ (.tail _ (.tail _ (.head _))))))))) (by kernel_rfl)
    rcases List.mem_cons.mp hd with rfl | hd
    · exact HasD.of (a := b12) X (.tail _ (.tail _ (.tail _ (.tail _ (.tail _ (.tail _ (.tail _ (.head _)))))))) (by kernel_rfl)
    rcases List.mem_cons.mp hd with rfl | hd
    · exact HasD.of (a := b13) X (.tail _ (.tail _ (.tail _ (.tail _ (.tail _ (.tail _ (.head _))))))) (by kernel_rfl)
    rcases List.mem_cons.mp hd with rfl | hd
    · exact HasD.of (a := b14) X (.tail _ (.tail _ (.tail _ (.tail _ (.tail _ (.head _)))))) (by kernel_rfl)
    rcases List.mem_cons.mp hd with rfl | hd
    · exact HasD.of (a := b15) X (.tail _ (.tail _ (.tail _ (.tail _ (.head _))))) (by kernel_rfl)
    rcases List.mem_cons.mp hd with rfl | hd
    · exact HasD.of (a := b16) X (.tail _ (.tail _ (.tail _ (.head _)))) (by kernel_rfl)
    rcases List.mem_cons.mp hd with rfl | hd
    · exact HasD.of (a := b17) X (.tail _ (.tail _ (.head _))) (by kernel_rfl)
    rcases List.mem_cons.mp hd with rfl | hd
    · exact HasD.of (a := b18) X (.tail _ (.head _)) (by kernel_rfl)
    rcases List.mem_cons.mp hd with rfl | hd
    · exact HasD.of (a := b19) X (.head _) (by kernel_rfl)
    · cases hd
  · obtain ⟨_, o, pm, c', doc, T, its, n, t, _, _, h1, h2, h3, h4, h5⟩ := (X.facts (HEAt Pl a3) (.tail _ (.tail _ (.tail _ (.tail _ (.tail _ (.tail _ (.tail _ (.tail _ (.tail _ (.tail _ (.tail _ (.tail _ (.tail _ (.tail _ (.tail _ (.tail _ (.tail _ (.tail _ (.head _)))))))))))))))))))).2
    exact ⟨a3, o, pm, _, doc, T, its, n, t, by kernel_rfl, h1, h2, h3, h4, h5⟩
  · unfold biNames at hx
    rcases List.mem_cons.mp hx with rfl | hx
    · exact (by kernel_rfl : mgOf ((dLaw.name, some (.ref b19)) :: (dHolds.name, some (.ref b18)) :: (dOnce.name, some (.ref b17)) :: (dOff.name, some (.ref b16)) :: (dGreedy.name, some (.ref b15)) :: (dRow.name, some (.ref b14)) :: (dOpening.name, some (.ref b13)) :: (dLaid.name, some (.ref b12)) :: (dWords.name, some (.ref b11)) :: (dInOrder.name, some (.ref b10)) :: (dSign.name, some (.ref b9)) :: (dOctets.name, some (.ref b8)) :: (dNumbers.name, some (.ref b7)) :: ("__name__", some (.str "law_op0063_01" tn)) :: (dSU.name, some (.ref b5)) :: (dSD.name, some (.ref b4)) :: (dHeapify.name, some (.ref b3)) :: (dPop.name, some (.ref b2)) :: (dPush.name, some (.ref b1)) :: ("__name__", some (.str "cpy313.heapq" r1)) :: ("c", u2) :: ("_QUOPRI_BODY_ENCODE_MAP", some (.ref aE)) :: (dHE.name, some (.ref a3)) :: ("c", some u1) :: ("__name__", some (.str "cpy313.email.quoprimime" q5)) :: ("digits", some (.str digS q4)) :: ("ascii_letters", some (.str (lowS ++ uppS) q3)) :: ("ascii_uppercase", some (.str uppS q2)) :: ("ascii_lowercase", some (.str lowS q1)) :: ("_QUOPRI_BODY_MAP", some (.ref aB)) :: ("_QUOPRI_HEADER_MAP", some (.ref aH)) :: ("_QUOPRI_MAP", some (.ref aM)) :: (dCmp.name, some (.ref a2)) :: (dSLD.name, some (.ref a1)) :: [("__name__", some (.str "cpy313.unittest.util" t1))]) m0 "len" = m0 "len").trans (H0 _ (by decide))
    rcases List.mem_cons.mp hx with rfl | hx
    · exact (by kernel_rfl : mgOf ((dLaw.name, some (.ref b19)) :: (dHolds.name, some (.ref b18)) :: (dOnce.name, some (.ref b17)) :: (dOff.name, some (.ref b16)) :: (dGreedy.name, some (.ref b15)) :: (dRow.name, some (.ref b14)) :: (dOpening.name, some (.ref b13)) :: (dLaid.name, some (.ref b12)) :: (dWords.name, some (.ref b11)) :: (dInOrder.name, some (.ref b10)) :: (dSign.name, some (.ref b9)) :: (dOctets.name, some (.ref b8)) :: (dNumbers.name, some (.ref b7)) :: ("__name__", some (.str "law_op0063_01" tn)) :: (dSU.name, some (.ref b5)) :: (dSD.name, some (.ref b4)) :: (dHeapify.name, some (.ref b3)) :: (dPop.name, some (.ref b2)) :: (dPush.name, some (.ref b1)) :: ("__name__", some (.str "cpy313.heapq" r1)) :: ("c", u2) :: ("_QUOPRI_BODY_ENCODE_MAP", some (.ref aE)) :: (dHE.name, some (.ref a3)) :: ("c", some u1) :: ("__name__", some (.str "cpy313.email.quoprimime" q5)) :: ("digits", some (.str digS q4)) :: ("ascii_letters", some (.str (lowS ++ uppS) q3)) :: ("ascii_uppercase", some (.str uppS q2)) :: ("ascii_lowercase", some (.str lowS q1)) :: ("_QUOPRI_BODY_MAP", some (.ref aB)) :: ("_QUOPRI_HEADER_MAP", some (.ref aH)) :: ("_QUOPRI_MAP", some (.ref aM)) :: (dCmp.name, some (.ref a2)) :: (dSLD.name, some (.ref a1)) :: [("__name__", some (.str "cpy313.unittest.util" t1))]) m0 "range" = m0 "range").trans (H0 _ (by decide))
    rcases List.mem_cons.mp hx with rfl | hx
    · exact (by kernel_rfl : mgOf ((dLaw.name, some (.ref b19)) :: (dHolds.name, some (.ref b18)) :: (dOnce.name, some (.ref b17)) :: (dOff.name, some (.ref b16)) :: (dGreedy.name, some (.ref b15)) :: (dRow.name, some (.ref b14)) :: (dOpening.name, some (.ref b13)) :: (dLaid.name, some (.ref b12)) :: (dWords.name, some (.ref b11)) :: (dInOrder.name, some (.ref b10)) :: (dSign.name, some (.ref b9)) :: (dOctets.name, some (.ref b8)) :: (dNumbers.name, some (.ref b7)) :: ("__name__", some (.str "law_op0063_01" tn)) :: (dSU.name, some (.ref b5)) :: (dSD.name, some (.ref b4)) :: (dHeapify.name, some (.ref b3)) :: (dPop.name, some (.ref b2)) :: (dPush.name, some (.ref b1)) :: ("__name__", some (.str "cpy313.heapq" r1)) :: ("c", u2) :: ("_QUOPRI_BODY_ENCODE_MAP", some (.ref aE)) :: (dHE.name, some (.ref a3)) :: ("c", some u1) :: ("__name__", some (.str "cpy313.email.quoprimime" q5)) :: ("digits", some (.str digS q4)) :: ("ascii_letters", some (.str (lowS ++ uppS) q3)) :: ("ascii_uppercase", some (.str uppS q2)) :: ("ascii_lowercase", some (.str lowS q1)) :: ("_QUOPRI_BODY_MAP", some (.ref aB)) :: ("_QUOPRI_HEADER_MAP", some (.ref aH)) :: ("_QUOPRI_MAP", some (.ref aM)) :: (dCmp.name, some (.ref a2)) :: (dSLD.name, some (.ref a1)) :: [("__name__", some (.str "cpy313.unittest.util" t1))]) m0 "reversed" = m0 "reversed").trans (H0 _ (by decide))
    rcases List.mem_cons.mp hx with rfl | hx
    · exact (by kernel_rfl : mgOf ((dLaw.name, some (.ref b19)) :: (dHolds.name, some (.ref b18)) :: (dOnce.name, some (.ref b17)) :: (dOff.name, some (.ref b16)) :: (dGreedy.name, some (.ref b15)) :: (dRow.name, some (.ref b14)) :: (dOpening.name, some (.ref b13)) :: (dLaid.name, some (.ref b12)) :: (dWords.name, some (.ref b11)) :: (dInOrder.name, some (.ref b10)) :: (dSign.name, some (.ref b9)) :: (dOctets.name, some (.ref b8)) :: (dNumbers.name, some (.ref b7)) :: ("__name__", some (.str "law_op0063_01" tn)) :: (dSU.name, some (.ref b5)) :: (dSD.name, some (.ref b4)) :: (dHeapify.name, some (.ref b3)) :: (dPop.name, some (.ref b2)) :: (dPush.name, some (.ref b1)) :: ("__name__", some (.str "cpy313.heapq" r1)) :: ("c", u2) :: ("_QUOPRI_BODY_ENCODE_MAP", some (.ref aE)) :: (dHE.name, some (.ref a3)) :: ("c", some u1) :: ("__name__", some (.str "cpy313.email.quoprimime" q5)) :: ("digits", some (.str digS q4)) :: ("ascii_letters", some (.str (lowS ++ uppS) q3)) :: ("ascii_uppercase", some (.str uppS q2)) :: ("ascii_lowercase", some (.str lowS q1)) :: ("_QUOPRI_BODY_MAP", some (.ref aB)) :: ("_QUOPRI_HEADER_MAP", some (.ref aH)) :: ("_QUOPRI_MAP", some (.ref aM)) :: (dCmp.name, some (.ref a2)) :: (dSLD.name, some (.ref a1)) :: [("__name__", some (.str "cpy313.unittest.util" t1))]) m0 "bytes" = m0 "bytes").trans (H0 _ (by decide))
    rcases List.mem_cons.mp hx with rfl | hx
    · exact (by kernel_rfl : mgOf ((dLaw.name, some (.ref b19)) :: (dHolds.name, some (.ref b18)) :: (dOnce.name, some (.ref b17)) :: (dOff.name, some (.ref b16)) :: (dGreedy.name, some (.ref b15)) :: (dRow.name, some (.ref b14)) :: (dOpening.name, some (.ref b13)) :: (dLaid.name, some (.ref b12)) :: (dWords.name, some (.ref b11)) :: (dInOrder.name, some (.ref b10)) :: (dSign.name, some (.ref b9)) :: (dOctets.name, some (.ref b8)) :: (dNumbers.name, some (.ref b7)) :: ("__name__", some (.str "law_op0063_01" tn)) :: (dSU.name, some (.ref b5)) :: (dSD.name, some (.ref b4)) :: (dHeapify.name, some (.ref b3)) :: (dPop.name, some (.ref b2)) :: (dPush.name, some (.ref b1)) :: ("__name__", some (.str "cpy313.heapq" r1)) :: ("c", u2) :: ("_QUOPRI_BODY_ENCODE_MAP", some (.ref aE)) :: (dHE.name, some (.ref a3)) :: ("c", some u1) :: ("__name__", some (.str "cpy313.email.quoprimime" q5)) :: ("digits", some (.str digS q4)) :: ("ascii_letters", some (.str (lowS ++ uppS) q3)) :: ("ascii_uppercase", some (.str uppS q2)) :: ("ascii_lowercase", some (.str lowS q1)) :: ("_QUOPRI_BODY_MAP", some (.ref aB)) :: ("_QUOPRI_HEADER_MAP", some (.ref aH)) :: ("_QUOPRI_MAP", some (.ref aM)) :: (dCmp.name, some (.ref a2)) :: (dSLD.name, some (.ref a1)) :: [("__name__", some (.str "cpy313.unittest.util" t1))]) m0 "sorted" = m0 "sorted").trans (H0 _ (by decide))
    rcases List.mem_cons.mp hx with rfl | hx
    · exact (by kernel_rfl : mgOf ((dLaw.name, some (.ref b19)) :: (dHolds.name, some (.ref b18)) :: (dOnce.name, some (.ref b17)) :: (dOff.name, some (.ref b16)) :: (dGreedy.name, some (.ref b15)) :: (dRow.name, some (.ref b14)) :: (dOpening.name, some (.ref b13)) :: (dLaid.name, some (.ref b12)) :: (dWords.name, some (.ref b11)) :: (dInOrder.name, some (.ref b10)) :: (dSign.name, some (.ref b9)) :: (dOctets.name, some (.ref b8)) :: (dNumbers.name, some (.ref b7)) :: ("__name__", some (.str "law_op0063_01" tn)) :: (dSU.name, some (.ref b5)) :: (dSD.name, some (.ref b4)) :: (dHeapify.name, some (.ref b3)) :: (dPop.name, some (.ref b2)) :: (dPush.name, some (.ref b1)) :: ("__name__", some (.str "cpy313.heapq" r1)) :: ("c", u2) :: ("_QUOPRI_BODY_ENCODE_MAP", some (.ref aE)) :: (dHE.name, some (.ref a3)) :: ("c", some u1) :: ("__name__", some (.str "cpy313.email.quoprimime" q5)) :: ("digits", some (.str digS q4)) :: ("ascii_letters", some (.str (lowS ++ uppS) q3)) :: ("ascii_uppercase", some (.str uppS q2)) :: ("ascii_lowercase", some (.str lowS q1)) :: ("_QUOPRI_BODY_MAP", some (.ref aB)) :: ("_QUOPRI_HEADER_MAP", some (.ref aH)) :: ("_QUOPRI_MAP", some (.ref aM)) :: (dCmp.name, some (.ref a2)) :: (dSLD.name, some (.ref a1)) :: [("__name__", some (.str "cpy313.unittest.util" t1))]) m0 "ord" = m0 "ord").trans (H0 _ (by decide))
    rcases List.mem_cons.mp hx with rfl | hx
    · exact (by kernel_rfl : mgOf ((dLaw.name, some (.ref b19)) :: (dHolds.name, some (.ref b18)) :: (dOnce.name, some (.ref b17)) :: (dOff.name, some (.ref b16)) :: (dGreedy.name, some (.ref b15)) :: (dRow.name, some (.ref b14)) :: (dOpening.name, some (.ref b13)) :: (dLaid.name, some (.ref b12)) :: (dWords.name, some (.ref b11)) :: (dInOrder.name, some (.ref b10)) :: (dSign.name, some (.ref b9)) :: (dOctets.name, some (.ref b8)) :: (dNumbers.name, some (.ref b7)) :: ("__name__", some (.str "law_op0063_01" tn)) :: (dSU.name, some (.ref b5)) :: (dSD.name, some (.ref b4)) :: (dHeapify.name, some (.ref b3)) :: (dPop.name, some (.ref b2)) :: (dPush.name, some (.ref b1)) :: ("__name__", some (.str "cpy313.heapq" r1)) :: ("c", u2) :: ("_QUOPRI_BODY_ENCODE_MAP", some (.ref aE)) :: (dHE.name, some (.ref a3)) :: ("c", some u1) :: ("__name__", some (.str "cpy313.email.quoprimime" q5)) :: ("digits", some (.str digS q4)) :: ("ascii_letters", some (.str (lowS ++ uppS) q3)) :: ("ascii_uppercase", some (.str uppS q2)) :: ("ascii_lowercase", some (.str lowS q1)) :: ("_QUOPRI_BODY_MAP", some (.ref aB)) :: ("_QUOPRI_HEADER_MAP", some (.ref aH)) :: ("_QUOPRI_MAP", some (.ref aM)) :: (dCmp.name, some (.ref a2)) :: (dSLD.name, some (.ref a1)) :: [("__name__", some (.str "cpy313.unittest.util" t1))]) m0 "chr" = m0 "chr").trans (H0 _ (by decide))
    rcases List.mem_cons.mp hx with rfl | hx
    · exact (by kernel_rfl : mgOf ((dLaw.name, some (.ref b19)) :: (dHolds.name, some (.ref b18)) :: (dOnce.name, some (.ref b17)) :: (dOff.name, some (.ref b16)) :: (dGreedy.name, some (.ref b15)) :: (dRow.name, some (.ref b14)) :: (dOpening.name, some (.ref b13)) :: (dLaid.name, some (.ref b12)) :: (dWords.name, some (.ref b11)) :: (dInOrder.name, some (.ref b10)) :: (dSign.name, some (.ref b9)) :: (dOctets.name, some (.ref b8)) :: (dNumbers.name, some (.ref b7)) :: ("__name__", some (.str "law_op0063_01" tn)) :: (dSU.name, some (.ref b5)) :: (dSD.name, some (.ref b4)) :: (dHeapify.name, some (.ref b3)) :: (dPop.name, some (.ref b2)) :: (dPush.name, some (.ref b1)) :: ("__name__", some (.str "cpy313.heapq" r1)) :: ("c", u2) :: ("_QUOPRI_BODY_ENCODE_MAP", some (.ref aE)) :: (dHE.name, some (.ref a3)) :: ("c", some u1) :: ("__name__", some (.str "cpy313.email.quoprimime" q5)) :: ("digits", some (.str digS q4)) :: ("ascii_letters", some (.str (lowS ++ uppS) q3)) :: ("ascii_uppercase", some (.str uppS q2)) :: ("ascii_lowercase", some (.str lowS q1)) :: ("_QUOPRI_BODY_MAP", some (.ref aB)) :: ("_QUOPRI_HEADER_MAP", some (.ref aH)) :: ("_QUOPRI_MAP", some (.ref aM)) :: (dCmp.name, some (.ref a2)) :: (dSLD.name, some (.ref a1)) :: [("__name__", some (.str "cpy313.unittest.util" t1))]) m0 "list" = m0 "list").trans (H0 _ (by decide))
    rcases List.mem_cons.mp hx with rfl | hx
    · exact (by kernel_rfl : mgOf ((dLaw.name, some (.ref b19)) :: (dHolds.name, some (.ref b18)) :: (dOnce.name, some (.ref b17)) :: (dOff.name, some (.ref b16)) :: (dGreedy.name, some (.ref b15)) :: (dRow.name, some (.ref b14)) :: (dOpening.name, some (.ref b13)) :: (dLaid.name, some (.ref b12)) :: (dWords.name, some (.ref b11)) :: (dInOrder.name, some (.ref b10)) :: (dSign.name, some (.ref b9)) :: (dOctets.name, some (.ref b8)) :: (dNumbers.name, some (.ref b7)) :: ("__name__", some (.str "law_op0063_01" tn)) :: (dSU.name, some (.ref b5)) :: (dSD.name, some (.ref b4)) :: (dHeapify.name, some (.ref b3)) :: (dPop.name, some (.ref b2)) :: (dPush.name, some (.ref b1)) :: ("__name__", some (.str "cpy313.heapq" r1)) :: ("c", u2) :: ("_QUOPRI_BODY_ENCODE_MAP", some (.ref aE)) :: (dHE.name, some (.ref a3)) :: ("c", some u1) :: ("__name__", some (.str "cpy313.email.quoprimime" q5)) :: ("digits", some (.str digS q4)) :: ("ascii_letters", some (.str (lowS ++ uppS) q3)) :: ("ascii_uppercase", some (.str uppS q2)) :: ("ascii_lowercase", some (.str lowS q1)) :: ("_QUOPRI_BODY_MAP", some (.ref aB)) :: ("_QUOPRI_HEADER_MAP", some (.ref aH)) :: ("_QUOPRI_MAP", some (.ref aM)) :: (dCmp.name, some (.ref a2)) :: (dSLD.name, some (.ref a1)) :: [("__name__", some (.str "cpy313.unittest.util" t1))]) m0 "IndexError" = m0 "IndexError").trans (H0 _ (by decide))
    rcases List.mem_cons.mp hx with rfl | hx
    · exact (by kernel_rfl : mgOf ((dLaw.name, some (.ref b19)) :: (dHolds.name, some (.ref b18)) :: (dOnce.name, some (.ref b17)) :: (dOff.name, some (.ref b16)) :: (dGreedy.name, some (.ref b15)) :: (dRow.name, some (.ref b14)) :: (dOpening.name, some (.ref b13)) :: (dLaid.name, some (.ref b12)) :: (dWords.name, some (.ref b11)) :: (dInOrder.name, some (.ref b10)) :: (dSign.name, some (.ref b9)) :: (dOctets.name, some (.ref b8)) :: (dNumbers.name, some (.ref b7)) :: ("__name__", some (.str "law_op0063_01" tn)) :: (dSU.name, some (.ref b5)) :: (dSD.name, some (.ref b4)) :: (dHeapify.name, some (.ref b3)) :: (dPop.name, some (.ref b2)) :: (dPush.name, some (.ref b1)) :: ("__name__", some (.str "cpy313.heapq" r1)) :: ("c", u2) :: ("_QUOPRI_BODY_ENCODE_MAP", some (.ref aE)) :: (dHE.name, some (.ref a3)) :: ("c", some u1) :: ("__name__", some (.str "cpy313.email.quoprimime" q5)) :: ("digits", some (.str digS q4)) :: ("ascii_letters", some (.str (lowS ++ uppS) q3)) :: ("ascii_uppercase", some (.str uppS q2)) :: ("ascii_lowercase", some (.str lowS q1)) :: ("_QUOPRI_BODY_MAP", some (.ref aB)) :: ("_QUOPRI_HEADER_MAP", some (.ref aH)) :: ("_QUOPRI_MAP", some (.ref aM)) :: (dCmp.name, some (.ref a2)) :: (dSLD.name, some (.ref a1)) :: [("__name__", some (.str "cpy313.unittest.util" t1))]) m0 "sum" = m0 "sum").trans (H0 _ (by decide))
    · cases hx
  · unfold laidNames at hx
    rcases List.mem_cons.mp hx with rfl | hx
    · kernel_rfl
    rcases List.mem_cons.mp hx with rfl | hx
    · kernel_rfl
    rcases List.mem_cons.mp hx with rfl | hx
    · kernel_rfl
    rcases List.mem_cons.mp hx with rfl | hx
    · kernel_rfl
    rcases List.mem_cons.mp hx with rfl | hx
    · kernel_rfl
    rcases List.mem_cons.mp hx with rfl | hx
    · kernel_rfl
    · cases hx
end
end Mine

namespace Mine
theorem pg_anns : hasAnns pg.main.body = false := by kernel_rfl
theorem pg_doc : docOf pg.main.body = none := by kernel_rfl
theorem walk_all {w : World} {A : Around} {s : Shared} {hs : Heap} {m0 mb : PySem.Str → Option Value} {c Pl F : Addr} {Q : Flow → Shared → Prop} {E : Value → Shared → Prop} (hh : A.handled = none) (X : Md hs m0 c Pl #[] [] [] [] s.heap) (B : Bt hs mb) (H0 : ∀ x, x ∉ bootMainNames → m0 x = none)
    (k : ∀ h' tk, Tp hs m0 h' → Q .next (Sx s h' tk)) : wpAny (model pg w) A (execs pg.main.body (E0 c F)) Q E s := by
  refine walk1 hh X B H0 fun a1 a2 c1 c2 t1 aM aH aB h1 k1 X1 => ?_
  have nd := X1.nd
  simp only [List.map_cons, List.map_nil, List.nodup_cons, List.mem_cons, List.not_mem_nil, or_false, not_or] at nd
  refine walk2 (s := Sx s h1 k1) (aH := aH) (aB := aB) (aM := aM) hh B ((by kernel_rfl : _ = m0 "ord").trans (H0 _ (by decide))) ((by kernel_rfl : _ = m0 "chr").trans (H0 _ (by decide))) (by kernel_rfl) (by kernel_rfl) nd.1.1 (Ne.symm nd.2.1) (Ne.symm nd.1.2) X1 fun q1 q2 q3 q4 q5 u1 fB h2 k2 X2 => ?_
  refine walk3 (s := Sx s h2 k2) (aB := aB) (u0 := some u1) hh B (by kernel_rfl) ((by kernel_rfl : _ = m0 "chr").trans (H0 _ (by decide))) (by kernel_rfl) X2 fun a3 c3 r1 aE u2 h3 k3 X3 => ?_
  have o : Old 50 (#[] ++ #[rawInt 2, rawInt 0, .ref c1] ++ #[rawInt 34, rawInt 0, .ref c2] ++ #[rawInt 49, rawInt 0, .ref c3]) :=
    Old.snoc (pos := ⟨49, 0, 53, 45⟩) (n := 35) (Old.snoc (pos := ⟨34, 0, 35, 28⟩) (n := 3) (Old.snoc (pos := ⟨2, 0, 33, 32⟩) Old.nil (by decide)) (by decide)) (by decide)
  refine walk4 (s := Sx s h3 k3) X3 o ?_
  intros
  exact k _ _ (tp_of H0 (by assumption))
theorem top_wp {w : World} {s : Shared} {mb m0 : PySem.Str → Option Value} (Bo : Booted s mb m0) :
    wpAny (model pg w) callerA (topStub pg).cur (fun fin s' => fin = .done (.ret .none) ∧ (Tp s.heap m0 s'.heap ∧ s'.os = s.os) ∧ s'.gens = #[]) (fun _ _ => False) s := by
  show wpAny _ _ (moduleCode pg.main >>= _) _ _ _
  refine wpAny_bind (wpAny_moduleCode fun c Pl h1 tk1 hk1 hc hPl hcode => ?_)
  unfold newBodyFrame
  refine wpAny_bind (wpAny_bind (wpAny_nsGet (Bo.g.keeps hk1) (wpAny_alloc ?_)))
  rw [bh_behind]
  refine wpAny_bind (wpAny_run (codeAny_body pg_anns pg_doc ?_))
  obtain ⟨bm, ob, b1, b2, b3, b4, b5⟩ := Bo.bm
  generalize hob : ({ cls := Value.type "frame", slots := _ } : Obj) = ob'
  have kp : Ext s.heap (h1.push ob') := fun b o e => Heap.get?_push_of_some _ (hk1 b o e)
  have gl := Bo.g.lt
  have X : Md s.heap m0 c Pl #[] [] [] [] (h1.push ob') := by
    refine ⟨⟨Bo.g.keeps kp, hcode.push _, ⟨Nat.lt_of_lt_of_le gl hc, Nat.lt_of_lt_of_le gl hPl⟩, ⟨bm, ob, b1, b2, b3, fun q => ?_, kp _ _ b4, b5⟩⟩, fun b o _ e => kp b o e, ?_, ?_, (fun g hg => nomatch hg), (fun p hp => nomatch hp), List.nodup_nil⟩
    · rw [q] at b4; exact absurd (Heap.lt_size b4) (Nat.not_lt.mpr hPl)
    · cases z : s.heap.get? Pl with
      | none => rfl
      | some o => exact absurd (Heap.lt_size z) (Nat.not_lt.mpr hPl)
    · obtain ⟨o, _, _, e, _⟩ := Bo.g
      exact ⟨o, e⟩
  refine walk_all (s := Sx s (h1.push ob') tk1) (hs := s.heap) (m0 := m0) (mb := mb) (c := c) (Pl := Pl) ?hh X ⟨Bo.b, Bo.bi⟩ Bo.others fun h' tk T => ?_
  case hh => rfl
  exact wpAny_pure ⟨rfl, ⟨T, rfl⟩, Bo.gens⟩
end Mine

open PySem.Claim2Try (globalOf_of_ns)
open PySem.Pin (builtinOf_of_ns staticOf_of_ns)
namespace Mine
theorem chrN_eq : ∀ (l : List Nat) (f : Nat → PySem.Str) (j : Nat), chrN f l j = if l.contains j then ⟨#[j]⟩ else f j
  | [], f, j => rfl
  | c :: l, f, j => by
    show chrN (fun j => if j = c then ⟨#[c]⟩ else f j) l j = _
    rw [chrN_eq l]
    by_cases h1 : j = c
    · subst h1; simp
    · simp [h1]
def l1 : List Nat := [45, 33, 42, 43, 47, 97, 98, 99, 100, 101, 102, 103, 104, 105, 106, 107, 108, 109, 110, 111, 112, 113, 114, 115, 116, 117, 118, 119, 120, 121, 122, 65, 66, 67, 68, 69, 70, 71, 72, 73, 74, 75, 76, 77, 78, 79, 80, 81, 82, 83, 84, 85, 86, 87, 88, 89, 90, 48, 49, 50, 51, 52, 53, 54, 55, 56, 57]
theorem bs1_l1 : bs1.toList.map (·.toNat) = l1 := by decide +kernel
theorem hMap_L : ∀ c, c < 256 → (if c = 32 then [95] else if l1.contains c then [c] else [61, figN' (c / 16), figN' (c % 16)]) = signL c := by decide +kernel
theorem hMap_sign : ∀ c, c < 256 → hMap c = signF c := fun c hc => str_ext (by
  rw [sign_toList, ← hMap_L c hc]
  unfold hMap
  rw [bs1_l1, chrN_eq]
  by_cases h1 : c = 32
  · rw [if_pos h1, if_pos h1]; exact blS_eq
  · rw [if_neg h1, if_neg h1]
    by_cases h2 : l1.contains c = true
    · rw [if_pos h2, if_pos h2]
    · rw [if_neg h2, if_neg h2]; rfl)
theorem boot_reversed' : bootBuiltins "reversed" = some (.type "reversed") := by kernel_rfl
theorem boot_sorted' : bootBuiltins "sorted" = some (.builtin "sorted") := by kernel_rfl
theorem boot_ie' : bootBuiltins "IndexError" = some (.type "IndexError") := by kernel_rfl
/-! behind the top -/
abbrev lr : OpenRow := PySem.Challenge.rw_op0063_01.row
theorem gets_main {hs h : Heap} {m0 : PySem.Str → Option Value} (T : Tp hs m0 h) : ∀ b o, hs.get? b = some o → b ≠ mainGlobals → h.get? b = some o := fun b o e hb => T.ks b o hb e
theorem ns_kept {hs h : Heap} {m0 m : PySem.Str → Option Value} {a : Addr} (T : Tp hs m0 h) (n : hs.Ns a m) (ha : a ≠ mainGlobals) : h.Ns a m :=
  let ⟨o, es, ep, e, r⟩ := n; ⟨o, es, ep, T.ks _ _ ha e, r⟩
theorem top_ran_pg {w : World} {s₀ s₁ : Shared} {mb m0 : PySem.Str → Option Value} {n : Nat} {t : Thread} (Bo : Booted s₀ mb m0) (h1 : schedN (denote table) pg w n (.single s₀ (topStub pg)) = .running (.single s₁ t)) (h2 : through t = true) (hl : s₁.heap.life = s₀.heap.life)
    (T : Tp s₀.heap m0 s₁.heap) (hos : s₁.os = s₀.os) (hg : s₁.gens = #[]) : TopRan pg w s₀ s₁ := by
  obtain ⟨mg, hn, F⟩ := T.ex
  have st1 : s₁.heap.Ns cStatics (fun _ => none) := ns_kept T Bo.statics (by decide)
  have bt1 : s₁.heap.Ns builtinsNs mb := ns_kept T Bo.b (by decide)
  refine ⟨⟨n, t, h1, h2⟩, hl, Shared.rest_eq hos, fun b o e hb => T.ks b o (fun q => hb (.inl q)) e, ?_, ?_, ?_, ?_, ?_, ?_, ?_, ?_⟩
  · rw [bh_imp]
    intro key v hv
    rw [staticOf_of_ns st1] at hv; cases hv
  · intro key
    exact .inl (by rw [staticOf_of_ns st1, staticOf_of_ns Bo.statics])
  · obtain ⟨o, es, ep, e, d, k, _⟩ := hn
    exact ⟨o, es, ep, e, d, k⟩
  · intro x hx
    rw [builtinOf_of_ns bt1, Bo.bi x hx]; rfl
  · obtain ⟨bm, o, b1, b2, b3, b4, b5, b6, b7⟩ := Bo.bm
    exact ⟨bm, o, (globalOf_of_ns hn _).trans ((F.laid _ (.head _)).trans b1), T.ks _ _ b3 b4, b5, b6⟩
  · intro g q
    rw [hg] at q; simp at q
  · intro x v e
    rw [globalOf_of_ns hn] at e
    exact F.keys x v e
  · intro x hx
    rw [globalOf_of_ns hn, globalOf_of_ns Bo.g]
    exact F.laid x (.tail _ hx)
theorem the_law {m0 mg : PySem.Str → Option Value} {h : Heap} (hn : h.Ns mainGlobals mg) (F : Fin m0 mg h) : isTheDefsW pg h "law" := by
  obtain ⟨a, o, pm, cd, doc, h1, h2, h3, h4⟩ := F.defs dLaw (by unfold theDefs; simp)
  exact ⟨a, o, _, dLaw.params, dLaw.body, dLaw.scope, (globalOf_of_ns hn _).trans h1, h2, h3, by kernel_rfl, rfl, rfl, rfl, rfl, rfl, rfl, rfl, rfl, .inl ⟨rfl, rfl⟩, [], rfl, .inl ⟨rfl, rfl⟩⟩
theorem items_ints {cl : PySem.Str → Option Addr} {h : Heap} : ∀ (xs : List WData) (vs : List Value) (as : List Addr), WShape.hasItems lr.records xs .int = true → ReadsAllW [] cl h vs xs as → ∀ v ∈ vs, ∃ i t, v = .int i t
  | [], _, _, _, .nil => fun v q => nomatch q
  | x :: xs, _, _, hh, .cons x1 r1 => fun v hv => by
    rcases List.mem_cons.mp hv with rfl | hv
    · obtain ⟨i, rfl⟩ := hasW_int (hasItemsW_at hh x (.head _))
      obtain ⟨t, rfl, _⟩ := readsW_int_inv x1
      exact ⟨i, t, rfl⟩
    · exact items_ints xs _ _ (by
        have hh' : (WShape.has lr.records x .int && WShape.hasItems lr.records xs .int) = true := hh
        exact (Bool.and_eq_true_iff.mp hh').2) r1 v hv
theorem script_of {args : List WData} {cl : PySem.Str → Option Addr} {h : Heap} {vs : List Value} {as : List Addr} (hpre : lr.toRowW.claim.pre args = true) (hrd : ReadsAllW [] cl h vs args as) : ∃ a its, vs = [.ref a] ∧ h.IsList a its ∧ AllInts its ∧ its.size ≤ 63 := by
  obtain ⟨h1, h2⟩ := pre_splitW hpre
  obtain ⟨d, r, rfl, h3, h4⟩ := hasAllW_cons h1
  obtain rfl := hasAllW_nil h4
  obtain ⟨xs, rfl, hi⟩ := hasW_list h3
  cases hrd with
  | cons x r =>
    cases r
    obtain ⟨a, its, as', rfl, hl, hr, _⟩ := readsW_list_inv x
    refine ⟨a, its, rfl, hl, fun v hv => items_ints xs _ _ hi hr v (by simpa using hv), ?_⟩
    have hlen := hr.length
    have hv := w_and (R := lr.records) (e := { args := [.list xs] }) (w_not (w_lt (w_lit (d := .int 63)) (w_len_list (w_arg (i := 0) rfl)))) (w_lit (d := .bool true))
    have h2' := (holdsW_of_value hv).symm.trans h2
    simp only [Bool.and_true, Bool.not_eq_true', decide_eq_false_iff_not] at h2'
    simp only [Array.length_toList] at hlen
    omega
end Mine

open PySem.Claim2Try (globalOf_of_ns)
namespace Mine
theorem fns_of {w : World} {β : Bs} {m0 : PySem.Str → Option Value} (F : Fin m0 β.mg β.hb) : Nonempty (LawFns ⟨pg, w, β⟩) ∧ ∃ f, β.HasDef dLaw f := by
  have D : ∀ d ∈ theDefs, ∃ a, β.HasDef d a := fun d hd => by
    obtain ⟨a, o, pm, cd, doc, h⟩ := F.defs d hd
    exact ⟨a, o, pm, cd, doc, h⟩
  obtain ⟨x1, y1⟩ := D dSLD (by simp [theDefs])
  obtain ⟨x2, y2⟩ := D dCmp (by simp [theDefs])
  obtain ⟨x3, y3⟩ := D dPush (by simp [theDefs])
  obtain ⟨x4, y4⟩ := D dPop (by simp [theDefs])
  obtain ⟨x5, y5⟩ := D dHeapify (by simp [theDefs])
  obtain ⟨x6, y6⟩ := D dSD (by simp [theDefs])
  obtain ⟨x7, y7⟩ := D dSU (by simp [theDefs])
  obtain ⟨x8, y8⟩ := D dNumbers (by simp [theDefs])
  obtain ⟨x9, y9⟩ := D dOctets (by simp [theDefs])
  obtain ⟨x10, y10⟩ := D dSign (by simp [theDefs])
  obtain ⟨x11, y11⟩ := D dInOrder (by simp [theDefs])
  obtain ⟨x12, y12⟩ := D dWords (by simp [theDefs])
  obtain ⟨x13, y13⟩ := D dLaid (by simp [theDefs])
  obtain ⟨x14, y14⟩ := D dOpening (by simp [theDefs])
  obtain ⟨x15, y15⟩ := D dRow (by simp [theDefs])
  obtain ⟨x16, y16⟩ := D dGreedy (by simp [theDefs])
  obtain ⟨x17, y17⟩ := D dOff (by simp [theDefs])
  obtain ⟨x18, y18⟩ := D dOnce (by simp [theDefs])
  obtain ⟨x19, y19⟩ := D dHolds (by simp [theDefs])
  obtain ⟨x20, y20⟩ := D dLaw (by simp [theDefs])
  obtain ⟨ah, hhe⟩ : ∃ a, β.HasHE a := by
    obtain ⟨a, o, pm, cd, doc, T, its, n, t, h⟩ := F.he
    exact ⟨a, o, pm, cd, doc, T, its, n, t, h⟩
  have hmap : β.HasMap := by
    obtain ⟨a, h1, its, n, h2, h3, h4⟩ := F.map
    refine ⟨a, h1, ⟨its, ⟨_, h2, rfl, n, rfl⟩, fun c hc => ?_⟩⟩
    obtain ⟨t, ht⟩ := h4 c hc
    exact ⟨t, by rw [ht, hMap_sign c hc]⟩
  have bn : ∀ {x : PySem.Str} {u : Value}, x ∈ biNames → bootBuiltins x = some u → Bn β x u := fun hx hb => ⟨F.bi _ hx, hb⟩
  have H : HeapFns ⟨pg, w, β⟩ := ⟨x3, x4, x5, x6, x7, y3, y4, y5, y6, y7, bn (by simp [biNames]) boot_len, bn (by simp [biNames]) boot_range, bn (by simp [biNames]) boot_reversed⟩
  have G : EncFns ⟨pg, w, β⟩ := ⟨ah, hhe, hmap, bn (by simp [biNames]) boot_bytes⟩
  have HF : HoldFns ⟨pg, w, β⟩ := ⟨H, G, x10, y10, x11, y11, x12, y12, x13, y13, x2, y2, x14, y14, x15, y15, x16, y16, x17, y17, x1, y1, x18, y18, bn (by simp [biNames]) boot_sorted', bn (by simp [biNames]) boot_ord, bn (by simp [biNames]) boot_chr, bn (by simp [biNames]) boot_list, bn (by simp [biNames]) boot_IndexError⟩
  exact ⟨⟨⟨HF, x8, y8, x9, y9, x19, y19, bn (by simp [biNames]) boot_sum⟩⟩, x20, y20⟩
theorem aok : AOk 6 callerA := ⟨rfl, by decide +kernel, by decide +kernel⟩
theorem fz_nil (h : Heap) : fz h [] = h := rfl
/-- the law called behind the top -/
theorem law_called (P : PlainLaw) {w : World} {s₁ s₂ : Shared} {mb m0 mg : PySem.Str → Option Value} (hn : s₁.heap.Ns mainGlobals mg) (F : Fin m0 mg s₁.heap) (hb : s₁.heap.Ns builtinsNs mb) (hbi : ∀ x : PySem.Str, x ≠ "__name__" → mb x = bootBuiltins x) (hst : s₁.heap.Ns cStatics (fun _ => none)) (hk : Ext s₁.heap s₂.heap)
    {a : Addr} {its : Array Value} (hl : s₂.heap.IsList a its) (hi : AllInts its) (hz : its.size ≤ 63) :
    ∃ f, mg "law" = some (.ref f) ∧ wpAny (model pg w) callerA (call (.ref f) [.ref a]) (fun v s' => v = .bool true ∧ ∃ h' tk, s' = Sx s₂ h' tk ∧ Ext s₂.heap h') no s₂ := by
  obtain ⟨⟨L⟩, f, hf⟩ := fns_of (w := w) (β := ⟨s₁.heap, mg, mb, hn, hb, ⟨_, hst, rfl⟩, hbi⟩) F
  refine ⟨f, HasDef.name hf, ?_⟩
  have c := law_ok hf L hi (by omega) P 0 callerA [] [] s₂ [.ref a] aok rfl (fun e he => nomatch he) hk (fun b q => nomatch q) (fun b q => nomatch q) (.cons ⟨a, rfl, hl⟩ .nil)
  refine wpAny_mono c ?_ fun _ _ z => z
  rintro v s' ⟨h', tk, rfl, x, p⟩
  exact ⟨RD.bool_inv p, h', tk, rfl, fun b o e => x.keep b o (fun q => nomatch q) e⟩
theorem lr_post (args : List WData) : lr.toRowW.claim.post args (.bool true) args = true :=
  postW_of (r := lr.toRowW) (by decide) (w_eq_bool (w_res rfl) w_lit) rfl
theorem lr_bare : pg.bare := ⟨rfl, rfl, rfl, rfl, rfl, by decide +kernel⟩
theorem lr_holds (P : PlainLaw) : lr.toRowW.claim.HoldsOpenBy (callStub lr.name) (if lr.pinned then [lr.name] else []) lr.keeps lr.writes := by
  refine ⟨⟨lr_bare, by kernel_rfl, rfl⟩, ⟨[.list []], by decide +kernel, by decide +kernel⟩, fun w => ⟨(booted w).1, fun s hs => ?_⟩⟩
  obtain ⟨mb, m0, Bo⟩ := (booted w).2 s hs
  have hz : s.asleep := AfterImport.life hs
  obtain ⟨n, t, s₁, h1, h2, h3, ⟨T, hos⟩, hg⟩ := top_ran hz (top_wp (w := w) Bo)
  obtain ⟨mg, hn, F⟩ := T.ex
  refine ⟨s, bh_fence s, Bo.gens, s₁, top_ran_pg Bo h1 h2 h3 T hos hg, fun x hx => ?_, fun x hx => (nomatch hx), fun x hx => (nomatch hx), ?_⟩
  · rw [List.mem_singleton.mp hx]
    exact the_law hn F
  · refine ClaimW.callFrom_of_specG (c := lr.toRowW.claim) (Shared.asleep_of_life h3 hz) hg fun args hpre hlay ord hord => ?_
    obtain ⟨⟨vs, s₂⟩, hlaid⟩ := Option.isSome_iff_exists.mp (layAllW_isSome (R := []) (cl := classAt s₁.heap) (P := w.params) (ord := ord) (fun c hc => (nomatch hc)) args lr.args s₁ (pre_splitW hpre).1)
    have keeps := layAllW_keeps _ _ _ hlaid
    have hal := layAllW_rest _ _ _ hlaid
    obtain ⟨as, hrd, hin, hold⟩ := reads_layAllW hord _ _ _ hlaid hlay s₂.heap (fun _ _ e => e)
    obtain ⟨a, its, rfl, hl, hi, hsz⟩ := script_of hpre hrd
    obtain ⟨f, hf, hw⟩ := law_called P (w := w) (s₂ := s₂) (mb := mb) hn F (ns_kept T Bo.b (by decide)) Bo.bi (ns_kept T Bo.statics (by decide)) keeps hl hi hsz
    have L : Laid lr.records w s₁ s₂ args [.ref a] as := ⟨⟨ord, hord, hlaid⟩, hrd, hin, hold, keeps, hal.1.trans hg, hal.2.2.1⟩
    refine ⟨[.ref a], s₂, hlaid, ?_⟩
    refine wpAny_bind (wpAny_nsGet (hn.keeps keeps) ?_)
    rw [show mg lr.name = some (.ref f) from hf]
    refine wpAny_bind (wpAny_mono hw ?_ fun _ _ z => z.elim)
    rintro v s' ⟨rfl, h', tk, rfl, kp⟩
    refine wpAny_pure ⟨_, rfl, ?_⟩
    have g : GoodWG lr.toRowW.claim (classAt s₁.heap) (ExcName.means s₁.heap) args s₂ (.ok (.ret (.bool true))) (Sx s₂ h' tk) :=
      GoodW.toG ⟨.inl ⟨.bool true, .bool true, [], rfl, fun _ => rfl, .bool true, lr_post args, fun _ => ⟨List.nodup_nil, fun b q => nomatch q⟩⟩, kp, rfl, hal.1.trans hg⟩
    have z := g.laid (c := lr.toRowW.claim) rfl rfl (fun x y => ident_freeW (r := lr.toRowW) rfl rfl rfl x y) L
    exact ⟨z.1, z.2.1, z.2.2, fun q => by cases q⟩
end Mine

theorem PySem.Challenge.cw_op0063_01_holds : PySem.Challenge.rw_op0063_01.Holds := by
  o_law
  rename_i said
  exact ⟨said, ⟨[.list []], by decide +kernel, by decide +kernel⟩, Mine.lr_holds Mine.plain_law⟩
