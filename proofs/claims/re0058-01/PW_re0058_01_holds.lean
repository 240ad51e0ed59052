import PyProof.Rows.All
import Wide.All
import OpenK.AllK
import Wide.FinOn
import Lean
import PySem.Challenge.RW_re0058_01
open PySem PySem.W PyProof.Rows
set_option Elab.async false
section
open PySem PySem.W PyProof.Rows PySem.W.X
set_option Elab.async false
set_option maxRecDepth 100000
set_option maxHeartbeats 0
namespace Mine
local macro_rules | `(tactic| k_head) => `(tactic| z_head)
open_top hz for PySem.Challenge.rw_re0058_01
end Mine
end
section
open PySem PySem.W PyProof.Rows
set_option Elab.async false
namespace Mine
abbrev Desc := Obj → Prop
def OList (items : List Value) : Desc := fun o => ∃ n, o = { cls := .type "list", dict := none, data := .seq items.toArray n, slots := #[] }
def OTuple (items : List Value) : Desc := fun o => o.cls = .type "tuple" ∧ ∃ n, o.data = .seq items.toArray n
def OListIter (l : Addr) (i : Nat) : Desc := fun o => o.cls = .type "list_iterator" ∧ o.data = .fields #[.ref l, .int i 0]
def OExact (o : Obj) : Desc := fun o' => o' = o

structure St (r : Shared) (B : Addr → Option Obj) (L : Addr) (m : List (Str × Value)) (l : List (Addr × Desc)) (s : Shared) : Prop where
  gens : s.gens = r.gens
  drawn : s.drawn = r.drawn
  os : s.os = r.os
  ns : s.heap.Ns L fun x => m.lookup x
  base : ∀ b o, B b = some o → s.heap.get? b = some o
  nL : B L = none
  own : ∀ p ∈ l, (∃ o, s.heap.get? p.1 = some o ∧ p.2 o) ∧ p.1 ≠ L ∧ B p.1 = none
  nd : (l.map (·.1)).Nodup

theorem lookup_upd (m : List (Str × Value)) (x : Str) (v : Value) : (fun y => if y = x then some v else m.lookup y) = fun y => ((x, v) :: m).lookup y := by
  funext y
  rw [List.lookup_cons]
  by_cases h : y = x
  · subst h; simp
  · have : (y == x) = false := beq_eq_false_iff_ne.mpr h
    simp [h, this]

variable {r : Shared} {B : Addr → Option Obj} {L : Addr} {m : List (Str × Value)} {l : List (Addr × Desc)} {s s' : Shared}

/-- the frame's own names stored -/
theorem St.store (S : St r B L m l s) {x : Str} {v : Value} {h' : Heap} {tk : Nat} (hn : h'.Ns L fun y => if y = x then some v else m.lookup y) (hs : Heap.SameBut L s.heap h') :
    St r B L ((x, v) :: m) l { s with heap := h', toks := tk } where
  gens := S.gens
  drawn := S.drawn
  os := S.os
  ns := by rw [lookup_upd] at hn; exact hn
  base := fun b o e => (hs.2 b (fun q => by rw [q, S.nL] at e; cases e)).trans (S.base b o e)
  nL := S.nL
  own := fun p hp => by
    obtain ⟨⟨o, ho, hd⟩, h1, h2⟩ := S.own p hp
    exact ⟨⟨o, (hs.2 _ h1).trans ho, hd⟩, h1, h2⟩
  nd := S.nd

/-- only old things kept, nothing changed -/
theorem St.ext (S : St r B L m l s) (hg : s'.gens = s.gens) (hd : s'.drawn = s.drawn) (ho : s'.os = s.os) (hk : ∀ b o, s.heap.get? b = some o → s'.heap.get? b = some o) : St r B L m l s' where
  gens := hg.trans S.gens
  drawn := hd.trans S.drawn
  os := ho.trans S.os
  ns := let ⟨o, es, ep, e, q⟩ := S.ns; ⟨o, es, ep, hk _ _ e, q⟩
  base := fun b o e => hk _ _ (S.base b o e)
  nL := S.nL
  own := fun p hp => by
    obtain ⟨⟨o, ho, hd⟩, h1, h2⟩ := S.own p hp
    exact ⟨⟨o, hk _ _ ho, hd⟩, h1, h2⟩
  nd := S.nd
theorem St.toks (S : St r B L m l s) (tk : Nat) : St r B L m l { s with toks := tk } := S.ext rfl rfl rfl fun _ _ e => e

theorem St.ltL (S : St r B L m l s) : L < s.heap.objs.size := S.ns.lt
theorem St.absent (S : St r B L m l s) {a : Addr} (h : s.heap.get? a = none) : a ≠ L ∧ B a = none ∧ a ∉ l.map (·.1) := by
  refine ⟨fun q => ?_, ?_, fun q => ?_⟩
  · obtain ⟨o, _, _, e, _⟩ := S.ns
    rw [q, e] at h; cases h
  · cases e : B a with
    | none => rfl
    | some o => rw [S.base a o e] at h; cases h
  · obtain ⟨p, hp, e⟩ := List.mem_map.mp q
    obtain ⟨⟨o, ho, _⟩, _⟩ := S.own p hp
    rw [← e, ho] at h; cases h

/-- something new: a is new at s, there at s' -/
theorem St.more (S : St r B L m l s) (S' : St r B L m l s') {a : Addr} {D : Desc} {o : Obj} (hn : s.heap.get? a = none) (ho : s'.heap.get? a = some o) (hd : D o) : St r B L m ((a, D) :: l) s' where
  gens := S'.gens
  drawn := S'.drawn
  os := S'.os
  ns := S'.ns
  base := S'.base
  nL := S'.nL
  own := fun p hp => by
    rcases List.mem_cons.mp hp with rfl | hp
    · exact ⟨⟨o, ho, hd⟩, (S.absent hn).1, (S.absent hn).2.1⟩
    · exact S'.own p hp
  nd := List.nodup_cons.mpr ⟨(S.absent hn).2.2, S'.nd⟩

theorem get_size (h : Heap) : h.get? h.objs.size = none := by
  unfold Heap.get?
  have : h.objs[h.objs.size]? = none := by simp
  rw [this]

theorem St.alloc (S : St r B L m l s) {o : Obj} {D : Desc} (hf : o.isFreed = false) (hd : D o) : St r B L m ((s.heap.objs.size, D) :: l) { s with heap := s.heap.push o } :=
  S.more (S.ext (s' := { s with heap := s.heap.push o }) rfl rfl rfl fun _ _ e => Heap.get?_push_of_some o e) (get_size _) (Heap.get?_push_size _ hf) hd

theorem nodup_set {l : List (Addr × Desc)} {i : Nat} {a : Addr} {D D' : Desc} (hi : l[i]? = some (a, D)) : (l.set i (a, D')).map (·.1) = l.map (·.1) := by
  rw [List.map_set]
  have : (l.map (·.1))[i]? = some a := by rw [List.getElem?_map, hi]; rfl
  apply List.ext_getElem?
  intro j
  rw [List.getElem?_set]
  by_cases h : i = j
  · subst h; simp [this]
    exact (List.getElem?_eq_some_iff.mp hi).1
  · simp [h]

/-- the i-th own thing changed -/
theorem St.change (S : St r B L m l s) (i : Nat) {a : Addr} {D D' : Desc} {o' : Obj} (hi : l[i]? = some (a, D)) (hg : s'.gens = s.gens) (hd : s'.drawn = s.drawn) (hos : s'.os = s.os)
    (hs : ∀ b o, b ≠ a → s.heap.get? b = some o → s'.heap.get? b = some o) (ho : s'.heap.get? a = some o') (hD : D' o') : St r B L m (l.set i (a, D')) s' := by
  have hm := List.mem_of_getElem? hi
  obtain ⟨⟨o, ho0, hd0⟩, h1, h2⟩ := S.own _ hm
  refine ⟨hg.trans S.gens, hd.trans S.drawn, hos.trans S.os, ?_, fun b o e => ?_, S.nL, fun p hp => ?_, ?_⟩
  · obtain ⟨o, es, ep, e, q⟩ := S.ns
    exact ⟨o, es, ep, hs _ _ (Ne.symm h1) e, q⟩
  · exact hs _ _ (fun q => by rw [q, h2] at e; cases e) (S.base b o e)
  · rcases List.mem_or_eq_of_mem_set hp with hp' | rfl
    · by_cases hpa : p.1 = a
      · have nd : ((l.set i (a, D')).map (·.1)).Nodup := by rw [nodup_set hi]; exact S.nd
        have hlt := (List.getElem?_eq_some_iff.mp hi).1
        have h3 : (a, D') ∈ l.set i (a, D') := List.mem_set hlt _
        have : p = (a, D') := key_unique' nd hp h3 hpa
        subst this
        exact ⟨⟨o', ho, hD⟩, h1, h2⟩
      · obtain ⟨⟨o, ho, hd⟩, q1, q2⟩ := S.own p hp'
        exact ⟨⟨o, hs _ _ hpa ho, hd⟩, q1, q2⟩
    · exact ⟨⟨o', ho, hD⟩, h1, h2⟩
  · rw [nodup_set hi]; exact S.nd
where
  key_unique' {l : List (Addr × Desc)} (nd : (l.map (·.1)).Nodup) {p q : Addr × Desc} (hp : p ∈ l) (hq : q ∈ l) (e : p.1 = q.1) : p = q := by
    induction l with
    | nil => cases hp
    | cons x t ih =>
      rw [List.map_cons, List.nodup_cons] at nd
      rcases List.mem_cons.mp hp with h1 | h1
      · rcases List.mem_cons.mp hq with h2 | h2
        · exact h1.trans h2.symm
        · exact absurd (h1 ▸ e ▸ List.mem_map_of_mem (f := (·.1)) h2) nd.1
      · rcases List.mem_cons.mp hq with h2 | h2
        · exact absurd (h2 ▸ e ▸ List.mem_map_of_mem (f := (·.1)) h1) nd.1
        · exact ih nd.2 h1 h2

theorem St.get (S : St r B L m l s) {a : Addr} {D : Desc} (h : (a, D) ∈ l) : ∃ o, s.heap.get? a = some o ∧ D o := (S.own _ h).1
theorem St.forget (S : St r B L m l s) {l' : List (Addr × Desc)} (hsub : l'.Sublist l) : St r B L m l' s := ⟨S.gens, S.drawn, S.os, S.ns, S.base, S.nL, fun p hp => S.own p (hsub.subset hp), (hsub.map (·.1)).nodup S.nd⟩
theorem St.perm (S : St r B L m l s) {l' : List (Addr × Desc)} (hp : l'.Perm l) : St r B L m l' s := ⟨S.gens, S.drawn, S.os, S.ns, S.base, S.nL, fun p h => S.own p (hp.subset h), (hp.map (·.1)).nodup_iff.mpr S.nd⟩
theorem St.swap {p q : Addr × Desc} (S : St r B L m (p :: q :: l) s) : St r B L m (q :: p :: l) s := S.perm (.swap _ _ _)
theorem St.drop1 {p : Addr × Desc} (S : St r B L m (p :: l) s) : St r B L m l s := S.forget (List.sublist_cons_self _ _)
theorem St.drop2 {p q : Addr × Desc} (S : St r B L m (p :: q :: l) s) : St r B L m (p :: l) s := S.forget (.cons₂ _ (List.sublist_cons_self _ _))
theorem St.drop3 {p q q' : Addr × Desc} (S : St r B L m (p :: q :: q' :: l) s) : St r B L m (p :: q :: l) s := S.forget (.cons₂ _ (.cons₂ _ (List.sublist_cons_self _ _)))
theorem St.addT (S : St r B L m l s) (S' : St r B L m l s') {a : Addr} {vs : List Value} (hn : s.heap.get? a = none) (ho : s'.heap.IsTuple a vs.toArray) : St r B L m ((a, OTuple vs) :: l) s' := by
  obtain ⟨o, e, c, d⟩ := ho
  exact S.more S' hn e ⟨c, d⟩
theorem St.addL (S : St r B L m l s) (S' : St r B L m l s') {a : Addr} {vs : List Value} (hn : s.heap.get? a = none) (ho : s'.heap.PlainList a vs.toArray) : St r B L m ((a, OList vs) :: l) s' := by
  obtain ⟨n, e⟩ := ho
  exact S.more S' hn e ⟨n, rfl⟩
theorem St.locals (S : St r B L m l s) {m' : List (Str × Value)} (h : ∀ x, m'.lookup x = m.lookup x) : St r B L m' l s := ⟨S.gens, S.drawn, S.os, by have := S.ns; simpa only [h] using this, S.base, S.nL, S.own, S.nd⟩
theorem St.plain (S : St r B L m l s) {a : Addr} {items : List Value} (h : (a, OList items) ∈ l) : s.heap.PlainList a items.toArray := by
  obtain ⟨o, e, n, rfl⟩ := S.get h
  exact ⟨n, e⟩
theorem St.list (S : St r B L m l s) {a : Addr} {items : List Value} (h : (a, OList items) ∈ l) : s.heap.IsList a items.toArray := (S.plain h).isList
theorem St.tuple (S : St r B L m l s) {a : Addr} {items : List Value} (h : (a, OTuple items) ∈ l) : s.heap.IsTuple a items.toArray := by
  obtain ⟨o, e, c, d⟩ := S.get h
  exact ⟨o, e, c, d⟩
end Mine
end
section
open PySem PySem.W PyProof.Rows
set_option Elab.async false
set_option maxRecDepth 100000
namespace Mine
abbrev PW : Program := PySem.Challenge.pw_re0058_01

section
variable {r : Shared} {B : Addr → Option Obj} {L : Addr} {m : List (Str × Value)} {l : List (Addr × Desc)} {s : Shared}
variable {w : World} {A : Around} {E : Value → Shared → Prop} {env : Env}

theorem e_loc {x : Str} {pos : Pos} {v : Value} {Q : Value → Shared → Prop} (S : St r B env.locals m l s) (hv : m.lookup x = some v) (h : Q v s)
    (hk : env.scope.kind = .function := by rfl) (hl : env.kindOf x = some .local := by rfl) (hd : (x == ("__debug__" : Str)) = false := by decide) :
    wpAny (model PW w) A (eval (.Name x pos) env) Q E s := wpAny_Name (wpAny_loadName_local hk hl S.ns hv h) hd
theorem e_locn {x : Str} {v : Value} {Q : Value → Shared → Prop} (S : St r B env.locals m l s) (hv : m.lookup x = some v) (h : Q v s)
    (hk : env.scope.kind = .function := by rfl) (hl : env.kindOf x = some .local := by rfl) :
    wpAny (model PW w) A (loadName env x) Q E s := wpAny_loadName_local hk hl S.ns hv h
theorem e_store {x : Str} {v : Value} {Q : Unit → Shared → Prop} (S : St r B env.locals m l s) (h : ∀ s', St r B env.locals ((x, v) :: m) l s' → Q () s')
    (hl : env.kindOf x = some .local := by rfl) (hp : (env.scope.kind == .class || (env.scope.kind == .module && env.locals != env.globals)) = false := by rfl) :
    wpAny (model PW w) A (storeName env x v) Q E s := wpAny_storeName_local hl S.ns (fun _ hn hs => h _ (S.store hn hs)) hp
theorem e_int {i : Int} {k : Nat} {pos : Pos} {Q : Value → Shared → Prop} (S : St r B L m l s) (h : ∀ t s', St r B L m l s' → Q (.int i t) s') :
    wpAny (model PW w) A (eval (.Constant (.int i) k pos) env) Q E s := wpAny_Constant_int (h _ _ (S.toks _))
theorem e_str {x : Str} {k : Nat} {pos : Pos} {Q : Value → Shared → Prop} (S : St r B L m l s) (h : ∀ t s', St r B L m l s' → Q (.str x t) s') :
    wpAny (model PW w) A (eval (.Constant (.str x) k pos) env) Q E s := Calls.Constant_str (h _ _ (S.toks _))
theorem b_add {a b : Int} {t u : Tok} {Q : Value → Shared → Prop} (S : St r B L m l s) (h : ∀ t s', St r B L m l s' → Q (.int (a + b) t) s') :
    wpAny (model PW w) A (binaryOp .Add (.int a t) (.int b u)) Q E s := add_int (h _ _ (S.toks _))
theorem b_sub {a b : Int} {t u : Tok} {Q : Value → Shared → Prop} (S : St r B L m l s) (h : ∀ t s', St r B L m l s' → Q (.int (a - b) t) s') :
    wpAny (model PW w) A (binaryOp .Sub (.int a t) (.int b u)) Q E s := sub_int (h _ _ (S.toks _))
theorem b_and {a b : Int} {t u : Tok} {Q : Value → Shared → Prop} (S : St r B L m l s) (h : ∀ t s', St r B L m l s' → Q (.int (Builtin.bitAnd a b) t) s') :
    wpAny (model PW w) A (binaryOp .BitAnd (.int a t) (.int b u)) Q E s := and_int (h _ _ (S.toks _))
theorem b_mod {a b : Int} {t u : Tok} {Q : Value → Shared → Prop} (S : St r B L m l s) (hb : b ≠ 0) (h : ∀ t s', St r B L m l s' → Q (.int (a.fmod b) t) s') :
    wpAny (model PW w) A (binaryOp .Mod (.int a t) (.int b u)) Q E s := mod_int' hb (h _ _ (S.toks _))
theorem b_shr {a b : Int} {t u : Tok} {Q : Value → Shared → Prop} (S : St r B L m l s) (hb : 0 ≤ b) (h : ∀ t s', St r B L m l s' → Q (.int (a.fdiv (2 ^ b.toNat)) t) s') :
    wpAny (model PW w) A (binaryOp .RShift (.int a t) (.int b u)) Q E s := rshift_int hb (h _ _ (S.toks _))
theorem b_pow {a b : Int} {t u : Tok} {Q : Value → Shared → Prop} (S : St r B L m l s) (hb : 0 ≤ b) (hb2 : b ≤ 1000000) (ha : a.natAbs < 2 ^ 64) (h : ∀ t s', St r B L m l s' → Q (.int (a ^ b.toNat) t) s') :
    wpAny (model PW w) A (binaryOp .Pow (.int a t) (.int b u)) Q E s := pow_int_small hb hb2 ha (h _ _ (S.toks _))
theorem c_eq {a b : Int} {t u : Tok} {Q : Value → Shared → Prop} (h : Q (.bool (a == b)) s) : wpAny (model PW w) A (compareOp .Eq (.int a t) (.int b u)) Q E s := eq_int h

theorem e_newTuple {vs : List Value} {Q : Value → Shared → Prop} (S : St r B L m l s) (h : ∀ a s', St r B L m ((a, OTuple vs) :: l) s' → Q (.ref a) s') (hsz : vs.length ≤ sizeLine := by size_fits) :
    wpAny (model PW w) A (newTuple vs) Q E s :=
  wpAny_newObj_type (h _ _ (S.alloc (o := { cls := .type "tuple", data := .seq vs.toArray }) rfl ⟨rfl, 0, rfl⟩)) (by show vs.toArray.size ≤ sizeLine; rw [List.size_toArray]; exact hsz)
theorem e_newList {vs : List Value} {Q : Value → Shared → Prop} (S : St r B L m l s) (h : ∀ a s', St r B L m ((a, OList vs) :: l) s' → Q (.ref a) s') (hsz : vs.length ≤ sizeLine := by size_fits) :
    wpAny (model PW w) A (newList vs) Q E s :=
  wpAny_newObj_type (h _ _ (S.alloc (o := { cls := .type "list", data := .seq vs.toArray }) rfl ⟨0, rfl⟩)) (by show vs.toArray.size ≤ sizeLine; rw [List.size_toArray]; exact hsz)
end

/-! the top -/
structure TopB (w : World) (B : Addr → Option Obj) : Prop where
  here : ∀ a o, a ≠ 47 → a ≠ 54 → (hz.heap_157 w.params).lookup a = some o → B a = some o
def esOf (o : Obj) : Array DictEntry := match o.data with
  | .dict es _ => es
  | _ => #[]
def epOf (o : Obj) : Nat := match o.data with
  | .dict _ n => n
  | _ => 0
def strKeyB (e : DictEntry) : Bool := match e.key with
  | .str .. => true
  | _ => false
theorem strKeys_of {es : Array DictEntry} (h : es.toList.all strKeyB = true) : StrKeys es := fun e he => by
  have := List.all_eq_true.mp h e (by simpa using he)
  unfold strKeyB at this
  split at this
  · exact ⟨_, _, by assumption⟩
  · cases this
theorem ns_of {h : Heap} {a : Addr} {o : Obj} (e : h.get? a = some o) (hd : o.data = .dict (esOf o) (epOf o)) (hk : (esOf o).toList.all strKeyB = true) : h.Ns a (nsFind (esOf o)) :=
  ⟨o, _, _, e, hd, strKeys_of hk, fun _ => rfl⟩
theorem glob_ns {w : World} {h : Heap} (e : h.get? 3 = some (hz.zo_42 w.params)) : h.Ns 3 (nsFind (esOf (hz.zo_42 w.params))) := ns_of e (by kernel_rfl) (by kernel_rfl)
theorem boot_ns {w : World} {h : Heap} (e : h.get? 0 = some (hz.zo_39 w.params)) : h.Ns 0 (nsFind (esOf (hz.zo_39 w.params))) := ns_of e (by kernel_rfl) (by kernel_rfl)
theorem stat_ns {w : World} {h : Heap} (e : h.get? 2 = some (hz.zo_41 w.params)) : h.Ns 2 (nsFind (esOf (hz.zo_41 w.params))) := ns_of e (by kernel_rfl) (by kernel_rfl)
theorem nolimit_of {w : World} {h : Heap} (e : h.get? 2 = some (hz.zo_41 w.params)) : h.NoLimit := ⟨_, stat_ns e, by kernel_rfl⟩
end Mine
end
section
open PySem PySem.W PyProof.Rows
set_option Elab.async false
set_option maxRecDepth 100000
namespace Mine
section
variable {r : Shared} {B : Addr → Option Obj} {L : Addr} {m : List (Str × Value)} {l : List (Addr × Desc)} {s : Shared}
variable {w : World} {A : Around} {E : Value → Shared → Prop} {env : Env}
theorem TopB.get (T : TopB w B) (S : St r B L m l s) {a : Addr} {o : Obj} (h1 : a ≠ 47) (h2 : a ≠ 54) (h : (hz.heap_157 w.params).lookup a = some o) : s.heap.get? a = some o := S.base _ _ (T.here a o h1 h2 h)
theorem e_glob {x : Str} {pos : Pos} {v : Value} {Q : Value → Shared → Prop} (S : St r B L m l s) (T : TopB w B) (hx : nsFind (esOf (hz.zo_42 w.params)) x = some v) (h : Q v s)
    (hk : env.scope.kind = .function := by rfl) (hl : env.kindOf x = some .globalImplicit := by rfl) (hg : env.globals = 3 := by rfl) (hd : (x == ("__debug__" : Str)) = false := by decide) :
    wpAny (model PW w) A (eval (.Name x pos) env) Q E s :=
  Calls.Name_function_global hk hl (Calls.loadGlobal_global (by rw [hg]; exact glob_ns (T.get S (by decide) (by decide) (by kernel_rfl))) hx h) hd
theorem e_boot {x : Str} {pos : Pos} {v : Value} {Q : Value → Shared → Prop} (S : St r B L m l s) (T : TopB w B) (hn : nsFind (esOf (hz.zo_42 w.params)) x = none) (hx : nsFind (esOf (hz.zo_39 w.params)) x = some v) (h : Q v s)
    (hk : env.scope.kind = .function := by rfl) (hl : env.kindOf x = some .globalImplicit := by rfl) (hg : env.globals = 3 := by rfl) (hb : env.builtins = 0 := by rfl) (hd : (x == ("__debug__" : Str)) = false := by decide) :
    wpAny (model PW w) A (eval (.Name x pos) env) Q E s :=
  Calls.Name_function_global hk hl (Calls.loadGlobal_builtin (by rw [hg]; exact glob_ns (T.get S (by decide) (by decide) (by kernel_rfl))) hn (by rw [hb]; exact boot_ns (T.get S (by decide) (by decide) (by kernel_rfl))) hx h) hd

theorem g_div2n1n {pos : Pos} {Q : Value → Shared → Prop} (S : St r B L m l s) (T : TopB w B) (h : Q (.ref 38) s)
    (hk : env.scope.kind = .function := by rfl) (hl : env.kindOf (Str.mk ⟨[95, 100, 105, 118, 50, 110, 49, 110]⟩) = some .globalImplicit := by rfl) (hg : env.globals = 3 := by rfl) :
    wpAny (model PW w) A (eval (.Name (Str.mk ⟨[95, 100, 105, 118, 50, 110, 49, 110]⟩) pos) env) Q E s := e_glob S T (by kernel_rfl) h hk hl hg (by decide)
theorem g_div3n2n {pos : Pos} {Q : Value → Shared → Prop} (S : St r B L m l s) (T : TopB w B) (h : Q (.ref 45) s)
    (hk : env.scope.kind = .function := by rfl) (hl : env.kindOf (Str.mk ⟨[95, 100, 105, 118, 51, 110, 50, 110]⟩) = some .globalImplicit := by rfl) (hg : env.globals = 3 := by rfl) :
    wpAny (model PW w) A (eval (.Name (Str.mk ⟨[95, 100, 105, 118, 51, 110, 50, 110]⟩) pos) env) Q E s := e_glob S T (by kernel_rfl) h hk hl hg (by decide)
theorem g_i2d {pos : Pos} {Q : Value → Shared → Prop} (S : St r B L m l s) (T : TopB w B) (h : Q (.ref 52) s)
    (hk : env.scope.kind = .function := by rfl) (hl : env.kindOf (Str.mk ⟨[95, 105, 110, 116, 50, 100, 105, 103, 105, 116, 115]⟩) = some .globalImplicit := by rfl) (hg : env.globals = 3 := by rfl) :
    wpAny (model PW w) A (eval (.Name (Str.mk ⟨[95, 105, 110, 116, 50, 100, 105, 103, 105, 116, 115]⟩) pos) env) Q E s := e_glob S T (by kernel_rfl) h hk hl hg (by decide)
theorem g_d2i {pos : Pos} {Q : Value → Shared → Prop} (S : St r B L m l s) (T : TopB w B) (h : Q (.ref 59) s)
    (hk : env.scope.kind = .function := by rfl) (hl : env.kindOf (Str.mk ⟨[95, 100, 105, 103, 105, 116, 115, 50, 105, 110, 116]⟩) = some .globalImplicit := by rfl) (hg : env.globals = 3 := by rfl) :
    wpAny (model PW w) A (eval (.Name (Str.mk ⟨[95, 100, 105, 103, 105, 116, 115, 50, 105, 110, 116]⟩) pos) env) Q E s := e_glob S T (by kernel_rfl) h hk hl hg (by decide)
theorem g_dpos {pos : Pos} {Q : Value → Shared → Prop} (S : St r B L m l s) (T : TopB w B) (h : Q (.ref 66) s)
    (hk : env.scope.kind = .function := by rfl) (hl : env.kindOf (Str.mk ⟨[95, 100, 105, 118, 109, 111, 100, 95, 112, 111, 115]⟩) = some .globalImplicit := by rfl) (hg : env.globals = 3 := by rfl) :
    wpAny (model PW w) A (eval (.Name (Str.mk ⟨[95, 100, 105, 118, 109, 111, 100, 95, 112, 111, 115]⟩) pos) env) Q E s := e_glob S T (by kernel_rfl) h hk hl hg (by decide)
theorem g_idiv {pos : Pos} {Q : Value → Shared → Prop} (S : St r B L m l s) (T : TopB w B) (h : Q (.ref 73) s)
    (hk : env.scope.kind = .function := by rfl) (hl : env.kindOf (Str.mk ⟨[105, 110, 116, 95, 100, 105, 118, 109, 111, 100]⟩) = some .globalImplicit := by rfl) (hg : env.globals = 3 := by rfl) :
    wpAny (model PW w) A (eval (.Name (Str.mk ⟨[105, 110, 116, 95, 100, 105, 118, 109, 111, 100]⟩) pos) env) Q E s := e_glob S T (by kernel_rfl) h hk hl hg (by decide)
theorem g_varint {pos : Pos} {Q : Value → Shared → Prop} (S : St r B L m l s) (T : TopB w B) (h : Q (.ref 80) s)
    (hk : env.scope.kind = .function := by rfl) (hl : env.kindOf (Str.mk ⟨[95, 112, 97, 114, 115, 101, 95, 118, 97, 114, 105, 110, 116]⟩) = some .globalImplicit := by rfl) (hg : env.globals = 3 := by rfl) :
    wpAny (model PW w) A (eval (.Name (Str.mk ⟨[95, 112, 97, 114, 115, 101, 95, 118, 97, 114, 105, 110, 116]⟩) pos) env) Q E s := e_glob S T (by kernel_rfl) h hk hl hg (by decide)
theorem g_quote {pos : Pos} {Q : Value → Shared → Prop} (S : St r B L m l s) (T : TopB w B) (h : Q (.ref 97) s)
    (hk : env.scope.kind = .function := by rfl) (hl : env.kindOf (Str.mk ⟨[113, 117, 111, 116, 101, 100, 97, 116, 97]⟩) = some .globalImplicit := by rfl) (hg : env.globals = 3 := by rfl) :
    wpAny (model PW w) A (eval (.Name (Str.mk ⟨[113, 117, 111, 116, 101, 100, 97, 116, 97]⟩) pos) env) Q E s := e_glob S T (by kernel_rfl) h hk hl hg (by decide)
theorem g_numbers {pos : Pos} {Q : Value → Shared → Prop} (S : St r B L m l s) (T : TopB w B) (h : Q (.ref 104) s)
    (hk : env.scope.kind = .function := by rfl) (hl : env.kindOf (Str.mk ⟨[95, 108, 97, 119, 95, 110, 117, 109, 98, 101, 114, 115]⟩) = some .globalImplicit := by rfl) (hg : env.globals = 3 := by rfl) :
    wpAny (model PW w) A (eval (.Name (Str.mk ⟨[95, 108, 97, 119, 95, 110, 117, 109, 98, 101, 114, 115]⟩) pos) env) Q E s := e_glob S T (by kernel_rfl) h hk hl hg (by decide)
theorem g_signed {pos : Pos} {Q : Value → Shared → Prop} (S : St r B L m l s) (T : TopB w B) (h : Q (.ref 109) s)
    (hk : env.scope.kind = .function := by rfl) (hl : env.kindOf (Str.mk ⟨[95, 108, 97, 119, 95, 115, 105, 103, 110, 101, 100]⟩) = some .globalImplicit := by rfl) (hg : env.globals = 3 := by rfl) :
    wpAny (model PW w) A (eval (.Name (Str.mk ⟨[95, 108, 97, 119, 95, 115, 105, 103, 110, 101, 100]⟩) pos) env) Q E s := e_glob S T (by kernel_rfl) h hk hl hg (by decide)
theorem g_drop {pos : Pos} {Q : Value → Shared → Prop} (S : St r B L m l s) (T : TopB w B) (h : Q (.ref 114) s)
    (hk : env.scope.kind = .function := by rfl) (hl : env.kindOf (Str.mk ⟨[95, 108, 97, 119, 95, 100, 114, 111, 112]⟩) = some .globalImplicit := by rfl) (hg : env.globals = 3 := by rfl) :
    wpAny (model PW w) A (eval (.Name (Str.mk ⟨[95, 108, 97, 119, 95, 100, 114, 111, 112]⟩) pos) env) Q E s := e_glob S T (by kernel_rfl) h hk hl hg (by decide)
theorem g_rounds {pos : Pos} {Q : Value → Shared → Prop} (S : St r B L m l s) (T : TopB w B) (h : Q (.ref 121) s)
    (hk : env.scope.kind = .function := by rfl) (hl : env.kindOf (Str.mk ⟨[95, 108, 97, 119, 95, 114, 111, 117, 110, 100, 115]⟩) = some .globalImplicit := by rfl) (hg : env.globals = 3 := by rfl) :
    wpAny (model PW w) A (eval (.Name (Str.mk ⟨[95, 108, 97, 119, 95, 114, 111, 117, 110, 100, 115]⟩) pos) env) Q E s := e_glob S T (by kernel_rfl) h hk hl hg (by decide)
theorem g_piled {pos : Pos} {Q : Value → Shared → Prop} (S : St r B L m l s) (T : TopB w B) (h : Q (.ref 128) s)
    (hk : env.scope.kind = .function := by rfl) (hl : env.kindOf (Str.mk ⟨[95, 108, 97, 119, 95, 112, 105, 108, 101, 100]⟩) = some .globalImplicit := by rfl) (hg : env.globals = 3 := by rfl) :
    wpAny (model PW w) A (eval (.Name (Str.mk ⟨[95, 108, 97, 119, 95, 112, 105, 108, 101, 100]⟩) pos) env) Q E s := e_glob S T (by kernel_rfl) h hk hl hg (by decide)
theorem g_exch {pos : Pos} {Q : Value → Shared → Prop} (S : St r B L m l s) (T : TopB w B) (h : Q (.ref 135) s)
    (hk : env.scope.kind = .function := by rfl) (hl : env.kindOf (Str.mk ⟨[95, 108, 97, 119, 95, 101, 120, 99, 104, 97, 110, 103, 101, 100]⟩) = some .globalImplicit := by rfl) (hg : env.globals = 3 := by rfl) :
    wpAny (model PW w) A (eval (.Name (Str.mk ⟨[95, 108, 97, 119, 95, 101, 120, 99, 104, 97, 110, 103, 101, 100]⟩) pos) env) Q E s := e_glob S T (by kernel_rfl) h hk hl hg (by decide)
theorem g_law {pos : Pos} {Q : Value → Shared → Prop} (S : St r B L m l s) (T : TopB w B) (h : Q (.ref 140) s)
    (hk : env.scope.kind = .function := by rfl) (hl : env.kindOf (Str.mk ⟨[108, 97, 119]⟩) = some .globalImplicit := by rfl) (hg : env.globals = 3 := by rfl) :
    wpAny (model PW w) A (eval (.Name (Str.mk ⟨[108, 97, 119]⟩) pos) env) Q E s := e_glob S T (by kernel_rfl) h hk hl hg (by decide)
theorem g_list {pos : Pos} {Q : Value → Shared → Prop} (S : St r B L m l s) (T : TopB w B) (h : Q (.type "list") s)
    (hk : env.scope.kind = .function := by rfl) (hl : env.kindOf (Str.mk ⟨[108, 105, 115, 116]⟩) = some .globalImplicit := by rfl) (hg : env.globals = 3 := by rfl) (hb : env.builtins = 0 := by rfl) :
    wpAny (model PW w) A (eval (.Name (Str.mk ⟨[108, 105, 115, 116]⟩) pos) env) Q E s := e_boot S T (by kernel_rfl) (by kernel_rfl) h hk hl hg hb (by decide)
theorem g_range {pos : Pos} {Q : Value → Shared → Prop} (S : St r B L m l s) (T : TopB w B) (h : Q (.type "range") s)
    (hk : env.scope.kind = .function := by rfl) (hl : env.kindOf (Str.mk ⟨[114, 97, 110, 103, 101]⟩) = some .globalImplicit := by rfl) (hg : env.globals = 3 := by rfl) (hb : env.builtins = 0 := by rfl) :
    wpAny (model PW w) A (eval (.Name (Str.mk ⟨[114, 97, 110, 103, 101]⟩) pos) env) Q E s := e_boot S T (by kernel_rfl) (by kernel_rfl) h hk hl hg hb (by decide)
theorem g_tuple {pos : Pos} {Q : Value → Shared → Prop} (S : St r B L m l s) (T : TopB w B) (h : Q (.type "tuple") s)
    (hk : env.scope.kind = .function := by rfl) (hl : env.kindOf (Str.mk ⟨[116, 117, 112, 108, 101]⟩) = some .globalImplicit := by rfl) (hg : env.globals = 3 := by rfl) (hb : env.builtins = 0 := by rfl) :
    wpAny (model PW w) A (eval (.Name (Str.mk ⟨[116, 117, 112, 108, 101]⟩) pos) env) Q E s := e_boot S T (by kernel_rfl) (by kernel_rfl) h hk hl hg hb (by decide)
theorem g_len {pos : Pos} {Q : Value → Shared → Prop} (S : St r B L m l s) (T : TopB w B) (h : Q (.builtin "len") s)
    (hk : env.scope.kind = .function := by rfl) (hl : env.kindOf (Str.mk ⟨[108, 101, 110]⟩) = some .globalImplicit := by rfl) (hg : env.globals = 3 := by rfl) (hb : env.builtins = 0 := by rfl) :
    wpAny (model PW w) A (eval (.Name (Str.mk ⟨[108, 101, 110]⟩) pos) env) Q E s := e_boot S T (by kernel_rfl) (by kernel_rfl) h hk hl hg hb (by decide)
theorem g_sum {pos : Pos} {Q : Value → Shared → Prop} (S : St r B L m l s) (T : TopB w B) (h : Q (.builtin "sum") s)
    (hk : env.scope.kind = .function := by rfl) (hl : env.kindOf (Str.mk ⟨[115, 117, 109]⟩) = some .globalImplicit := by rfl) (hg : env.globals = 3 := by rfl) (hb : env.builtins = 0 := by rfl) :
    wpAny (model PW w) A (eval (.Name (Str.mk ⟨[115, 117, 109]⟩) pos) env) Q E s := e_boot S T (by kernel_rfl) (by kernel_rfl) h hk hl hg hb (by decide)
theorem g_max {pos : Pos} {Q : Value → Shared → Prop} (S : St r B L m l s) (T : TopB w B) (h : Q (.builtin "max") s)
    (hk : env.scope.kind = .function := by rfl) (hl : env.kindOf (Str.mk ⟨[109, 97, 120]⟩) = some .globalImplicit := by rfl) (hg : env.globals = 3 := by rfl) (hb : env.builtins = 0 := by rfl) :
    wpAny (model PW w) A (eval (.Name (Str.mk ⟨[109, 97, 120]⟩) pos) env) Q E s := e_boot S T (by kernel_rfl) (by kernel_rfl) h hk hl hg hb (by decide)
theorem g_iter {pos : Pos} {Q : Value → Shared → Prop} (S : St r B L m l s) (T : TopB w B) (h : Q (.builtin "iter") s)
    (hk : env.scope.kind = .function := by rfl) (hl : env.kindOf (Str.mk ⟨[105, 116, 101, 114]⟩) = some .globalImplicit := by rfl) (hg : env.globals = 3 := by rfl) (hb : env.builtins = 0 := by rfl) :
    wpAny (model PW w) A (eval (.Name (Str.mk ⟨[105, 116, 101, 114]⟩) pos) env) Q E s := e_boot S T (by kernel_rfl) (by kernel_rfl) h hk hl hg hb (by decide)
end
def funcOf (o : Obj) : FuncData := match o.data with
  | .func f => f
  | _ => default
def bodyOf (f : FuncData) : List Stmt := match f.body with
  | .stmts b => b
  | _ => []
noncomputable def fd_div2n1n (P : Params) : FuncData := funcOf (hz.zo_61 P)
noncomputable def fd_div3n2n (P : Params) : FuncData := funcOf (hz.zo_68 P)
noncomputable def fd_i2d (P : Params) : FuncData := funcOf (hz.zo_75 P)
noncomputable def fd_d2i (P : Params) : FuncData := funcOf (hz.zo_82 P)
noncomputable def fd_dpos (P : Params) : FuncData := funcOf (hz.zo_89 P)
noncomputable def fd_idiv (P : Params) : FuncData := funcOf (hz.zo_96 P)
noncomputable def fd_varint (P : Params) : FuncData := funcOf (hz.zo_103 P)
noncomputable def fd_quote (P : Params) : FuncData := funcOf (hz.zo_114 P)
noncomputable def fd_numbers (P : Params) : FuncData := funcOf (hz.zo_121 P)
noncomputable def fd_signed (P : Params) : FuncData := funcOf (hz.zo_126 P)
noncomputable def fd_drop (P : Params) : FuncData := funcOf (hz.zo_131 P)
noncomputable def fd_rounds (P : Params) : FuncData := funcOf (hz.zo_138 P)
noncomputable def fd_piled (P : Params) : FuncData := funcOf (hz.zo_145 P)
noncomputable def fd_exch (P : Params) : FuncData := funcOf (hz.zo_152 P)
noncomputable def fd_law (P : Params) : FuncData := funcOf (hz.zo_157 P)
end Mine
end
section
open PySem PySem.W PyProof.Rows
set_option Elab.async false
set_option maxRecDepth 100000
namespace Mine
section
variable {r : Shared} {B : Addr → Option Obj} {L : Addr} {m : List (Str × Value)} {l : List (Addr × Desc)} {s s' : Shared}
variable {w : World} {A : Around} {E : Value → Shared → Prop} {env : Env}

def retOf : Flow → Value
  | .ret v => v
  | _ => .none
theorem w_noE {α : Type} {M : Model} {t : Sem α} {Q : α → Shared → Prop} (h : wpAny M A t Q (fun _ _ => False) s) : wpAny M A t Q E s := wpAny_mono h (fun _ _ q => q) fun _ _ q => q.elim

/-- a call of the text's own def, entered -/
theorem enter {R : Result → Shared → Prop} {a : Addr} {o : Obj} {fd : FuncData} {body : List Stmt} {args : List Value} {binds : List (Str × Value)} (B : Addr → Option Obj)
    (hB : ∀ b o, B b = some o → s.heap.get? b = some o)
    (hroom : A.depth < recursionLimit) (ho : s.heap.get? a = some o) (hdata : o.data = .func fd) (hlim : s.heap.NoLimit) (hcd : s.heap.CodeRec fd.code fd.qualname)
    (hbody : fd.body = .stmts body) (hbind : bindArgs fd ⟨args, []⟩ = pure binds)
    (hcell : ∀ x ∈ fd.scope.names, x.2 ≠ .cell) (hloc : ∀ x ∈ binds, fd.scope.names.lookup x.1 = some .local)
    (h : ∀ L s₁, St s B L binds.reverse [] s₁ → wpAny (model PW w) (A.deeper (callEnv fd L a)) (execs body (callEnv fd L a)) (fun f s' => R (.ok (.ret (retOf f))) s') (fun _ _ => False) s₁)
    (hco : fd.scope.isCoroutine = false := by rfl) (hgen : fd.scope.isGenerator = false := by rfl) (hk : fd.scope.kind = .function := by rfl) :
    codeAny (model PW w) A (.call (.ref a) ⟨args, []⟩) R s := by
  refine codeAny_call_def hroom ho hdata hlim hcd hbody (BindsTo.of_eq hbind) hcell hloc (fun h₀ hns hk₀ => ?_) hco hgen hk
  refine wpAny_mono (h _ _ ⟨rfl, rfl, rfl, hns, fun b o e => hk₀ b o (hB b o e), ?_, fun p hp => (nomatch hp), List.nodup_nil⟩) (fun f _ q => by cases f <;> exact q) fun _ _ q => q.elim
  cases e : B s.heap.objs.size with
  | none => rfl
  | some o => have := hB _ _ e; rw [get_size] at this; cases this

theorem St.dropIt {it : Addr} {D : Desc} (S : St r B L m ((it, D) :: l) s) {h' : Heap} {tk : Nat} (hx : Heap.ExtBut it s.heap h') : St r B L m l { s with heap := h', toks := tk } where
  gens := S.gens
  drawn := S.drawn
  os := S.os
  ns := S.ns.extBut hx (Ne.symm (S.own _ (.head _)).2.1)
  base := fun b o e => hx b o (fun q => by have := (S.own _ (.head _)).2.2; rw [← q] at this; rw [this] at e; cases e) (S.base b o e)
  nL := S.nL
  own := fun p hp => by
    obtain ⟨⟨o, ho, hd⟩, h1, h2⟩ := S.own p (.tail _ hp)
    exact ⟨⟨o, hx _ _ (fun q => by have := (List.nodup_cons.mp S.nd).1; exact this (by show it ∈ l.map (·.1); rw [← q]; exact List.mem_map_of_mem hp)) ho, hd⟩, h1, h2⟩
  nd := (List.nodup_cons.mp S.nd).2

theorem St.headIs (S : St r B L m ((a, D) :: l) s) {D' : Desc} {h' : Heap} {tk : Nat} {o' : Obj} (hs : Heap.SameBut a s.heap h') (ho : h'.get? a = some o') (hD : D' o') : St r B L m ((a, D') :: l) { s with heap := h', toks := tk } :=
  S.change (s' := { s with heap := h', toks := tk }) 0 rfl rfl rfl rfl (fun b o hb e => (hs.2 b hb).trans e) ho hD

/-- a for over a list that stays as it is -/
theorem for_list {R : Result → Shared → Prop} {x : Str} {px : Pos} {body : List Stmt} {it aw : Addr} {its : List Value} (P : Nat → List (Str × Value) → List (Addr × Desc) → Prop)
    (hh : A.handled = none) (S : St r B env.locals m ((it, OListIter aw 0) :: l) s) (start : P 0 m l)
    (hlist : ∀ i m' l' s', P i m' l' → St r B env.locals m' ((it, OListIter aw i) :: l') s' → s'.heap.IsList aw its.toArray)
    (turn : ∀ i v m' l' s', its[i]? = some v → P i m' l' → St r B env.locals ((x, v) :: m') ((it, OListIter aw (i + 1)) :: l') s' →
      wpAny (model PW w) A (execs body env) (fun f s₃ => match f with
        | .next | .cont => ∃ m'' l'', St r B env.locals m'' ((it, OListIter aw (i + 1)) :: l'') s₃ ∧ P (i + 1) m'' l''
        | .brk => R (.ok .next) s₃
        | .ret v => R (.ok (.ret v)) s₃) (fun _ _ => False) s')
    (fin : ∀ m' l' s', P its.length m' l' → St r B env.locals m' l' s' → R (.ok .next) s')
    (hl : env.kindOf x = some .local := by rfl) (hp : (env.scope.kind == .class || (env.scope.kind == .module && env.locals != env.globals)) = false := by rfl) :
    codeAny (model PW w) A (.forLoop (.Name x px) (.ref it) body [] env) R s := by
  refine codeAny_forLoop (fun k s' => ∃ i m' l', k = its.length - i ∧ i ≤ its.length ∧ St r B env.locals m' ((it, OListIter aw i) :: l') s' ∧ P i m' l') ?_ (its.length - 0) ⟨0, m, l, rfl, Nat.zero_le _, S, start⟩
  rintro k s' ⟨i, m', l', rfl, hi, S', hP⟩
  obtain ⟨o, ho, hc, hd⟩ := S'.get (.head _)
  have hit : s'.heap.IsListIter it aw i := ⟨o, ho, hc, hd⟩
  have hl' := hlist i m' l' s' hP S'
  cases hv : its[i]? with
  | none =>
    have he : i = its.length := by have := List.getElem?_eq_none_iff.mp hv; omega
    subst he
    refine wpAny_pyNext_list_end hh hit hl' (by simp) fun h₁ he₁ => ?_
    exact wpAny_execs_nil (fin m' l' _ hP (S'.dropIt (tk := s'.toks) he₁))
  | some v =>
    have hlt : i < its.length := (List.getElem?_eq_some_iff.mp hv).1
    refine wpAny_pyNext_list_item hit hl' (x := v) (by simpa using hv) fun h₁ hit₁ hs₁ => ?_
    obtain ⟨o1, ho1, hc1, hd1⟩ := hit₁
    have S1 := S'.headIs (tk := s'.toks) (D' := OListIter aw (i + 1)) hs₁ ho1 ⟨hc1, hd1⟩
    refine wpAny_assign_Name (e_store S1 (fun s₂ S2 => ?_) hl hp)
    refine wpAny_mono (turn i v m' l' s₂ hv hP S2) (fun f s₃ h₃ => ?_) fun _ _ q => q.elim
    cases f with
    | next => obtain ⟨m'', l'', S3, P3⟩ := h₃; exact ⟨its.length - (i + 1), by omega, i + 1, m'', l'', rfl, hlt, S3, P3⟩
    | cont => obtain ⟨m'', l'', S3, P3⟩ := h₃; exact ⟨its.length - (i + 1), by omega, i + 1, m'', l'', rfl, hlt, S3, P3⟩
    | brk => exact h₃
    | ret v => exact h₃

theorem e_iterList {aw : Addr} {its : List Value} {Q : Value → Shared → Prop} (S : St r B L m l s) (hl : s.heap.IsList aw its.toArray) (h : ∀ it s', St r B L m ((it, OListIter aw 0) :: l) s' → Q (.ref it) s') :
    wpAny (model PW w) A (pyIter (.ref aw)) Q E s :=
  wpAny_pyIter_list hl (h _ _ (S.alloc (o := { cls := .type "list_iterator", data := .fields #[.ref aw, .int 0 0] }) rfl ⟨rfl, rfl⟩))
end
end Mine
end
section
open PySem PySem.W PyProof.Rows
set_option Elab.async false
set_option maxRecDepth 100000
namespace Mine
def dots (n : Nat) : Str := ⟨⟨List.replicate n 46⟩⟩
structure Kept (s s' : Shared) : Prop where
  gens : s'.gens = s.gens
  drawn : s'.drawn = s.drawn
  os : s'.os = s.os
  keep : ∀ b o, s.heap.get? b = some o → s'.heap.get? b = some o
theorem Kept.trans {s s' s'' : Shared} (a : Kept s s') (b : Kept s' s'') : Kept s s'' := ⟨b.gens.trans a.gens, b.drawn.trans a.drawn, b.os.trans a.os, fun x o e => b.keep x o (a.keep x o e)⟩
def TopH (w : World) (h : Heap) : Prop := ∀ a o, a ≠ 47 → a ≠ 54 → (hz.heap_157 w.params).lookup a = some o → h.get? a = some o
theorem TopH.keep {w : World} {s s' : Shared} (T : TopH w s.heap) (k : Kept s s') : TopH w s'.heap := fun a o h1 h2 e => k.keep a o (T a o h1 h2 e)
structure Room (k : Nat) (A : Around) : Prop where
  handled : A.handled = none
  depth : A.depth + k + 1 < recursionLimit
  units : A.units + 3 * k + 100 < cLine
theorem Room.deeper {k : Nat} {A : Around} (R : Room (k + 1) A) (env : Env) : Room k (A.deeper env) := ⟨R.handled, by have := R.depth; show A.depth + 1 + k + 1 < _; omega, by have := R.units; show A.units + 3 + 3 * k + 100 < _; omega⟩
theorem Room.le {k j : Nat} {A : Around} (R : Room k A) (h : j ≤ k) : Room j A := ⟨R.handled, by have := R.depth; omega, by have := R.units; omega⟩
theorem Room.lt {k : Nat} {A : Around} (R : Room k A) : A.depth < recursionLimit := by have := R.depth; omega

theorem cells_of {l : List (Str × NameKind)} (h : (l.all fun x => !(x.2 == .cell)) = true) : ∀ x ∈ l, x.2 ≠ .cell := fun x hx q => by
  have := List.all_eq_true.mp h x hx
  rw [q] at this; cases this
theorem locs_of {sc : Scope} {binds : List (Str × Value)} (h : (binds.all fun x => sc.names.lookup x.1 == some .local) = true) : ∀ x ∈ binds, sc.names.lookup x.1 = some .local := fun x hx => by
  have := List.all_eq_true.mp h x hx
  exact beq_iff_eq.mp this
theorem codeRec_at {h : Heap} {cd : Value} {c : Addr} {o : Obj} {vs : Array Value} {q : Str} {t : Tok} (hc : cd = .ref c) (e : h.get? c = some o) (hd : o.data = .fields vs) (hv : vs[1]? = some (.str q t)) : h.CodeRec cd q := ⟨c, o, vs, t, hc, e, hd, hv⟩

theorem St.kept {r : Shared} {L : Addr} {m : List (Str × Value)} {l : List (Addr × Desc)} {s : Shared} (S : St r (fun b => r.heap.get? b) L m l s) : Kept r s := ⟨S.gens, S.drawn, S.os, S.base⟩
theorem St.call {r : Shared} {B : Addr → Option Obj} {L : Addr} {m : List (Str × Value)} {l : List (Addr × Desc)} {s s' : Shared} (S : St r B L m l s) (k : Kept s s') : St r B L m l s' := S.ext k.gens k.drawn k.os k.keep
theorem topB_of {w : World} {s : Shared} (T : TopH w s.heap) : TopB w (fun b => s.heap.get? b) := ⟨T⟩

/-- a call of a def of the top: address a, its object, its code's object -/
theorem enterTop {w : World} {A : Around} {s : Shared} {R : Result → Shared → Prop} {a c : Addr} {o oc : Obj} {fd : FuncData} {body : List Stmt} {args : List Value} {binds : List (Str × Value)} {vs : Array Value} {t : Tok}
    (T : TopH w s.heap) (hroom : A.depth < recursionLimit)
    (ho : (hz.heap_157 w.params).lookup a = some o) (ha : (a != 47 && a != 54) = true) (hoc : (hz.heap_157 w.params).lookup c = some oc) (hc : (c != 47 && c != 54) = true) (hdata : o.data = .func fd)
    (hcd : fd.code = .ref c) (hcf : oc.data = .fields vs) (hcq : vs[1]? = some (.str fd.qualname t))
    (hbody : fd.body = .stmts body) (hbind : bindArgs fd ⟨args, []⟩ = pure binds)
    (hcell : (fd.scope.names.all fun x => !(x.2 == .cell)) = true) (hloc : (binds.all fun x => fd.scope.names.lookup x.1 == some .local) = true)
    (hco : fd.scope.isCoroutine = false) (hgen : fd.scope.isGenerator = false) (hk : fd.scope.kind = .function)
    (h : ∀ L s₁, St s (fun b => s.heap.get? b) L binds.reverse [] s₁ → TopB w (fun b => s.heap.get? b) → wpAny (model PW w) (A.deeper (callEnv fd L a)) (execs body (callEnv fd L a)) (fun f s' => R (.ok (.ret (retOf f))) s') (fun _ _ => False) s₁) :
    codeAny (model PW w) A (.call (.ref a) ⟨args, []⟩) R s := by
  have ha' : a ≠ 47 ∧ a ≠ 54 := by simpa using ha
  have hc' : c ≠ 47 ∧ c ≠ 54 := by simpa using hc
  exact enter (fun b => s.heap.get? b) (fun _ _ e => e) hroom (T _ _ ha'.1 ha'.2 ho) hdata (nolimit_of (w := w) (T 2 _ (by decide) (by decide) (by kernel_rfl)))
    (codeRec_at hcd (T _ _ hc'.1 hc'.2 hoc) hcf hcq) hbody hbind (cells_of hcell) (locs_of hloc) (fun L s₁ S => h L s₁ S (topB_of T)) hco hgen hk


section
variable {r : Shared} {B : Addr → Option Obj} {L : Addr} {m : List (Str × Value)} {l : List (Addr × Desc)} {s s' : Shared}
variable {w : World} {A : Around} {E : Value → Shared → Prop} {env : Env}
theorem e_unpack2 {x y : Str} {px py pt : Pos} {k : Nat} {t : Addr} {u v : Value} {Q : Unit → Shared → Prop} (S : St r B env.locals m l s) (hh : A.handled = none) (ht : s.heap.IsTuple t #[u, v])
    (h : ∀ s', St r B env.locals ((y, v) :: (x, u) :: m) l s' → Q () s')
    (hx : env.kindOf x = some .local := by rfl) (hy : env.kindOf y = some .local := by rfl) (hp : (env.scope.kind == .class || (env.scope.kind == .module && env.locals != env.globals)) = false := by rfl) :
    wpAny (model PW w) A (assign (.Tuple [.Name x px, .Name y py] k pt) env (.ref t)) Q E s := by
  show wpAny (model PW w) A (do standAt pt; unpack (.ref t) (assignEach [.Name x px, .Name y py] env)) Q E s
  refine wpAny_bind (wpAny_standAt ?_)
  refine wpAny_unpack_tuple hh ht rfl rfl fun h' he => ?_
  have S1 : St r B env.locals m l { s with heap := h' } := S.ext rfl rfl rfl fun b o e => he b o (Nat.ne_of_lt (Heap.lt_size e)) e
  show wpAny (model PW w) A (do holding [v] (assign (.Name x px) env u); do holding [] (assign (.Name y py) env v); pure ()) Q E _
  refine wpAny_bind (wpAny_holding (wpAny_assign_Name (e_store S1 (fun s₂ S2 => ?_) hx hp)))
  refine wpAny_bind (wpAny_holding (wpAny_assign_Name (e_store S2 (fun s₃ S3 => wpAny_pure (h _ S3)) hy hp)))
end
end Mine
end
section
open PySem PySem.W PyProof.Rows
set_option Elab.async false
set_option maxRecDepth 100000
namespace Mine
def OCell (v : Option Value) : Desc := fun o => o.data = .cell v
theorem lookup_nodup {cs : List (Str × Addr)} (h : (cs.map (·.1)).Nodup) {p : Str × Addr} (hp : p ∈ cs) : cs.lookup p.1 = some p.2 := by
  induction cs with
  | nil => cases hp
  | cons q t ih =>
    rw [List.map_cons, List.nodup_cons] at h
    rw [List.lookup_cons]
    rcases List.mem_cons.mp hp with e | hp'
    · subst e; simp
    · have : (p.1 == q.1) = false := by
        rw [beq_eq_false_iff_ne]
        intro e
        exact h.1 (e ▸ List.mem_map_of_mem (f := (·.1)) hp')
      rw [this]
      exact ih h.2 hp'
section
variable {r : Shared} {B : Addr → Option Obj} {L : Addr} {m : List (Str × Value)} {l : List (Addr × Desc)} {s s' : Shared}
variable {w : World} {A : Around} {E : Value → Shared → Prop} {env : Env}

theorem enterC {R : Result → Shared → Prop} {a : Addr} {o : Obj} {fd : FuncData} {body : List Stmt} {args : List Value} {binds : List (Str × Value)} (B : Addr → Option Obj)
    (hB : ∀ b o, B b = some o → s.heap.get? b = some o)
    (hroom : A.depth < recursionLimit) (ho : s.heap.get? a = some o) (hdata : o.data = .func fd) (hlim : s.heap.NoLimit) (hcd : s.heap.CodeRec fd.code fd.qualname)
    (hbody : fd.body = .stmts body) (hbind : bindArgs fd ⟨args, []⟩ = pure binds) (hclo : fd.closure = [])
    (hkind : ∀ x ∈ binds, fd.scope.names.lookup x.1 = some .local ∨ (fd.scope.names.lookup x.1 = some .cell ∧ ((cellsFrom (s.heap.objs.size + 1) fd.scope.names []).lookup x.1).isSome = true))
    {mL : List (Str × Value)} (hm : ∀ L, (bindL (callEnvC fd L a).kindOf binds fun _ => none) = fun x => mL.lookup x)
    (hnd : ∀ L, ((callEnvC fd L a).cells.map (·.1)).Nodup)
    (h : ∀ L s₁, St s B L mL ((callEnvC fd L a).cells.map fun p => (p.2, OCell (bindC (callEnvC fd L a).kindOf binds (fun _ => none) p.1))) s₁ →
      wpAny (model PW w) (A.deeper (callEnvC fd L a)) (execs body (callEnvC fd L a)) (fun f s' => R (.ok (.ret (retOf f))) s') (fun _ _ => False) s₁)
    (hco : fd.scope.isCoroutine = false := by rfl) (hgen : fd.scope.isGenerator = false := by rfl) (hk : fd.scope.kind = .function := by rfl) :
    codeAny (model PW w) A (.call (.ref a) ⟨args, []⟩) R s := by
  refine codeAny_call_cells hroom ho hdata hlim hcd hbody hbind hclo hkind (fun s₁ I => ?_) hco hgen hk
  obtain ⟨h1, tk1, rfl⟩ := I.toInCall.same
  have hBs : ∀ c, s.heap.objs.size ≤ c → B c = none := fun c hc => by
    cases e : B c with
    | none => rfl
    | some o => exact absurd (Heap.lt_size (hB _ _ e)) (Nat.not_lt.mpr hc)
  refine wpAny_mono (h s.heap.objs.size _ ⟨rfl, rfl, rfl, by rw [← hm]; exact I.toInCall.ns, fun b o e => I.toInCall.keep b o (hB b o e), hBs _ (Nat.le_refl _), fun p hp => ?_, ?_⟩) (fun f _ q => by cases f <;> exact q) fun _ _ q => q.elim
  · obtain ⟨q, hq, rfl⟩ := List.mem_map.mp hp
    have hab : s.heap.objs.size < q.2 := I.above q.1 q.2 hq
    refine ⟨?_, Nat.ne_of_gt hab, hBs _ (Nat.le_of_lt hab)⟩
    exact I.cell q.1 q.2 (lookup_nodup (hnd _) hq)
  · rw [List.map_map]
    have := I.apart
    exact List.pairwise_map.mpr this

theorem e_cell {x : Str} {pos : Pos} {c : Addr} {v : Value} {Q : Value → Shared → Prop} (S : St r B L m l s) (hm : (c, OCell (some v)) ∈ l) (h : Q v s)
    (hc : env.cells.lookup x = some c := by rfl) (hk : env.scope.kind = .function := by rfl) (hl : env.kindOf x = some .cell := by rfl) (hd : (x == ("__debug__" : Str)) = false := by decide) :
    wpAny (model PW w) A (eval (.Name x pos) env) Q E s := wpAny_Name (wpAny_loadName_cell hk hl hc (S.get hm) h) hd
theorem e_free {x : Str} {pos : Pos} {c : Addr} {v : Value} {Q : Value → Shared → Prop} (hv : s.heap.IsCell c (some v)) (h : Q v s)
    (hc : env.cells.lookup x = some c := by rfl) (hk : env.scope.kind = .function := by rfl) (hl : env.kindOf x = some .free := by rfl) (hd : (x == ("__debug__" : Str)) = false := by decide) (hn : (x == ("__classdict__" : Str)) = false := by decide) :
    wpAny (model PW w) A (eval (.Name x pos) env) Q E s := wpAny_Name (wpAny_loadName_free hk hl hc hv h hn) hd
theorem e_storeCell {x : Str} {c : Addr} {v₀ : Option Value} {v : Value} {Q : Unit → Shared → Prop} (S : St r B L m l s) (i : Nat) (hi : l[i]? = some (c, OCell v₀)) (h : ∀ s', St r B L m (l.set i (c, OCell (some v))) s' → Q () s')
    (hc : env.cells.lookup x = some c := by rfl) (hk : env.scope.kind = .function := by rfl) (hl : env.kindOf x = some .cell := by rfl) :
    wpAny (model PW w) A (storeName env x v) Q E s :=
  wpAny_storeName_cell hk hl hc (S.get (List.mem_of_getElem? hi)) fun h' hcell hs => by
    obtain ⟨o', e, d⟩ := hcell
    exact h _ (S.change (s' := { s with heap := h' }) i hi rfl rfl rfl (fun b o hb e => (hs.2 b hb).trans e) e d)
end
end Mine
end
section
open PySem PySem.W PyProof.Rows
set_option Elab.async false
set_option maxRecDepth 100000
namespace Mine
def below (h : Heap) (L : Addr) : Heap := ⟨h.objs.extract 0 L, h.life⟩
def aboveL (h : Heap) (L : Addr) : List (Addr × Obj) := (List.range h.objs.size).filterMap fun a => if L < a then (h.get? a).map fun o => (a, o) else none
theorem below_size (h : Heap) (L : Addr) : (below h L).objs.size ≤ L := by show (h.objs.extract 0 L).size ≤ L; rw [Array.size_extract]; omega
theorem below_get {h : Heap} {L b : Nat} (hb : b < L) : (below h L).get? b = h.get? b := by
  unfold Heap.get? below
  have : (h.objs.extract 0 L)[b]? = h.objs[b]? := by
    rw [Array.getElem?_extract]
    simp only [Nat.zero_add, Nat.sub_zero]
    by_cases q : b < h.objs.size
    · rw [if_pos (by omega)]
    · rw [if_neg (by omega)]; symm; simp; omega
  simp only [this]
theorem below_none {h : Heap} {L b : Nat} (hb : L ≤ b) : (below h L).get? b = none := by
  cases e : (below h L).get? b with
  | none => rfl
  | some o => have := Heap.lt_size e; have := below_size h L; exact absurd (Nat.lt_of_lt_of_le ‹b < _› this) (Nat.not_lt.mpr hb)
theorem mem_above {h : Heap} {L a : Addr} {o : Obj} (hl : L < a) (e : h.get? a = some o) : (a, o) ∈ aboveL h L := by
  unfold aboveL
  refine List.mem_filterMap.mpr ⟨a, List.mem_range.mpr (Heap.lt_size e), ?_⟩
  rw [if_pos hl, e]; rfl
theorem of_above {h : Heap} {L : Addr} {p : Addr × Obj} (hp : p ∈ aboveL h L) : L < p.1 ∧ h.get? p.1 = some p.2 := by
  unfold aboveL at hp
  obtain ⟨a, _, e⟩ := List.mem_filterMap.mp hp
  split at e
  · rename_i hl
    cases q : h.get? a with
    | none => rw [q] at e; cases e
    | some o => rw [q] at e; cases e; exact ⟨hl, q⟩
  · cases e
section
variable {r : Shared} {B : Addr → Option Obj} {L : Addr} {m : List (Str × Value)} {l : List (Addr × Desc)} {s s' : Shared}
theorem St.fr (S : St r B L m l s) : Fr (below s.heap L) L s.heap fun x => m.lookup x := by
  refine ⟨S.ns, fun b o e => ?_, below_size _ _⟩
  by_cases hb : b < L
  · rwa [below_get hb] at e
  · rw [below_none (Nat.not_lt.mp hb)] at e; cases e
theorem St.news (_S : St r B L m l s) : News (below s.heap L) L s.heap (aboveL s.heap L) := fun p hp =>
  ⟨(of_above hp).2, Nat.ne_of_gt (of_above hp).1, below_none (Nat.le_of_lt (of_above hp).1)⟩
theorem fr_keep {h h' : Heap} {mm : Str → Option Value} (F : Fr (below h L) L h' mm) (N : News (below h L) L h' (aboveL h L)) : ∀ b o, b ≠ L → h.get? b = some o → h'.get? b = some o := fun b o hb e => by
  by_cases hl : b < L
  · exact F.keep b o (by rw [below_get hl]; exact e)
  · exact (N _ (mem_above (Nat.lt_of_le_of_ne (Nat.not_lt.mp hl) (Ne.symm hb)) e)).1
theorem St.back (S : St r B L m l s) {m' : List (Str × Value)} {h' : Heap} {tk : Nat} (F : Fr (below s.heap L) L h' fun x => m'.lookup x) (N : News (below s.heap L) L h' (aboveL s.heap L)) : St r B L m' l { s with heap := h', toks := tk } where
  gens := S.gens
  drawn := S.drawn
  os := S.os
  ns := F.ns
  base := fun b o e => fr_keep F N b o (fun q => by rw [q, S.nL] at e; cases e) (S.base b o e)
  nL := S.nL
  own := fun p hp => by
    obtain ⟨⟨o, ho, hd⟩, h1, h2⟩ := S.own p hp
    exact ⟨⟨o, fr_keep F N _ _ h1 ho, hd⟩, h1, h2⟩
  nd := S.nd
theorem News.tail {h₀ h : Heap} {p : Addr × Obj} {t : List (Addr × Obj)} (N : News h₀ L h (p :: t)) : News h₀ L h t := fun q hq => N q (.tail _ hq)
end
section
variable {r : Shared} {B : Addr → Option Obj} {L : Addr} {m : List (Str × Value)} {l : List (Addr × Desc)} {s s' : Shared}
variable {w : World} {A : Around} {E : Value → Shared → Prop} {env : Env}
theorem b_repeat {a : Addr} {vs : List Value} {x : Int} {u : Tok} {Q : Value → Shared → Prop} (S : St r B L m l s) (hm : (a, OList vs) ∈ l) (hne : vs ≠ []) (hlo : -(2 ^ 63 : Int) ≤ x) (hhi : x < 2 ^ 63) (hsz : vs.length * x.toNat ≤ 2 ^ 24)
    (h : ∀ b s', St r B L m ((b, OList (List.replicate x.toNat vs).flatten) :: l) s' → Q (.ref b) s') :
    wpAny (model PW w) A (binaryOp .Mult (.ref a) (.int x u)) Q E s := by
  obtain ⟨k, hl⟩ := S.plain hm
  refine mul_list S.fr S.news hl hlo hhi (by simpa using hsz) fun h' F' N' => ?_
  have hnew := (N' _ (.head _)).1
  refine h _ _ (S.more (S.back (tk := s.toks) F' (News.tail N')) (get_size _) hnew ⟨0, ?_⟩)
  have hn : vs.toArray.isEmpty = false := by cases vs with | nil => exact absurd rfl hne | cons _ _ => rfl
  rw [hn]
  simp only [Bool.false_eq_true, if_false]
  congr 2
  generalize x.toNat = n
  have key : ∀ (n : Nat) (acc : Array Value), List.foldl (fun x1 x2 => x1 ++ x2) acc (List.replicate n vs.toArray) = acc ++ (List.replicate n vs).flatten.toArray := by
    intro n
    induction n with
    | zero => intro acc; simp
    | succ n ih => intro acc; rw [List.replicate_succ, List.foldl_cons, ih, List.replicate_succ, List.flatten_cons]; simp [Array.append_assoc]
  rw [key]; simp
end
end Mine
end
section
open PySem
set_option Elab.async false
namespace Mine
def digsN (n k x : Nat) : List Nat := (List.range k).map fun i => x / 2 ^ (n * i) % 2 ^ n
theorem digsN_len (n k x : Nat) : (digsN n k x).length = k := by simp [digsN]
theorem digsN_split (n a b x : Nat) : digsN n (a + b) x = digsN n a (x % 2 ^ (n * a)) ++ digsN n b (x / 2 ^ (n * a)) := by
  unfold digsN
  rw [List.range_add, List.map_append, List.map_map]
  congr 1
  · apply List.map_congr_left
    intro i hi
    have hia : i < a := List.mem_range.mp hi
    have h1 : n * a = n * i + (n * (a - i)) := by rw [← Nat.mul_add]; congr 1; omega
    have h2 : n * (a - i) = n + n * (a - i - 1) := by
      obtain ⟨k, hk⟩ : ∃ k, a - i = k + 1 := ⟨a - i - 1, by omega⟩
      rw [hk, Nat.mul_add, Nat.mul_one, Nat.add_sub_cancel, Nat.add_comm]
    rw [h1, Nat.pow_add, Nat.mod_mul_right_div_self, h2, Nat.pow_add, Nat.mod_mul_right_mod]
  · apply List.map_congr_left
    intro i _
    simp only [Function.comp]
    rw [Nat.div_div_eq_div_mul, ← Nat.pow_add, Nat.mul_add]
theorem digsN_one (n x : Nat) (h : x < 2 ^ n) : digsN n 1 x = [x] := by
  simp [digsN, Nat.mod_eq_of_lt h]
theorem bitNot_eq (x : Int) : Builtin.bitNot x = -x - 1 := by
  unfold Builtin.bitNot
  first | rfl | omega
theorem bitAnd_nat (x y : Nat) : Builtin.bitAnd (x : Int) (y : Int) = ((x &&& y : Nat) : Int) := by
  unfold Builtin.bitAnd
  have h1 : decide ((0 : Int) ≤ (x : Int)) = true := by simp
  have h2 : decide ((0 : Int) ≤ (y : Int)) = true := by simp
  rw [h1, h2]; rfl
theorem bitOr_nat (x y : Nat) : Builtin.bitOr (x : Int) (y : Int) = ((x ||| y : Nat) : Int) := by
  unfold Builtin.bitOr
  have e : Builtin.bitAnd (Builtin.bitNot x) (Builtin.bitNot y) = Builtin.bitNot ((x ||| y : Nat) : Int) := by
    unfold Builtin.bitAnd
    have h1 : decide ((0 : Int) ≤ Builtin.bitNot (x : Int)) = false := by rw [bitNot_eq]; simp; omega
    have h2 : decide ((0 : Int) ≤ Builtin.bitNot (y : Int)) = false := by rw [bitNot_eq]; simp; omega
    rw [h1, h2]
    simp only [bitNot_eq]
    have e1 : (-(-(x : Int) - 1) - 1).toNat = x := by omega
    have e2 : (-(-(y : Int) - 1) - 1).toNat = y := by omega
    rw [e1, e2]
  rw [e, bitNot_eq, bitNot_eq]; omega
theorem and_trunc (x s : Nat) : x &&& (x / 2 ^ s * 2 ^ s) = x / 2 ^ s * 2 ^ s := by
  apply Nat.eq_of_testBit_eq
  intro i
  rw [Nat.testBit_and, ← Nat.shiftLeft_eq, ← Nat.shiftRight_eq_div_pow, Nat.testBit_shiftLeft]
  by_cases h : s ≤ i
  · rw [Nat.testBit_shiftRight]
    have : s + (i - s) = i := by omega
    rw [this]; simp [h]
  · simp [h]
theorem or_trunc (x s : Nat) : x ||| (x / 2 ^ s * 2 ^ s) = x := by
  apply Nat.eq_of_testBit_eq
  intro i
  rw [Nat.testBit_or, ← Nat.shiftLeft_eq, ← Nat.shiftRight_eq_div_pow, Nat.testBit_shiftLeft]
  by_cases h : s ≤ i
  · rw [Nat.testBit_shiftRight]
    have : s + (i - s) = i := by omega
    rw [this]; simp [h]
  · simp [h]
theorem xor_trunc (x s : Nat) : Builtin.bitXor (x : Int) (((x / 2 ^ s * 2 ^ s : Nat)) : Int) = ((x % 2 ^ s : Nat) : Int) := by
  unfold Builtin.bitXor
  rw [bitOr_nat, bitAnd_nat, and_trunc, or_trunc]
  have := Nat.div_add_mod x (2 ^ s)
  have h2 : 2 ^ s * (x / 2 ^ s) = x / 2 ^ s * 2 ^ s := Nat.mul_comm _ _
  omega
end Mine
end
section
open PySem PySem.W PyProof.Rows
set_option Elab.async false
set_option maxRecDepth 100000
namespace Mine
section
variable {r : Shared} {B : Addr → Option Obj} {L : Addr} {m : List (Str × Value)} {l : List (Addr × Desc)} {s s' : Shared}
variable {w : World} {A : Around} {E : Value → Shared → Prop} {env : Env}
/-- as enter, with things of the caller's own that the def may change (hidden from B) -/
theorem enterH {R : Result → Shared → Prop} {a : Addr} {o : Obj} {fd : FuncData} {body : List Stmt} {args : List Value} {binds : List (Str × Value)} (B : Addr → Option Obj) (l₀ : List (Addr × Desc))
    (hB : ∀ b o, B b = some o → s.heap.get? b = some o) (hl₀ : ∀ p ∈ l₀, (∃ o, s.heap.get? p.1 = some o ∧ p.2 o) ∧ B p.1 = none) (hnd : (l₀.map (·.1)).Nodup)
    (hroom : A.depth < recursionLimit) (ho : s.heap.get? a = some o) (hdata : o.data = .func fd) (hlim : s.heap.NoLimit) (hcd : s.heap.CodeRec fd.code fd.qualname)
    (hbody : fd.body = .stmts body) (hbind : bindArgs fd ⟨args, []⟩ = pure binds)
    (hcell : ∀ x ∈ fd.scope.names, x.2 ≠ .cell) (hloc : ∀ x ∈ binds, fd.scope.names.lookup x.1 = some .local)
    (h : ∀ L s₁, St s B L binds.reverse l₀ s₁ → wpAny (model PW w) (A.deeper (callEnv fd L a)) (execs body (callEnv fd L a)) (fun f s' => R (.ok (.ret (retOf f))) s') (fun _ _ => False) s₁)
    (hco : fd.scope.isCoroutine = false := by rfl) (hgen : fd.scope.isGenerator = false := by rfl) (hk : fd.scope.kind = .function := by rfl) :
    codeAny (model PW w) A (.call (.ref a) ⟨args, []⟩) R s := by
  refine codeAny_call_def hroom ho hdata hlim hcd hbody (BindsTo.of_eq hbind) hcell hloc (fun h₀ hns hk₀ => ?_) hco hgen hk
  refine wpAny_mono (h _ _ ⟨rfl, rfl, rfl, hns, fun b o e => hk₀ b o (hB b o e), ?_, fun p hp => ?_, hnd⟩) (fun f _ q => by cases f <;> exact q) fun _ _ q => q.elim
  · cases e : B s.heap.objs.size with
    | none => rfl
    | some o => have := hB _ _ e; rw [get_size] at this; cases this
  · obtain ⟨⟨o, e, d⟩, hb⟩ := hl₀ p hp
    exact ⟨⟨o, hk₀ _ _ e, d⟩, Nat.ne_of_lt (Heap.lt_size e), hb⟩
theorem setItem_plain {a : Addr} {items : Array Value} {k : Int} {t : Tok} {v : Value} {Q : Unit → Shared → Prop} (hl : s.heap.PlainList a items) (h0 : 0 ≤ k) (hfit : k < 2 ^ 63) (hn : k < items.size)
    (hQ : ∀ h', h'.PlainList a (items.setIfInBounds k.toNat v) → Heap.SameBut a s.heap h' → Q () { s with heap := h' }) :
    wpAny (model PW w) A (setItem (.ref a) (.int k t) v) Q E s :=
  let ⟨ne, ho⟩ := hl
  ki_setAt (n := ne) ho h0 hfit hn (hQ _ ⟨_, PySem.IsL.update (n := ne) ho _⟩ (Heap.SameBut.update ..))
theorem e_setList {a : Addr} {vs : List Value} {k : Int} {t : Tok} {v : Value} {Q : Unit → Shared → Prop} (S : St r B L m l s) (i : Nat) (hi : l[i]? = some (a, OList vs)) (h0 : 0 ≤ k) (hfit : k < 2 ^ 63) (hn : k < vs.length)
    (h : ∀ s', St r B L m (l.set i (a, OList (vs.set k.toNat v))) s' → Q () s') : wpAny (model PW w) A (setItem (.ref a) (.int k t) v) Q E s := by
  refine setItem_plain (S.plain (List.mem_of_getElem? hi)) h0 hfit (by simpa using hn) fun h' hl hs => ?_
  obtain ⟨n, e⟩ := hl
  exact h _ (S.change (s' := { s with heap := h' }) i hi rfl rfl rfl (fun b o hb e => (hs.2 b hb).trans e) e ⟨n, by simp⟩)
/-- an append to the i-th own thing -/
theorem e_append {a : Addr} {vs : List Value} {v : Value} {Q : Value → Shared → Prop} (S : St r B L m l s) (i : Nat) (hi : l[i]? = some (a, OList vs)) (h : ∀ s', St r B L m (l.set i (a, OList (vs ++ [v]))) s' → Q .none s') (hsz : vs.length ≤ sizeLine) :
    wpAny (model PW w) A (call (.builtin "list.append") [.ref a, v]) Q E s := by
  refine wpAny_list_append_plain (S.plain (List.mem_of_getElem? hi)) (fun h' hl hs => ?_) (by simpa using hsz)
  obtain ⟨n, e⟩ := hl
  exact h _ (S.change (s' := { s with heap := h' }) i hi rfl rfl rfl (fun b o hb e => (hs.2 b hb).trans e) e ⟨n, by simp⟩)
theorem e_mAppend {a : Addr} {vs : List Value} {pl : Sem Bool} {Q : Value × List Value → Shared → Prop} (S : St r B L m l s) (hm : (a, OList vs) ∈ l) (h : Q (.builtin "list.append", [.ref a]) s) : wpAny (model PW w) A (getMethod (.ref a) "append" pl) Q E s := by
  obtain ⟨n, e⟩ := S.plain hm
  exact Calls.getMethod_list_append e rfl rfl h
theorem b_mul {a b : Int} {t u : Tok} {Q : Value → Shared → Prop} (S : St r B L m l s) (hb : IntMulOk a b) (h : ∀ t s', St r B L m l s' → Q (.int (a * b) t) s') :
    wpAny (model PW w) A (binaryOp .Mult (.int a t) (.int b u)) Q E s := mul_int (h _ _ (S.toks _)) hb
theorem b_xor {a b : Int} {t u : Tok} {Q : Value → Shared → Prop} (S : St r B L m l s) (h : ∀ t s', St r B L m l s' → Q (.int (Builtin.bitXor a b) t) s') :
    wpAny (model PW w) A (binaryOp .BitXor (.int a t) (.int b u)) Q E s := xor_int (h _ _ (S.toks _))
theorem b_shl {a n : Int} {t u : Tok} {Q : Value → Shared → Prop} (S : St r B L m l s) (hA : A.handled = none) (hn : 0 ≤ n) (hsz : (Builtin.Int.intBits a : Int) + n ≤ 2 ^ 27) (h : ∀ t s', St r B L m l s' → Q (.int (a * 2 ^ n.toNat) t) s') :
    wpAny (model PW w) A (binaryOp .LShift (.int a t) (.int n u)) Q E s := lshift_int_or hA (fun q => absurd hn (by omega)) (fun _ => hsz) (fun _ => h _ _ (S.toks _))
end
end Mine
end
section
open PySem PySem.W PyProof.Rows
set_option Elab.async false
set_option maxRecDepth 100000
namespace Mine
def ONs (m : List (Str × Value)) : Desc := fun o => ∃ es ep, o.data = .dict es ep ∧ StrKeys es ∧ ∀ name, nsFind es name = m.lookup name
section
variable {r : Shared} {B : Addr → Option Obj} {L : Addr} {m : List (Str × Value)} {l : List (Addr × Desc)} {s s' : Shared}
theorem St.nsOwn (S : St r B L m l s) {a : Addr} {m' : List (Str × Value)} (h : (a, ONs m') ∈ l) : s.heap.Ns a fun x => m'.lookup x := by
  obtain ⟨o, e, es, ep, hd, hk, hf⟩ := S.get h
  exact ⟨o, es, ep, e, hd, hk, hf⟩
/-- the frames exchanged -/
theorem St.switch {C : Addr} {mC : List (Str × Value)} (S : St r B C mC ((L, ONs m) :: l) s) : St r B L m ((C, ONs mC) :: l) s := by
  have h0 := S.own _ (.head _)
  have hn := List.nodup_cons.mp S.nd
  refine ⟨S.gens, S.drawn, S.os, S.nsOwn (.head _), S.base, h0.2.2, fun p hp => ?_, ?_⟩
  · rcases List.mem_cons.mp hp with rfl | hp
    · obtain ⟨o, es, ep, e, hd, hk, hf⟩ := S.ns
      exact ⟨⟨o, e, es, ep, hd, hk, hf⟩, Ne.symm h0.2.1, S.nL⟩
    · obtain ⟨h1, _, h3⟩ := S.own p (.tail _ hp)
      exact ⟨h1, fun q => hn.1 (by show L ∈ l.map (·.1); rw [← q]; exact List.mem_map_of_mem hp), h3⟩
  · rw [List.map_cons, List.nodup_cons]
    refine ⟨fun q => ?_, hn.2⟩
    obtain ⟨p, hp, e⟩ := List.mem_map.mp q
    exact (S.own p (.tail _ hp)).2.1 e
/-- a new frame entered -/
theorem St.inner (S : St r B L m l s) {h' : Heap} {tk : Nat} {o : Obj} (hn : h'.Ns s.heap.objs.size fun _ => none) (hs : Heap.SameBut s.heap.objs.size (s.heap.push o) h') :
    St r B s.heap.objs.size [] ((L, ONs m) :: l) { s with heap := h', toks := tk } := by
  have keep : ∀ b o', s.heap.get? b = some o' → h'.get? b = some o' := fun b o' e => (hs.2 b (Nat.ne_of_lt (Heap.lt_size e))).trans (Heap.get?_push_of_some _ e)
  have hab := S.absent (get_size s.heap)
  refine ⟨S.gens, S.drawn, S.os, by simpa using hn, fun b o' e => keep _ _ (S.base b o' e), hab.2.1, fun p hp => ?_, ?_⟩
  · rcases List.mem_cons.mp hp with rfl | hp
    · obtain ⟨o', es, ep, e, hd, hk, hf⟩ := S.ns
      exact ⟨⟨o', keep _ _ e, es, ep, hd, hk, hf⟩, Ne.symm hab.1, S.nL⟩
    · obtain ⟨⟨o', e, hd⟩, h2, h3⟩ := S.own p hp
      exact ⟨⟨o', keep _ _ e, hd⟩, Nat.ne_of_lt (Heap.lt_size e), h3⟩
  · rw [List.map_cons, List.nodup_cons]
    refine ⟨fun q => ?_, S.nd⟩
    obtain ⟨p, hp, e⟩ := List.mem_map.mp q
    exact (S.own p hp).2.1 e
/-- the first own thing let go (changed at will) -/
theorem St.lose {a : Addr} {D : Desc} (S : St r B L m ((a, D) :: l) s) {h' : Heap} {tk : Nat} (hs : Heap.SameBut a s.heap h') : St r B L m l { s with heap := h', toks := tk } := S.dropIt hs.extBut
end

theorem perm_rev3 {α : Type} (a b c : α) (l : List α) : (a :: b :: c :: l).Perm (c :: b :: a :: l) :=
  (List.Perm.swap b a (c :: l)).trans (((List.Perm.swap c a l).cons b).trans (List.Perm.swap c b (a :: l)))

structure Iter (w : World) (A : Around) (it : Addr) (n : Nat) (V : Nat → Value → Prop) (D : Nat → Desc) (G : Shared → Prop) : Prop where
  next : ∀ i s (Q : Option Value → Shared → Prop) (E : Value → Shared → Prop), (∃ o, s.heap.get? it = some o ∧ D i o) → G s → i ≤ n →
     (i = n → ∀ h', Heap.ExtBut it s.heap h' → Q none { s with heap := h' }) →
     (i < n → ∀ v h' tk o', V i v → Heap.SameBut it s.heap h' → h'.get? it = some o' → D (i + 1) o' → Q (some v) { s with heap := h', toks := tk }) →
     wpAny (model PW w) A (pyNext (.ref it)) Q E s
  self : ∀ i s (Q : Value → Shared → Prop) (E : Value → Shared → Prop), (∃ o, s.heap.get? it = some o ∧ D i o) → Q (.ref it) s → wpAny (model PW w) A (pyIter (.ref it)) Q E s

theorem iter_list {w : World} {A : Around} (hh : A.handled = none) (it aw : Addr) (its : List Value) : Iter w A it its.length (fun i v => its[i]? = some v) (OListIter aw) (fun s => s.heap.IsList aw its.toArray) where
  next := fun i s Q E hit hl hi h0 h1 => by
    obtain ⟨o, e, hc, hd⟩ := hit
    have hit' : s.heap.IsListIter it aw i := ⟨o, e, hc, hd⟩
    cases hv : its[i]? with
    | none =>
      have he : i = its.length := by have := List.getElem?_eq_none_iff.mp hv; omega
      exact wpAny_pyNext_list_end hh hit' hl (by simpa using hv) (h0 he)
    | some v =>
      have hlt : i < its.length := (List.getElem?_eq_some_iff.mp hv).1
      refine wpAny_pyNext_list_item hit' hl (x := v) (by simpa using hv) fun h₁ hit₁ hs₁ => ?_
      obtain ⟨o1, ho1, hc1, hd1⟩ := hit₁
      exact h1 hlt v h₁ _ o1 hv hs₁ ho1 ⟨hc1, hd1⟩
  self := fun i s Q E hit h => by
    obtain ⟨o, e, hc, hd⟩ := hit
    exact wpAny_pyIter_listiter (l := aw) (i := i) ⟨o, e, hc, hd⟩ h

def ORangeIter (n i : Nat) : Desc := fun o => o = { cls := .type "range_iterator", dict := none, data := .fields #[rawInt i, rawInt ((n : Int) - i), rawInt 1], slots := #[] }
theorem iter_range {w : World} {A : Around} (hh : A.handled = none) (it : Addr) (n : Nat) : Iter w A it n (fun i v => ∃ t, v = .int i t) (ORangeIter n) (fun _ => True) where
  next := fun i s Q E hit _ hi h0 h1 => by
    obtain ⟨o, e, rfl⟩ := hit
    by_cases hlt : i < n
    · refine wpAny_pyNext_range_item (x := i) (left := (n : Int) - i) (step := 1) e (by omega) fun h₁ hit₁ hs₁ => ?_
      refine h1 hlt _ h₁ _ _ ⟨_, rfl⟩ hs₁ hit₁ ?_
      have e1 : (i : Int) + 1 = ((i + 1 : Nat) : Int) := by omega
      have e2 : (n : Int) - i - 1 = (n : Int) - ((i + 1 : Nat) : Int) := by omega
      show _ = _
      rw [e1, e2]
    · exact wpAny_pyNext_range_end (x := i) (left := (n : Int) - i) (step := 1) hh e (by omega) (h0 (by omega))
  self := fun i s Q E hit h => by
    obtain ⟨o, e, rfl⟩ := hit
    exact wpAny_pyIter_rangeiter (x := i) (left := (n : Int) - i) (step := 1) e h

section
variable {r : Shared} {B : Addr → Option Obj} {m : List (Str × Value)} {l : List (Addr × Desc)} {s s' : Shared}
variable {w : World} {A : Around} {E : Value → Shared → Prop} {env : Env}

theorem St.nextEnd {L it : Addr} {D : Desc} (S : St r B L m ((it, D) :: l) s) {h' : Heap} (hx : Heap.ExtBut it s.heap h') : St r B L m l { s with heap := h' } := S.dropIt (tk := s.toks) hx

theorem for_go {R : Result → Shared → Prop} {target : Expr} {body : List Stmt} {it : Addr} {n : Nat} {V : Nat → Value → Prop} {D : Nat → Desc} {G : Shared → Prop} (hIt : Iter w A it n V D G)
    (I : Nat → (Addr → Option Obj) → List (Str × Value) → List (Addr × Desc) → Prop)
    (S : St r B env.locals m ((it, D 0) :: l) s) (start : I 0 B m l)
    (hG : ∀ i B m l s, I i B m l → St r B env.locals m ((it, D i) :: l) s → G s)
    (turn : ∀ i v B m l s, i < n → V i v → I i B m l → St r B env.locals m ((it, D (i + 1)) :: l) s →
      wpAny (model PW w) A (assign target env v) (fun _ s₂ => wpAny (model PW w) A (execs body env) (fun f s₃ => match f with
        | .next | .cont => ∃ B' m' l', St r B' env.locals m' ((it, D (i + 1)) :: l') s₃ ∧ I (i + 1) B' m' l'
        | .brk => R (.ok .next) s₃
        | .ret v => R (.ok (.ret v)) s₃) (fun _ _ => False) s₂) (fun _ _ => False) s)
    (fin : ∀ B m l s, I n B m l → St r B env.locals m l s → R (.ok .next) s)
    (ht : ∀ v, letOwnedTupleGo target (.ref it) v = pure () := by intro _; rfl) :
    codeAny (model PW w) A (.forLoop target (.ref it) body [] env) R s := by
  refine codeAny_forLoop (fun k s' => ∃ i B m l, k = n - i ∧ i ≤ n ∧ St r B env.locals m ((it, D i) :: l) s' ∧ I i B m l) ?_ (n - 0) ⟨0, B, m, l, rfl, Nat.zero_le _, S, start⟩ ht
  rintro k s' ⟨i, B, m, l, rfl, hi, S', hI⟩
  refine hIt.next i s' _ _ (S'.get (.head _)) (hG i B m l s' hI S') hi (fun he h' hx => ?_) fun hlt v h' tk o' hv hs ho hD => ?_
  · subst he
    exact wpAny_execs_nil (fin B m l _ hI (S'.nextEnd hx))
  · refine w_noE (wpAny_mono (turn i v B m l _ hlt hv hI (S'.headIs (tk := tk) hs ho hD)) (fun _ s₂ h₂ => w_noE (wpAny_mono h₂ (fun f s₃ h₃ => ?_) fun _ _ q => q.elim)) fun _ _ q => q.elim)
    cases f with
    | next => obtain ⟨B', m', l', S3, I3⟩ := h₃; exact ⟨n - (i + 1), by omega, i + 1, B', m', l', rfl, hlt, S3, I3⟩
    | cont => obtain ⟨B', m', l', S3, I3⟩ := h₃; exact ⟨n - (i + 1), by omega, i + 1, B', m', l', rfl, hlt, S3, I3⟩
    | brk => exact h₃
    | ret v => exact h₃

/-- the tests of a comprehension -/
abbrev testsOf (ifs : List Expr) (env : Env) : Sem Bool := forIn ifs true fun c r => if r = true then do let ok ← isTrue c env (eval c env); pure (ForInStep.yield ok) else pure (ForInStep.yield r)

theorem comp_core {elt iter : Expr} {x : Str} {px : Pos} {ifs : List Expr} {scope : Scope} {cl : List (Str × Addr)} {pos : Pos} {it : Addr} {n : Nat} {V : Nat → Value → Prop} {D : Nat → Desc} {G : Shared → Prop} (hIt : Iter w A it n V D G)
    {RR : Value → Addr → Result → Shared → Prop}
    (I : Nat → List Value → List (Addr × Desc) → Prop)
    (S : St r B env.locals m ((it, D 0) :: l) s) (start : I 0 [] l)
    (hG : ∀ i C mC acc ys l' s', I i ys l' → St r B C mC ((it, D i) :: (acc, OList ys) :: (env.locals, ONs m) :: l') s' → G s')
    (hlen : ∀ i ys l', i < n → I i ys l' → ys.length ≤ sizeLine)
    (turn : ∀ C acc i v ys mC l' s', i < n → V i v → I i ys l' → St r B C ((x, v) :: mC) ((it, D (i + 1)) :: (acc, OList ys) :: (env.locals, ONs m) :: l') s' →
      wpAny (model PW w) A (testsOf ifs (compEnvC scope cl C env)) (fun ok s₄ =>
        if ok = true then wpAny (model PW w) A (eval elt (compEnvC scope cl C env)) (fun y s₅ => ∃ mC' l'', St r B C mC' ((it, D (i + 1)) :: (acc, OList ys) :: (env.locals, ONs m) :: l'') s₅ ∧ I (i + 1) (ys ++ [y]) l'') (fun _ _ => False) s₄
        else ∃ mC' l'', St r B C mC' ((it, D (i + 1)) :: (acc, OList ys) :: (env.locals, ONs m) :: l'') s₄ ∧ I (i + 1) ys l'') (fun _ _ => False) s')
    (fin : ∀ C acc ys mC l' s', I n ys l' → St r B C mC ((acc, OList ys) :: (env.locals, ONs m) :: l') s' → RR (.ref acc) C (.ok .next) s')
    (hcell : ∀ y ∈ scope.names, y.2 ≠ .cell) (hkind : scope.kind = .function) (hx : scope.names.lookup x = some .local) :
    wpAny (model PW w) A (newList []) (fun acc s₃ => wpAny (model PW w) A (newFunctionEnv scope env.globals cl [] env.qual none .none (some env)) (fun cenv s₄ =>
      codeAny (model PW w) A (.compStart (.ListComp elt [⟨.Name x px, iter, ifs, 0⟩] scope pos) 0 (.ref it) acc { cenv with scope := relabel scope env }) (RR acc cenv.locals) s₄) E s₃) E s := by
  refine e_newList S (fun acc s₃ S₃ => wpAny_newFunctionEnv hcell (by intro y hy; simp at hy) (fun h₁ hns₁ hsb₁ => ?_) hkind) (by simp)
  have S₄ := S₃.inner (tk := s₃.toks + ([] : List (Str × Value)).length) (by simpa using hns₁) hsb₁
  generalize hCC : s₃.heap.objs.size = C at S₄ ⊢
  have SS : St r B C [] ((it, D 0) :: (acc, OList []) :: (env.locals, ONs m) :: l) { s₃ with heap := h₁, toks := s₃.toks + ([] : List (Str × Value)).length } := by
    exact S₄.perm (perm_rev3 _ _ _ _)
  generalize { s₃ with heap := h₁, toks := s₃.toks + ([] : List (Str × Value)).length } = s₄ at SS ⊢
  have hkx : (compEnvC scope cl C env).kindOf x = some .local := lookup_relabel_local hx
  have hpx : ((compEnvC scope cl C env).scope.kind == .class || ((compEnvC scope cl C env).scope.kind == .module && (compEnvC scope cl C env).locals != (compEnvC scope cl C env).globals)) = false := by simp [compEnvC, relabel, hkind]
  have loop : ∀ s₄, St r B C [] ((it, D 0) :: (acc, OList []) :: (env.locals, ONs m) :: l) s₄ →
      codeAny (model PW w) A (.compLoop (.ListComp elt [⟨.Name x px, iter, ifs, 0⟩] scope pos) 0 (.ref it) (.ref acc) (compEnvC scope cl C env)) (RR (.ref acc) C) s₄ := by
    intro s₄ SS
    refine codeAny_compLoop_tests (fun k s' => ∃ i ys mC l', k = n - i ∧ i ≤ n ∧ St r B C mC ((it, D i) :: (acc, OList ys) :: (env.locals, ONs m) :: l') s' ∧ I i ys l') ?_ (n - 0) ⟨0, [], [], l, rfl, Nat.zero_le _, SS, start⟩
    rintro k s' ⟨i, ys, mC, l', rfl, hi, S', hI⟩
    refine hIt.next i s' _ _ (S'.get (.head _)) (hG i C mC acc ys l' s' hI S') hi (fun he h' hx => ?_) fun hlt v h' tk o' hv hs ho hD => ?_
    · subst he
      exact fin C acc ys mC l' _ hI (S'.nextEnd hx)
    · refine wpAny_assign_Name (e_store (env := compEnvC scope cl C env) (S'.headIs (tk := tk) hs ho hD) (fun s₅ S₅ => ?_) hkx hpx)
      refine w_noE (wpAny_mono (turn C acc i v ys mC l' s₅ hlt hv hI S₅) (fun ok s₆ h₆ => ?_) fun _ _ q => q.elim)
      cases ok with
      | false =>
        rw [if_neg Bool.false_ne_true] at h₆ ⊢
        obtain ⟨mC', l'', S7, I7⟩ := h₆
        exact ⟨n - (i + 1), by omega, i + 1, ys, mC', l'', rfl, hlt, S7, I7⟩
      | true =>
        rw [if_pos rfl] at h₆ ⊢
        refine w_noE (wpAny_mono h₆ (fun y s₇ h₇ => ?_) fun _ _ q => q.elim)
        obtain ⟨mC', l'', S7, I7⟩ := h₇
        refine e_append S7 1 rfl (fun s₈ S8 => ?_) (hlen i ys l' hlt hI)
        exact ⟨n - (i + 1), by omega, i + 1, ys ++ [y], mC', l'', rfl, hlt, S8, I7⟩
  exact codeAny_compStart_list (loop _ SS) (hIt.self 0 _ _ _ (SS.get (.head _)) (loop _ SS))
end
end Mine
end
section
open PySem PySem.W PyProof.Rows
set_option Elab.async false
set_option maxRecDepth 100000
namespace Mine
section
variable {r : Shared} {B : Addr → Option Obj} {m : List (Str × Value)} {l : List (Addr × Desc)} {s s' : Shared}
variable {w : World} {A : Around} {E : Value → Shared → Prop} {env : Env}
def CompAt (w : World) (A : Around) (E : Value → Shared → Prop) (env : Env) (e : Expr) (scope : Scope) (cl : List (Str × Addr)) (use : Option (Value → Sem Unit)) (Q : Value → Shared → Prop) (it : Value) (s : Shared) : Prop :=
  wpAny (model PW w) A (newList []) (fun acc s₃ => wpAny (model PW w) A (newFunctionEnv scope env.globals cl [] env.qual none .none (some env)) (fun cenv s₄ =>
      codeAny (model PW w) A (.compStart e 0 it acc { cenv with scope := relabel scope env }) (compPost (model PW w) A E use Q acc cenv.locals) s₄) E s₃) E s

theorem names_ok {l : List (Str × NameKind)} (h : (l.all fun x => !(x.2 == .local) || l.lookup x.1 == some .local) = true) : ∀ y ∈ l, y.2 = .local → l.lookup y.1 = some .local := fun y hy q => by
  have := List.all_eq_true.mp h y hy
  rw [q] at this
  simpa using this

/-- a list comprehension as an expression -/
theorem e_comp {elt iter : Expr} {x : Str} {px : Pos} {ifs : List Expr} {scope : Scope} {cl : List (Str × Addr)} {pos : Pos} {Q : Value → Shared → Prop}
    (hclos : closureFor scope env = pure cl) (hkind : scope.kind = .function)
    (hnames : (scope.names.all fun x => !(x.2 == .local) || scope.names.lookup x.1 == some .local) = true)
    (h : wpAny (model PW w) A (eval iter env) (fun xv s₁ => wpAny (model PW w) A (pyIter xv) (fun it s₂ => CompAt w A E env (.ListComp elt [⟨.Name x px, iter, ifs, 0⟩] scope pos) scope cl none Q it s₂) E s₁) E s)
    (hs : ∀ x, foldedSetIterable iter env x = pure x := by intro _; rfl) :
    wpAny (model PW w) A (eval (.ListComp elt [⟨.Name x px, iter, ifs, 0⟩] scope pos) env) Q E s := by
  rw [eval_ListComp]
  exact wpAny_comprehension_free (use := none) rfl hs hclos hkind (names_ok hnames) h

/-- a list comprehension bound to a local name -/
theorem e_assignComp {elt iter : Expr} {x y : Str} {px py : Pos} {ifs : List Expr} {scope : Scope} {cl : List (Str × Addr)} {pos spos : Pos} {Q : Flow → Shared → Prop}
    (hsw : swapsWith (.ListComp elt [⟨.Name x px, iter, ifs, 0⟩] scope pos) (some (.Name y py)) spos.line env = pure true)
    (hclos : closureFor scope env = pure cl) (hkind : scope.kind = .function)
    (hnames : (scope.names.all fun x => !(x.2 == .local) || scope.names.lookup x.1 == some .local) = true)
    (h : wpAny (model PW w) A (eval iter env) (fun xv s₁ => wpAny (model PW w) A (pyIter xv) (fun it s₂ => CompAt w A E env (.ListComp elt [⟨.Name x px, iter, ifs, 0⟩] scope pos) scope cl (some (assign (.Name y py) env)) (fun _ s' => Q .next s') it s₂) E s₁) E s)
    (hs : ∀ x, foldedSetIterable iter env x = pure x := by intro _; rfl) :
    wpAny (model PW w) A (exec (.Assign [.Name y py] (.ListComp elt [⟨.Name x px, iter, ifs, 0⟩] scope pos) spos) env) Q E s := by
  rw [exec_Assign_Name_used _ _ _ _ hsw]
  refine wpAny_bind (wpAny_standAt (wpAny_bind ?_))
  show wpAny _ A (do let _ ← comprehension (.ListComp elt [⟨.Name x px, iter, ifs, 0⟩] scope pos) scope env _ (newList []) false (eval iter env) (some (assign (.Name y py) env))) _ _ s
  exact wpAny_bind (wpAny_mono (wpAny_comprehension_free (use := some (assign (.Name y py) env)) (Q := fun _ s' => Q .next s') rfl hs hclos hkind (names_ok hnames) h) (fun _ s' hq => wpAny_pure (wpAny_pure hq)) fun _ _ e => e)

theorem St.leave {C L : Addr} {mC : List (Str × Value)} (S : St r B C mC (l) s) {l' : List (Addr × Desc)} (hp : ((L, ONs m) :: l').Perm l) {h' : Heap} (hs : Heap.SameBut C s.heap h') : St r B L m l' { s with heap := h' } :=
  ((S.perm hp).switch).lose (tk := s.toks) hs

variable {elt iter : Expr} {x : Str} {px : Pos} {ifs : List Expr} {scope : Scope} {cl : List (Str × Addr)} {pos : Pos} {it : Addr} {n : Nat} {V : Nat → Value → Prop} {D : Nat → Desc} {G : Shared → Prop}
theorem comp_go {Q : Value → Shared → Prop} (hIt : Iter w A it n V D G)
    (I : Nat → List Value → List (Addr × Desc) → Prop)
    (S : St r B env.locals m ((it, D 0) :: l) s) (start : I 0 [] l)
    (hG : ∀ i C mC acc ys l' s', I i ys l' → St r B C mC ((it, D i) :: (acc, OList ys) :: (env.locals, ONs m) :: l') s' → G s')
    (hlen : ∀ i ys l', i < n → I i ys l' → ys.length ≤ sizeLine)
    (turn : ∀ C acc i v ys mC l' s', i < n → V i v → I i ys l' → St r B C ((x, v) :: mC) ((it, D (i + 1)) :: (acc, OList ys) :: (env.locals, ONs m) :: l') s' →
      wpAny (model PW w) A (testsOf ifs (compEnvC scope cl C env)) (fun ok s₄ =>
        if ok = true then wpAny (model PW w) A (eval elt (compEnvC scope cl C env)) (fun y s₅ => ∃ mC' l'', St r B C mC' ((it, D (i + 1)) :: (acc, OList ys) :: (env.locals, ONs m) :: l'') s₅ ∧ I (i + 1) (ys ++ [y]) l'') (fun _ _ => False) s₄
        else ∃ mC' l'', St r B C mC' ((it, D (i + 1)) :: (acc, OList ys) :: (env.locals, ONs m) :: l'') s₄ ∧ I (i + 1) ys l'') (fun _ _ => False) s')
    (fin : ∀ acc ys l' s', I n ys l' → St r B env.locals m ((acc, OList ys) :: l') s' → Q (.ref acc) s')
    (hcell : (scope.names.all fun x => !(x.2 == .cell)) = true := by rfl) (hkind : scope.kind = .function := by rfl) (hx : scope.names.lookup x = some .local := by rfl) :
    CompAt w A E env (.ListComp elt [⟨.Name x px, iter, ifs, 0⟩] scope pos) scope cl none Q (.ref it) s := by
  refine comp_core (RR := fun acc C => compPost (model PW w) A E none Q acc C) hIt I S start hG hlen turn (fun C acc ys mC l' s' hI S' => ?_) (cells_of hcell) hkind hx
  obtain hn := S'.ns
  exact ⟨_, hn, fun h' hs => fin acc ys l' _ hI (S'.leave (List.Perm.swap _ _ _) hs)⟩

theorem comp_goA {Q : Value → Shared → Prop} {y : Str} {py : Pos} (hIt : Iter w A it n V D G)
    (I : Nat → List Value → List (Addr × Desc) → Prop)
    (S : St r B env.locals m ((it, D 0) :: l) s) (start : I 0 [] l)
    (hG : ∀ i C mC acc ys l' s', I i ys l' → St r B C mC ((it, D i) :: (acc, OList ys) :: (env.locals, ONs m) :: l') s' → G s')
    (hlen : ∀ i ys l', i < n → I i ys l' → ys.length ≤ sizeLine)
    (turn : ∀ C acc i v ys mC l' s', i < n → V i v → I i ys l' → St r B C ((x, v) :: mC) ((it, D (i + 1)) :: (acc, OList ys) :: (env.locals, ONs m) :: l') s' →
      wpAny (model PW w) A (testsOf ifs (compEnvC scope cl C env)) (fun ok s₄ =>
        if ok = true then wpAny (model PW w) A (eval elt (compEnvC scope cl C env)) (fun y s₅ => ∃ mC' l'', St r B C mC' ((it, D (i + 1)) :: (acc, OList ys) :: (env.locals, ONs m) :: l'') s₅ ∧ I (i + 1) (ys ++ [y]) l'') (fun _ _ => False) s₄
        else ∃ mC' l'', St r B C mC' ((it, D (i + 1)) :: (acc, OList ys) :: (env.locals, ONs m) :: l'') s₄ ∧ I (i + 1) ys l'') (fun _ _ => False) s')
    (fin : ∀ acc ys l' s', I n ys l' → St r B env.locals ((y, .ref acc) :: m) ((acc, OList ys) :: l') s' → Q .none s')
    (hcell : (scope.names.all fun x => !(x.2 == .cell)) = true := by rfl) (hkind : scope.kind = .function := by rfl) (hx : scope.names.lookup x = some .local := by rfl)
    (hl : env.kindOf y = some .local := by rfl) (hp : (env.scope.kind == .class || (env.scope.kind == .module && env.locals != env.globals)) = false := by rfl) :
    CompAt w A E env (.ListComp elt [⟨.Name x px, iter, ifs, 0⟩] scope pos) scope cl (some (assign (.Name y py) env)) Q (.ref it) s := by
  refine comp_core (RR := fun acc C => compPost (model PW w) A E (some (assign (.Name y py) env)) Q acc C) hIt I S start hG hlen turn (fun C acc ys mC l' s' hI S' => ?_) (cells_of hcell) hkind hx
  show wpAny _ A (assign (.Name y py) env (.ref acc)) _ _ _
  refine wpAny_assign_Name (e_store ((S'.perm (List.Perm.swap _ _ _)).switch) (fun s₂ S₂ => ?_) hl hp)
  exact ⟨_, S₂.nsOwn (.head _), fun h' hs => fin acc ys l' _ hI (S₂.lose (tk := s₂.toks) hs)⟩
end
end Mine
end
section
open PySem PySem.W PyProof.Rows
set_option Elab.async false
set_option maxRecDepth 100000
namespace Mine
section
variable {r : Shared} {B : Addr → Option Obj} {L : Addr} {m : List (Str × Value)} {l : List (Addr × Desc)} {s s' : Shared}
variable {w : World} {A : Around} {E : Value → Shared → Prop} {env : Env}

/-- out of the library's frame and ledger: a new thing -/
theorem St.viaNew (S : St r B L m l s) {D : Addr} {o : Obj} {Ds : Desc} {h' : Heap} {tk : Nat} (F : Fr (below s.heap L) L h' fun x => m.lookup x) (N : News (below s.heap L) L h' ((D, o) :: aboveL s.heap L)) (hlt : ∀ p ∈ aboveL s.heap L, p.1 < D) (hd : Ds o) :
    St r B L m ((D, Ds) :: l) { s with heap := h', toks := tk } := by
  refine S.more (S.back (tk := tk) F (News.tail N)) ?_ (N _ (.head _)).1 hd
  cases e : s.heap.get? D with
  | none => rfl
  | some x =>
    have h1 := (N _ (.head _)).2.1
    have h2 := (N _ (.head _)).2.2
    rcases Nat.lt_trichotomy D L with q | q | q
    · rw [below_get q, e] at h2; cases h2
    · exact absurd q h1
    · exact absurd (hlt _ (mem_above q e)) (Nat.lt_irrefl _)
theorem St.viaSame (S : St r B L m l s) {h' : Heap} {tk : Nat} (F : Fr (below s.heap L) L h' fun x => m.lookup x) (N : News (below s.heap L) L h' (aboveL s.heap L)) : St r B L m l { s with heap := h', toks := tk } := S.back (tk := tk) F N

def ORange (n : Nat) : Desc := fun o => ∃ t u v, o = { cls := .type "range", dict := none, data := .fields #[.int 0 t, .int n u, .int 1 v], slots := #[] }
theorem c_range {n : Nat} {t : Tok} {Q : Value → Shared → Prop} (S : St r B L m l s) (h : ∀ a s', St r B L m ((a, ORange n) :: l) s' → Q (.ref a) s') : wpAny (model PW w) A (call (.type "range") [.int n t]) Q E s := by
  refine call_range_1 (h _ _ ?_)
  exact (S.alloc (o := { cls := .type "range", data := .fields #[.int 0 s.toks, .int n t, .int 1 (s.toks + 1)] }) rfl ⟨_, _, _, rfl⟩).toks _
theorem rangeSize_nat (n : Nat) : Builtin.Range.rangeSize 0 n 1 = n := by
  rw [rangeSize_one]; split <;> omega
theorem c_iterRange {n : Nat} {a : Addr} {Q : Value → Shared → Prop} (S : St r B L m ((a, ORange n) :: l) s) (hn : n < 2 ^ 31) (h : ∀ it s', St r B L m ((it, ORangeIter n 0) :: l) s' → Q (.ref it) s') : wpAny (model PW w) A (pyIter (.ref a)) Q E s := by
  obtain ⟨o, e, t, u, v, rfl⟩ := S.get (.head _)
  refine wpAny_pyIter_range (a := 0) (b := n) (c := 1) e ?_ (h _ _ ?_)
  · unfold Builtin.Range.small Builtin.Range.rangeFitsLong
    rw [rangeSize_nat]
    simp only [Bool.and_eq_true, Bool.or_eq_true, decide_eq_true_eq, beq_iff_eq]
    refine ⟨⟨⟨⟨?_, ?_⟩, ?_⟩, ?_⟩, ?_⟩
    · decide
    · omega
    · decide
    · omega
    · right; rw [if_pos (by decide)]; simp; omega
  · exact (S.drop1).alloc (o := { cls := .type "range_iterator", data := .fields #[rawInt 0, rawInt (Builtin.Range.rangeSize 0 n 1), rawInt 1] }) rfl (by show _ = _; rw [rangeSize_nat]; simp)

theorem c_lenL {a : Addr} {vs : List Value} {Q : Value → Shared → Prop} (S : St r B L m l s) (hl : s.heap.IsList a vs.toArray) (hn : vs.length < 2 ^ 62) (h : ∀ t s', St r B L m l s' → Q (.int vs.length t) s') : wpAny (model PW w) A (call (.builtin "len") [.ref a]) Q E s :=
  Calls.call_len_list hl (by simp; omega) (by have := h (s.toks + 1) _ (S.toks (s.toks + 1 + 1)); simpa using this)
theorem c_lenS {x : Str} {u : Tok} {Q : Value → Shared → Prop} (S : St r B L m l s) (hn : x.length < 2 ^ 62) (h : ∀ t s', St r B L m l s' → Q (.int x.length t) s') : wpAny (model PW w) A (call (.builtin "len") [.str x u]) Q E s :=
  len_str (by omega) (h _ _ (S.toks _))
theorem c_sum {a : Addr} {vs : List Value} {ns : List Int} {Q : Value → Shared → Prop} (S : St r B L m l s) (hh : A.handled = none) (hl : s.heap.IsList a vs.toArray) (hi : IntsAre vs ns) (h : ∀ t s', St r B L m l s' → Q (.int ns.sum t) s') : wpAny (model PW w) A (call (.builtin "sum") [.ref a]) Q E s :=
  LSm.sum_ints S.fr S.news hh hl hi fun h' tk t' F N => h t' _ (S.viaSame F N)
theorem c_list {a : Addr} {vs : List Value} {Q : Value → Shared → Prop} (S : St r B L m l s) (hl : s.heap.IsList a vs.toArray) (h : ∀ b s', St r B L m ((b, OList vs) :: l) s' → Q (.ref b) s') (hsz : vs.length ≤ sizeLine) : wpAny (model PW w) A (call (.type "list") [.ref a]) Q E s :=
  list_copyK S.fr S.news hl (fun D c h' F N hlt => h D _ (S.viaNew (tk := s.toks) F N hlt ⟨c, rfl⟩)) (by simpa using hsz)
theorem c_listT {a : Addr} {vs : List Value} {Q : Value → Shared → Prop} (S : St r B L m l s) (hl : s.heap.IsTuple a vs.toArray) (h : ∀ b s', St r B L m ((b, OList vs) :: l) s' → Q (.ref b) s') (hsz : vs.length ≤ sizeLine) : wpAny (model PW w) A (call (.type "list") [.ref a]) Q E s :=
  list_copyKT S.fr S.news hl (fun D c h' F N hlt => h D _ (S.viaNew (tk := s.toks) F N hlt ⟨c, rfl⟩)) (by simpa using hsz)
theorem c_tuple {a : Addr} {vs : List Value} {Q : Value → Shared → Prop} (S : St r B L m l s) (hl : s.heap.IsList a vs.toArray) (h : ∀ b s', St r B L m ((b, OTuple vs) :: l) s' → Q (.ref b) s') (hsz : vs.length ≤ sizeLine) : wpAny (model PW w) A (call (.type "tuple") [.ref a]) Q E s :=
  call_tuple_list hl (fun h' hk => h _ _ ((S.ext (s' := { s with heap := h' }) rfl rfl rfl hk).alloc (o := { cls := .type "tuple", data := .seq vs.toArray }) rfl ⟨rfl, 0, rfl⟩)) (by simpa using hsz)
theorem above_lt {h : Heap} {L : Addr} {p : Addr × Obj} (hp : p ∈ aboveL h L) : p.1 < h.objs.size := Heap.lt_size (of_above hp).2
theorem b_addL {a b : Addr} {vs us : List Value} {Q : Value → Shared → Prop} (S : St r B L m l s) (ha : s.heap.IsList a vs.toArray) (hb : s.heap.IsList b us.toArray) (h : ∀ b s', St r B L m ((b, OList (vs ++ us)) :: l) s' → Q (.ref b) s') (hsz : vs.length + us.length ≤ sizeLine) : wpAny (model PW w) A (binaryOp .Add (.ref a) (.ref b)) Q E s :=
  add_arrays S.fr S.news ha hb (fun h' F N => h _ _ (S.viaNew (tk := s.toks) F N (fun _ hp => above_lt hp) ⟨0, by simp⟩)) (by simpa using hsz)

/-- an item -/
theorem t_item {value slice : Expr} {a : Addr} {vs : List Value} {k : Int} {u : Tok} {v : Value} {Q : Value → Shared → Prop} (hl : s.heap.IsList a vs.toArray) (h0 : 0 ≤ k) (hhi : k < 2 ^ 63) (hx : vs[k.toNat]? = some v) (h : Q v s)
    (hs : subscripted slice false (.ref a) (.int k u) = operate [.ref a, .int k u] (getItem (.ref a) (.int k u)) := by with_unfolding_all rfl) :
    wpAny (model PW w) A (subscriptTail value slice (.ref a) (.int k u)) Q E s :=
  tail_any hl.typeIs slot_list_getitem.lookup (wpAny_getItem_list hl h0 hhi (by simpa using hx) h) hs
theorem g_item {a : Addr} {vs : List Value} {k : Int} {u : Tok} {v : Value} {Q : Value → Shared → Prop} (hl : s.heap.IsList a vs.toArray) (h0 : 0 ≤ k) (hhi : k < 2 ^ 63) (hx : vs[k.toNat]? = some v) (h : Q v s) :
    wpAny (model PW w) A (getItem (.ref a) (.int k u)) Q E s := wpAny_getItem_list hl h0 hhi (by simpa using hx) h
end
end Mine
end
section
open PySem PySem.W PyProof.Rows
namespace Mine
abbrev n_script : Str := ⟨⟨[115, 99, 114, 105, 112, 116]⟩⟩
abbrev n_start : Str := ⟨⟨[115, 116, 97, 114, 116]⟩⟩
abbrev n_numbers : Str := ⟨⟨[110, 117, 109, 98, 101, 114, 115]⟩⟩
abbrev n_k : Str := ⟨⟨[107]⟩⟩
abbrev n_masks : Str := ⟨⟨[109, 97, 115, 107, 115]⟩⟩
abbrev n_among : Str := ⟨⟨[97, 109, 111, 110, 103]⟩⟩
abbrev n_width : Str := ⟨⟨[119, 105, 100, 116, 104]⟩⟩
abbrev n_counts : Str := ⟨⟨[99, 111, 117, 110, 116, 115]⟩⟩
abbrev n_chosen : Str := ⟨⟨[99, 104, 111, 115, 101, 110]⟩⟩
abbrev n_members : Str := ⟨⟨[109, 101, 109, 98, 101, 114, 115]⟩⟩
abbrev n_together : Str := ⟨⟨[116, 111, 103, 101, 116, 104, 101, 114]⟩⟩
abbrev n_mask : Str := ⟨⟨[109, 97, 115, 107]⟩⟩
abbrev n_rows : Str := ⟨⟨[114, 111, 119, 115]⟩⟩
abbrev n_pile : Str := ⟨⟨[112, 105, 108, 101]⟩⟩
abbrev n_deed : Str := ⟨⟨[100, 101, 101, 100]⟩⟩
abbrev n_end : Str := ⟨⟨[101, 110, 100]⟩⟩
abbrev n_touched : Str := ⟨⟨[116, 111, 117, 99, 104, 101, 100]⟩⟩
abbrev n_tallest : Str := ⟨⟨[116, 97, 108, 108, 101, 115, 116]⟩⟩
abbrev n_sent : Str := ⟨⟨[115, 101, 110, 116]⟩⟩
abbrev n_grown : Str := ⟨⟨[103, 114, 111, 119, 110]⟩⟩
abbrev n_levels : Str := ⟨⟨[108, 101, 118, 101, 108, 115]⟩⟩
abbrev n_height : Str := ⟨⟨[104, 101, 105, 103, 104, 116]⟩⟩
abbrev n_tape : Str := ⟨⟨[116, 97, 112, 101]⟩⟩
abbrev n_rounds : Str := ⟨⟨[114, 111, 117, 110, 100, 115]⟩⟩
abbrev n_step : Str := ⟨⟨[115, 116, 101, 112]⟩⟩
abbrev n_following : Str := ⟨⟨[102, 111, 108, 108, 111, 119, 105, 110, 103]⟩⟩
abbrev n_number : Str := ⟨⟨[110, 117, 109, 98, 101, 114]⟩⟩
abbrev n_word : Str := ⟨⟨[119, 111, 114, 100]⟩⟩
abbrev n_places : Str := ⟨⟨[112, 108, 97, 99, 101, 115]⟩⟩
abbrev n_other : Str := ⟨⟨[111, 116, 104, 101, 114]⟩⟩
abbrev n_count : Str := ⟨⟨[99, 111, 117, 110, 116]⟩⟩
abbrev n_drawn : Str := ⟨⟨[100, 114, 97, 119, 110]⟩⟩
abbrev n_sign : Str := ⟨⟨[115, 105, 103, 110]⟩⟩
abbrev n_divisor : Str := ⟨⟨[100, 105, 118, 105, 115, 111, 114]⟩⟩
abbrev n_told : Str := ⟨⟨[116, 111, 108, 100]⟩⟩
abbrev n_dividend : Str := ⟨⟨[100, 105, 118, 105, 100, 101, 110, 100]⟩⟩
abbrev n_grounded : Str := ⟨⟨[103, 114, 111, 117, 110, 100, 101, 100]⟩⟩
abbrev n_alike : Str := ⟨⟨[97, 108, 105, 107, 101]⟩⟩
abbrev n_r : Str := ⟨⟨[114]⟩⟩
abbrev n_d : Str := ⟨⟨[100]⟩⟩
abbrev n_level : Str := ⟨⟨[108, 101, 118, 101, 108]⟩⟩
abbrev n_one : Str := ⟨⟨[111, 110, 101]⟩⟩
abbrev n_a : Str := ⟨⟨[97]⟩⟩
abbrev n_n : Str := ⟨⟨[110]⟩⟩
abbrev n_a_digits : Str := ⟨⟨[97, 95, 100, 105, 103, 105, 116, 115]⟩⟩
abbrev n_inner : Str := ⟨⟨[105, 110, 110, 101, 114]⟩⟩
abbrev n_x : Str := ⟨⟨[120]⟩⟩
abbrev n_L : Str := ⟨⟨[76]⟩⟩
abbrev n_R : Str := ⟨⟨[82]⟩⟩
abbrev n_mid : Str := ⟨⟨[109, 105, 100]⟩⟩
abbrev n_shift : Str := ⟨⟨[115, 104, 105, 102, 116]⟩⟩
abbrev n_upper : Str := ⟨⟨[117, 112, 112, 101, 114]⟩⟩
abbrev n_lower : Str := ⟨⟨[108, 111, 119, 101, 114]⟩⟩
abbrev n_digits : Str := ⟨⟨[100, 105, 103, 105, 116, 115]⟩⟩
abbrev n_b : Str := ⟨⟨[98]⟩⟩
abbrev n_q : Str := ⟨⟨[113]⟩⟩
abbrev n_q_digits : Str := ⟨⟨[113, 95, 100, 105, 103, 105, 116, 115]⟩⟩
abbrev n_a_digit : Str := ⟨⟨[97, 95, 100, 105, 103, 105, 116]⟩⟩
abbrev n_q_digit : Str := ⟨⟨[113, 95, 100, 105, 103, 105, 116]⟩⟩
abbrev n_iterator : Str := ⟨⟨[105, 116, 101, 114, 97, 116, 111, 114]⟩⟩
abbrev n_val : Str := ⟨⟨[118, 97, 108]⟩⟩
abbrev n_data : Str := ⟨⟨[100, 97, 116, 97]⟩⟩
end Mine
end
section
open PySem PySem.W PyProof.Rows
set_option Elab.async false
set_option maxRecDepth 100000
namespace Mine
def touched (m : Nat) : List Nat := (List.range 4).filter fun r => m.testBit r
def tallestH (m : Nat) (hs : List Nat) : Nat := ((touched m).map fun r => hs.getD r 0).foldl max 0
def dropH (m : Nat) (hs : List Nat) : List Nat := (List.range 4).map fun r => if m.testBit r then tallestH m hs + 1 else hs.getD r 0
def dropL (m : Nat) (d : Nat) (hs : List Nat) (ls : List Nat) : List Nat := if tallestH m hs = ls.length then ls ++ [2 ^ d] else ls.set (tallestH m hs) (ls.getD (tallestH m hs) 0 + 2 ^ d)
def num (ls : List Nat) : Nat := ls.foldr (fun x acc => x + 64 * acc) 0
def endOk (e : Str) : Prop := e = ⟨⟨[10]⟩⟩ ∨ e = ⟨⟨[13]⟩⟩ ∨ e = ⟨⟨[13, 10]⟩⟩
def masksOk (ms : List Nat) : Prop := (ms.length = 3 ∨ ms.length = 4) ∧ ∀ x ∈ ms, 1 ≤ x ∧ x ≤ 15
/-- a state after k drops -/
structure PileOk (k : Nat) (hs : List Nat) (ls : List Nat) : Prop where
  four : hs.length = 4
  below : ∀ h ∈ hs, h ≤ ls.length
  len : ls.length ≤ k
  levels : ∀ x ∈ ls, 1 ≤ x ∧ x ≤ 8 * k
def pileStep (ms : List Nat) (st : List Nat × List Nat) (d : Nat) : List Nat × List Nat := (dropH (ms.getD d 0) st.1, dropL (ms.getD d 0) d st.1 st.2)
def pileRun (ms : List Nat) (ws : List Nat) : List Nat × List Nat := ws.foldl (pileStep ms) ([0, 0, 0, 0], [])
theorem pileRun_snoc (ms : List Nat) (ws : List Nat) (d : Nat) : pileRun ms (ws ++ [d]) = pileStep ms (pileRun ms ws) d := by simp [pileRun]
theorem foldl_max_le {l : List Nat} {b n : Nat} (hb : b ≤ n) (h : ∀ x ∈ l, x ≤ n) : l.foldl max b ≤ n := by
  induction l generalizing b with
  | nil => exact hb
  | cons x t ih => exact ih (Nat.max_le.mpr ⟨hb, h x (.head _)⟩) fun y hy => h y (.tail _ hy)
theorem getD_le {hs : List Nat} {n : Nat} (h : ∀ x ∈ hs, x ≤ n) (i : Nat) : hs.getD i 0 ≤ n := by
  rw [List.getD_eq_getElem?_getD]
  cases e : hs[i]? with
  | none => exact Nat.zero_le _
  | some x => exact h x (List.mem_of_getElem? e)
theorem tallest_le {m : Nat} {hs : List Nat} {n : Nat} (h : ∀ x ∈ hs, x ≤ n) : tallestH m hs ≤ n := by
  refine foldl_max_le (Nat.zero_le _) fun x hx => ?_
  obtain ⟨i, _, rfl⟩ := List.mem_map.mp hx
  exact getD_le h i
theorem pileOk_start : PileOk 0 [0, 0, 0, 0] [] := ⟨rfl, by simp, Nat.le_refl _, fun _ h => nomatch h⟩
theorem two_pow_le {d : Nat} (h : d < 4) : 2 ^ d ≤ 8 ∧ 1 ≤ 2 ^ d := by
  have : d = 0 ∨ d = 1 ∨ d = 2 ∨ d = 3 := by omega
  rcases this with rfl | rfl | rfl | rfl <;> decide
theorem pileOk_step {k : Nat} {hs : List Nat} {ls : List Nat} {m : Nat} {d : Nat} (P : PileOk k hs ls) (hd : d < 4) : PileOk (k + 1) (dropH m hs) (dropL m d hs ls) := by
  have ht : tallestH m hs ≤ ls.length := tallest_le P.below
  obtain ⟨p1, p2⟩ := two_pow_le hd
  have hlen : (dropL m d hs ls).length = if tallestH m hs = ls.length then ls.length + 1 else ls.length := by
    unfold dropL; split <;> simp
  have hle : tallestH m hs + 1 ≤ (dropL m d hs ls).length := by rw [hlen]; split <;> omega
  have hge : ls.length ≤ (dropL m d hs ls).length := by rw [hlen]; split <;> omega
  refine ⟨by simp [dropH], fun h hh => ?_, ?_, fun x hx => ?_⟩
  · unfold dropH at hh
    obtain ⟨i, _, rfl⟩ := List.mem_map.mp hh
    split
    · exact hle
    · exact Nat.le_trans (getD_le P.below i) hge
  · rw [hlen]; have := P.len; split <;> omega
  · unfold dropL at hx
    split at hx
    · rcases List.mem_append.mp hx with hx | hx
      · have := P.levels x hx; omega
      · have : x = 2 ^ d := by simpa using hx
        omega
    · rename_i hne
      rcases List.mem_or_eq_of_mem_set hx with hx | rfl
      · have := P.levels x hx; omega
      · have hlt : tallestH m hs < ls.length := by omega
        have hmem : ls.getD (tallestH m hs) 0 ∈ ls := by
          rw [List.getD_eq_getElem?_getD, List.getElem?_eq_getElem hlt]; exact List.getElem_mem hlt
        have := P.levels _ hmem; omega
theorem pileOk_run (ms : List Nat) (hm : masksOk ms) : ∀ (ws : List Nat), (∀ d ∈ ws, d < ms.length) → PileOk ws.length (pileRun ms ws).1 (pileRun ms ws).2 := by
  intro ws
  induction ws using snocInd with
  | nil => intro _; exact pileOk_start
  | snoc ws d ih =>
    intro h
    rw [pileRun_snoc, List.length_append]
    have hd : d < 4 := by have := h d (by simp); rcases hm.1 with e | e <;> omega
    exact pileOk_step (ih fun x hx => h x (by simp [hx])) hd

end Mine
end
section
open PySem PySem.W PyProof.Rows
set_option Elab.async false
set_option maxRecDepth 100000
namespace Mine
theorem strs_start (t1 t2 t3 t4 : Tok) : StrsAre [.str ⟨⟨[46]⟩⟩ t1, .str ⟨⟨[46]⟩⟩ t2, .str ⟨⟨[46]⟩⟩ t3, .str ⟨⟨[46]⟩⟩ t4] (([0, 0, 0, 0] : List Nat).map fun h => dots (h + 1)) :=
  .cons _ _ (.cons _ _ (.cons _ _ (.cons _ _ .nil)))
theorem ints_get {vs : List Value} {ns : List Int} (h : IntsAre vs ns) : ∀ {i : Nat} {v : Value}, vs[i]? = some v → ∃ n t, ns[i]? = some n ∧ v = .int n t := by
  induction h with
  | nil => intro i v e; simp at e
  | cons n t _ ih =>
    intro i v e
    cases i with
    | zero => simp at e; exact ⟨n, t, by simp, e.symm⟩
    | succ i => simp at e; obtain ⟨n', t', a, b⟩ := ih e; exact ⟨n', t', by simpa using a, b⟩
theorem ints_len {vs : List Value} {ns : List Int} (h : IntsAre vs ns) : vs.length = ns.length := by
  induction h with
  | nil => rfl
  | cons _ _ _ ih => simp [ih]
end Mine
end
section
open PySem PySem.W PyProof.Rows
set_option Elab.async false
set_option maxRecDepth 100000
namespace Mine
theorem ints_set {vs : List Value} {ns : List Int} (h : IntsAre vs ns) (k : Nat) (n : Int) (t : Tok) : IntsAre (vs.set k (.int n t)) (ns.set k n) := by
  induction h generalizing k with
  | nil => exact .nil
  | cons a u _ ih =>
    cases k with
    | zero => exact .cons _ _ (by assumption)
    | succ k => exact .cons _ _ (ih k)
theorem ints_at {vs : List Value} {ns : List Int} (h : IntsAre vs ns) {k : Nat} (hk : k < ns.length) : ∃ t, vs[k]? = some (.int (ns.getD k 0) t) := by
  induction h generalizing k with
  | nil => simp at hk
  | cons a u _ ih =>
    cases k with
    | zero => exact ⟨u, rfl⟩
    | succ k => obtain ⟨t, e⟩ := ih (k := k) (by simpa using hk); exact ⟨t, by simpa using e⟩
theorem kept_list {s s' : Shared} {a : Addr} {v : Array Value} (K : Kept s s') (h : s.heap.IsList a v) : s'.heap.IsList a v := let ⟨o, e, q⟩ := h; ⟨o, K.keep _ _ e, q⟩
theorem kept_tuple {s s' : Shared} {a : Addr} {v : Array Value} (K : Kept s s') (h : s.heap.IsTuple a v) : s'.heap.IsTuple a v := let ⟨o, e, q⟩ := h; ⟨o, K.keep _ _ e, q⟩

theorem numbers_walk (w : World) (A : Around) (s : Shared) (Q E : Value → Shared → Prop) (as ast : Addr) (sv tv : List Value) (ns ts : List Int)
    (RA : Room 2 A) (T : TopH w s.heap) (hs : s.heap.IsList as sv.toArray) (hsi : IntsAre sv ns) (hn : ns.length ≤ 1000) (ht : s.heap.IsList ast tv.toArray) (hti : IntsAre tv ts) (htl : ts.length = 8)
    (h : ∀ a s' vs xs, Kept s s' → s'.heap.IsList a vs.toArray → IntsAre vs xs → xs.length = 8 → s.heap.get? a = none → Q (.ref a) s') :
    wpAny (model PW w) A (call (.ref 104) [.ref as, .ref ast]) Q E s := by
  refine wpAny_call (enterTop (o := hz.zo_121 w.params) (oc := hz.zo_120 w.params) (fd := fd_numbers w.params) (c := 103) (binds := [(n_script, .ref as), (n_start, .ref ast)]) T RA.lt (by kernel_rfl) rfl (by kernel_rfl) rfl rfl rfl rfl rfl rfl rfl (by kernel_rfl) (by kernel_rfl) rfl rfl rfl (fun L s₁ S TB => ?_))
  have RD : Room 1 (A.deeper (callEnv (fd_numbers w.params) L 104)) := RA.deeper _
  have hsl : sv.length = ns.length := ints_len hsi
  have htv : tv.length = 8 := by rw [ints_len hti, htl]
  have z : (8 : Nat) ≤ sizeLine := by decide
  refine wpAny_execs_cons (wpAny_Assign_Name (Call_ (g_list S TB (callWith_type1 (args_cons (e_loc S rfl (args_nil (c_list S (kept_list S.kept ht) (fun a1 s2 S => ?_) (by omega)))))))))
  refine e_store S fun s3 S => ?_
  refine wpAny_execs_cons (wpAny_For (Call_ (g_range S TB (callWith_type1 (args_cons (Call_ (g_len S TB (callWith_builtin1 (args_cons (e_loc S rfl (args_nil (c_lenL S (kept_list S.kept hs) (by omega) fun t1 s4 S => args_nil (c_range S fun a2 s5 S => ?_)))))))))))))
  refine c_iterRange S (by omega) fun it s6 S => ?_
  refine for_go (iter_range RD.handled it sv.length) (fun i B m l => B = (fun b => s.heap.get? b) ∧ m.lookup n_script = some (.ref as) ∧ m.lookup n_start = some (.ref ast) ∧ m.lookup n_numbers = some (.ref a1) ∧ ∃ vs xs, l = [(a1, OList vs)] ∧ IntsAre vs xs ∧ xs.length = 8) S ⟨rfl, rfl, rfl, rfl, tv, ts, rfl, hti, htl⟩ (fun _ _ _ _ _ _ _ => trivial) (fun i v B m l s7 hi hv hI S => ?_) (fun B m l s7 hI S => ?_)
  · obtain ⟨t, rfl⟩ := hv
    obtain ⟨rfl, h1, h2, h3, vs, xs, rfl, h5, h6⟩ := hI
    have hvs : vs.length = 8 := by rw [ints_len h5, h6]
    refine wpAny_assign_Name (e_store S fun s8 S => ?_)
    obtain ⟨ti, hsv⟩ := ints_at hsi (k := i) (by omega)
    have hm1 : ((i : Int).fmod ((8 : Nat) : Int)) = ((i % 8 : Nat) : Int) := by rw [Int.fmod_eq_emod_of_nonneg _ (by decide)]; rfl
    obtain ⟨tx, hx⟩ := ints_at h5 (k := i % 8) (by omega)
    refine wpAny_execs_cons (wpAny_AugAssign_SubscriptAny (e_loc S h3 (wpAny_BinOp (e_loc S rfl (Call_ (g_len S TB (callWith_builtin1 (args_cons (e_loc S h2 (args_nil (c_lenL S (kept_list S.kept ht) (by omega) fun t2 s9 S => ?_)))))))))))
    rw [htv]
    refine b_mod S (by decide) fun t3 s10 S => ?_
    rw [hm1]
    refine g_item (S.list (.tail _ (.head _))) (by omega) (by omega) hx (wpAny_BinOp (Subscript_ (e_loc S h1 (e_loc S rfl (t_item (kept_list S.kept hs) (by omega) (by omega) hsv (e_int S fun t4 s11 S => b_mod S (by decide) fun t5 s12 S => iadd_int ?_))))))
    refine e_setList (S.toks _) 1 rfl (by omega) (by omega) (by omega) fun s13 S => ?_
    refine wpAny_execs_nil ⟨_, _, _, S, rfl, h1, h2, h3, _, _, rfl, ints_set h5 _ _ _, ?_⟩
    rw [List.length_set]; exact h6
  · obtain ⟨rfl, h1, h2, h3, vs, xs, rfl, h5, h6⟩ := hI
    refine wpAny_execs_cons (wpAny_Return_some (e_loc S h3 ?_))
    have hb := (S.own _ (.head _)).2.2
    exact h _ _ vs xs S.kept (S.list (.head _)) h5 h6 hb
end Mine
end
section
open PySem PySem.W PyProof.Rows
set_option Elab.async false
set_option maxRecDepth 100000
namespace Mine
def OCode (q : Str) : Desc := fun o => ∃ vs t, o.data = .fields vs ∧ vs[1]? = some (.str q t)
theorem main3 : mainGlobals = 3 := rfl
noncomputable def pmOf (P : Params) : Value := ((nsFind (esOf (hz.zo_42 P))) "__name__").getD .none
section
variable {r : Shared} {B : Addr → Option Obj} {m : List (Str × Value)} {l : List (Addr × Desc)} {s s' : Shared}
variable {w : World} {A : Around} {E : Value → Shared → Prop} {env : Env}
theorem builtinsAt (T : TopB w B) (S : St r B L m l s) {P : Addr} (hP : P ≠ 4) : s.heap.BuiltinsAt (nsFind (esOf (hz.zo_42 w.params))) P :=
  ⟨4, hz.zo_43 w.params, by kernel_rfl, by decide, by decide, Ne.symm hP, T.get S (by decide) (by decide) (by kernel_rfl), rfl, rfl, rfl⟩
theorem St.code (S : St r B L m l s) {c : Addr} {q : Str} (hm : (c, OCode q) ∈ l) : s.heap.CodeRec (.ref c) q := by
  obtain ⟨o, e, vs, t, hd, hv⟩ := S.get hm
  exact ⟨c, o, vs, t, rfl, e, hd, hv⟩
theorem e_defNew {name : Str} {params : Arguments} {body : List Stmt} {scope : Scope} {pos : Pos} {c P : Addr} {ps : Array Value} {clos : List (Str × Addr)} {Q : Flow → Shared → Prop}
    (S : St r B env.locals m l s) (T : TopB w B) (i : Nat) (hi : l[i]? = some (P, OExact (tabObj ps))) (hcode : env.code = .ref c) (C : CodeHd s.heap c P) (hps : TriplesOk ps.toList) (hnf : codeAmong pos ps.toList = none)
    (hcl : closureFor scope env = pure clos) (hP4 : P ≠ 4 ∧ P ≠ 3)
    (h : ∀ f c' ctv doc s', St r B env.locals m ((f, OExact (fnMade name (qualnameIn env name name) params body scope clos doc (pmOf w.params) c' ctv)) :: (c', OCode (qualnameIn env name name)) :: l.set i (P, OExact (tabObj (ps ++ #[rawInt pos.line, rawInt pos.col, .ref c'])))) s' →
      wpAny (model PW w) A (storeName env name (.ref f)) (fun _ s'' => Q .next s'') E s')
    (hg0 : env.globals = 3 := by rfl) (hd0 : params.defaults = [] := by rfl) (hk0 : params.kw_defaults = [] := by rfl) (ha : annTrees params none env = [] := by rfl) :
    wpAny (model PW w) A (exec (.FunctionDef name params body [] none [] scope none name pos) env) Q E s := by
  refine nestDef_K hd0 hk0 ha ?_
  obtain ⟨oP, eP, hoP⟩ := S.get (List.mem_of_getElem? hi)
  have hoP' : oP = tabObj ps := hoP
  subst hoP'
  refine makeFunction_K (mg := nsFind (esOf (hz.zo_42 w.params))) (c := c) (P := P) (ps := ps) hcl hg0 (glob_ns (w := w) (T.get S (by decide) (by decide) (by kernel_rfl))) hcode C eP hps hnf (Ne.symm hP4.2) (builtinsAt T S hP4.1) fun c' ctv doc h' tk hx hge hlt hrec htb => ?_
  have S1 := S.change (s' := { s with heap := h', toks := tk }) i hi rfl rfl rfl (fun b o hb e => hx b o hb e) htb (D' := OExact (tabObj (ps ++ #[rawInt pos.line, rawInt pos.col, .ref c']))) rfl
  obtain ⟨c₂, oc, vs, t, e2, hoc, hd, hv⟩ := hrec
  cases e2
  have hcn : s.heap.get? c' = none := Heap.get?_none_of_le hge
  have S2 : St r B env.locals m ((c', OCode (qualnameIn env name name)) :: l.set i (P, OExact (tabObj (ps ++ #[rawInt pos.line, rawInt pos.col, .ref c'])))) { s with heap := h', toks := tk } := by
    refine ⟨S1.gens, S1.drawn, S1.os, S1.ns, S1.base, S1.nL, fun p hp => ?_, ?_⟩
    · rcases List.mem_cons.mp hp with rfl | hp
      · exact ⟨⟨oc, hoc, vs, t, hd, hv⟩, (S.absent hcn).1, (S.absent hcn).2.1⟩
      · exact S1.own p hp
    · rw [List.map_cons, List.nodup_cons]
      refine ⟨?_, S1.nd⟩
      rw [nodup_set hi]
      exact (S.absent hcn).2.2
  exact h _ c' ctv doc _ (S2.alloc (o := fnMade name (qualnameIn env name name) params body scope clos doc (pmOf w.params) c' ctv) rfl rfl)

theorem e_defHit {name : Str} {params : Arguments} {body : List Stmt} {scope : Scope} {pos : Pos} {c P c' : Addr} {ps : Array Value} {clos : List (Str × Addr)} {Q : Flow → Shared → Prop}
    (S : St r B env.locals m l s) (T : TopB w B) (hP : s.heap.get? P = some (tabObj ps)) (hcode : env.code = .ref c) (C : CodeHd s.heap c P) (hps : TriplesOk ps.toList) (hf : codeAmong pos ps.toList = some (.ref c'))
    (hcl : closureFor scope env = pure clos) (hP4 : P ≠ 4)
    (h : ∀ f ctv doc s', St r B env.locals m ((f, OExact (fnMade name (qualnameIn env name name) params body scope clos doc (pmOf w.params) c' ctv)) :: l) s' →
      wpAny (model PW w) A (storeName env name (.ref f)) (fun _ s'' => Q .next s'') E s')
    (hg0 : env.globals = 3 := by rfl) (hd0 : params.defaults = [] := by rfl) (hk0 : params.kw_defaults = [] := by rfl) (ha : annTrees params none env = [] := by rfl) :
    wpAny (model PW w) A (exec (.FunctionDef name params body [] none [] scope none name pos) env) Q E s := by
  refine nestDef_K hd0 hk0 ha ?_
  refine makeFunction_hit (mg := nsFind (esOf (hz.zo_42 w.params))) (c := c) (P := P) (ps := ps) hcl hg0 (glob_ns (w := w) (T.get S (by decide) (by decide) (by kernel_rfl))) hcode C hP hps hf (builtinsAt T S hP4) fun ctv doc h' tk hk _ => ?_
  exact h _ ctv doc _ ((S.ext (s' := { s with heap := h', toks := tk }) rfl rfl rfl hk).alloc (o := fnMade name (qualnameIn env name name) params body scope clos doc (pmOf w.params) c' ctv) rfl rfl)

/-- a call of a made function, entered -/
theorem enterMade {R : Result → Shared → Prop} {a c' : Addr} {name qual : Str} {params : Arguments} {body : List Stmt} {scope : Scope} {clos : List (Str × Addr)} {doc pm ctv : Value} {args : List Value} {binds : List (Str × Value)} (B : Addr → Option Obj) (l₀ : List (Addr × Desc))
    (hB : ∀ b o, B b = some o → s.heap.get? b = some o) (hl₀ : ∀ p ∈ l₀, (∃ o, s.heap.get? p.1 = some o ∧ p.2 o) ∧ B p.1 = none) (hnd : (l₀.map (·.1)).Nodup) (T : TopB w B)
    (hroom : A.depth < recursionLimit) (ho : s.heap.get? a = some (fnMade name qual params body scope clos doc pm c' ctv)) (hcd : s.heap.CodeRec (.ref c') qual)
    (hbind : bindArgs (fnX name qual params body scope clos .none .none doc pm none (.ref c') ctv) ⟨args, []⟩ = pure binds)
    (hcell : (scope.names.all fun x => !(x.2 == .cell)) = true) (hloc : (binds.all fun x => scope.names.lookup x.1 == some .local) = true)
    (h : ∀ L s₁, St s B L binds.reverse l₀ s₁ → wpAny (model PW w) (A.deeper (callEnv (fnX name qual params body scope clos .none .none doc pm none (.ref c') ctv) L a)) (execs body (callEnv (fnX name qual params body scope clos .none .none doc pm none (.ref c') ctv) L a)) (fun f s' => R (.ok (.ret (retOf f))) s') (fun _ _ => False) s₁)
    (hco : scope.isCoroutine = false) (hgen : scope.isGenerator = false) (hk : scope.kind = .function) :
    codeAny (model PW w) A (.call (.ref a) ⟨args, []⟩) R s := by
  refine enterH (fd := fnX name qual params body scope clos .none .none doc pm none (.ref c') ctv) B l₀ hB hl₀ hnd hroom ho rfl (nolimit_of (w := w) (hB _ _ (T.here 2 _ (by decide) (by decide) (by kernel_rfl)))) hcd rfl hbind (cells_of hcell) (locs_of hloc) h hco hgen hk
end
end Mine
end
section
open PySem PySem.W PyProof.Rows
set_option Elab.async false
set_option maxRecDepth 100000
namespace Mine
def valN (k : Nat) : List Int → Int
  | [] => 0
  | x :: t => x + 2 ^ k * valN k t
theorem valN_append (k : Nat) (a b : List Int) : valN k (a ++ b) = valN k a + 2 ^ (k * a.length) * valN k b := by
  induction a with
  | nil => simp [valN]
  | cons x t ih =>
    rw [List.cons_append, valN, ih, valN, List.length_cons, Nat.mul_add, Nat.mul_one, Nat.add_comm (k * t.length) k, Int.pow_add, Int.mul_add, Int.mul_assoc, Int.add_assoc]
theorem bits_pow2 (k : Nat) : Builtin.Int.intBits ((2 : Int) ^ k) ≤ k + 1 := by
  rw [intBits_le_iff, Int.natAbs_pow]
  exact Nat.pow_lt_pow_right (by decide) (Nat.lt_succ_self k)
theorem bits_valN {b k : Nat} : ∀ {xs : List Int}, (∀ x ∈ xs, Builtin.Int.intBits x ≤ b) → Builtin.Int.intBits (valN k xs) ≤ b + (k + 2) * xs.length
  | [], _ => by simp [valN]; exact Nat.zero_le _
  | x :: t, h => by
    have h1 := h x (.head _)
    have h2 := bits_valN (k := k) (xs := t) fun y hy => h y (.tail _ hy)
    have h3 := intBits_mul_le (bits_pow2 k) h2
    have h4 := intBits_add_le h1 h3
    rw [valN]
    refine Nat.le_trans h4 ?_
    rw [List.length_cons, Nat.mul_add, Nat.mul_one]
    omega

def defOf : List Stmt → Arguments × List Stmt × Scope
  | .FunctionDef _ p b _ _ _ sc _ _ _ :: _ => (p, b, sc)
  | _ => (default, [], default)
noncomputable def dI (P : Params) := defOf (bodyOf (fd_d2i P))
def qdI : Str := ⟨⟨[95, 100, 105, 103, 105, 116, 115, 50, 105, 110, 116, 46, 60, 108, 111, 99, 97, 108, 115, 62, 46, 105, 110, 110, 101, 114]⟩⟩
structure D2 (w : World) (h : Heap) (f cd cn ci a : Addr) (vs : List Value) (k : Nat) : Prop where
  top : TopH w h
  fn : ∃ doc ctv c', h.get? f = some (fnMade n_inner qdI (dI w.params).1 (dI w.params).2.1 (dI w.params).2.2 [(n_n, cn), (n_inner, ci), (n_digits, cd)] doc (pmOf w.params) c' ctv) ∧ h.CodeRec (.ref c') qdI
  cd : h.IsCell cd (some (.ref a))
  cn : ∃ t, h.IsCell cn (some (.int k t))
  ci : h.IsCell ci (some (.ref f))
  ls : h.IsList a vs.toArray
theorem D2.keep {w : World} {h h' : Heap} {f cd cn ci a : Addr} {vs : List Value} {k : Nat} (D : D2 w h f cd cn ci a vs k) (hk : ∀ b o, h.get? b = some o → h'.get? b = some o) : D2 w h' f cd cn ci a vs k where
  top := fun a o h1 h2 e => hk a o (D.top a o h1 h2 e)
  fn := let ⟨doc, ctv, c', e, q⟩ := D.fn; ⟨doc, ctv, c', hk _ _ e, q.keeps hk⟩
  cd := D.cd.keeps hk
  cn := let ⟨t, e⟩ := D.cn; ⟨t, e.keeps hk⟩
  ci := D.ci.keeps hk
  ls := let ⟨o, e, q⟩ := D.ls; ⟨o, hk _ _ e, q⟩

theorem half (lo hi : Nat) : ((lo : Int) + hi).fdiv (2 ^ ((1 : Int).toNat)) = ((lo + hi) / 2 : Nat) := by
  rw [Int.fdiv_eq_ediv_of_nonneg _ (by decide)]
  show ((lo : Int) + hi) / 2 = _
  omega
theorem take_drop_split {α : Type} (l : List α) (lo mid hi : Nat) (h1 : lo ≤ mid) (h2 : mid ≤ hi) : (l.drop lo).take (hi - lo) = (l.drop lo).take (mid - lo) ++ (l.drop mid).take (hi - mid) := by
  have e : hi - lo = (mid - lo) + (hi - mid) := by omega
  rw [e, List.take_add, List.drop_drop]
  congr 3
  omega

theorem d2_inner (w : World) (ns : List Int) (vs : List Value) (hi' : IntsAre vs ns) (f cd cn ci a : Addr) (k b : Nat) (hb : ∀ x ∈ ns, Builtin.Int.intBits x ≤ b) (hb2 : b ≤ 1000) (hk2 : k ≤ 1000) (hn : ns.length ≤ 1000) :
    ∀ (d lo hi : Nat) (A : Around) (s : Shared) (Q E : Value → Shared → Prop) (tl th : Tok), Room (d + 1) A → D2 w s.heap f cd cn ci a vs k → lo < hi → hi ≤ ns.length → hi - lo ≤ 2 ^ d →
      (∀ s' t, Kept s s' → Q (.int (valN k ((ns.drop lo).take (hi - lo))) t) s') → wpAny (model PW w) A (call (.ref f) [.int lo tl, .int hi th]) Q E s := by
  intro d
  induction d with
  | zero => ?_
  | succ d ih => ?_
  all_goals
    intro lo hi A s Q E tl th RA D hlt hle hd h
    obtain ⟨doc, ctv, c', hf, hrec⟩ := D.fn
    refine wpAny_call (enterMade (binds := [(n_L, .int lo tl), (n_R, .int hi th)]) (fun b => s.heap.get? b) [] (fun _ _ e => e) (fun p hp => nomatch hp) List.nodup_nil (topB_of D.top) RA.lt hf hrec rfl (by kernel_rfl) (by kernel_rfl) (fun L s₁ S => ?_) rfl rfl rfl)
    have TB : TopB w (fun b => s.heap.get? b) := topB_of D.top
    refine wpAny_execs_cons (wpAny_If (wpAny_isTrue_Compare1 (wpAny_BinOp (e_loc S rfl (e_int S fun _ _ S => b_add S fun _ _ S => e_loc S rfl (c_eq (wpAny_truthy_bool ?_)))))))
  · have e : hi = lo + 1 := by simp at hd; omega
    subst e
    rw [show ((lo : Int) + 1 == ((lo + 1 : Nat) : Int)) = true from by simp]
    simp only [if_true]
    obtain ⟨tv, hv⟩ := ints_at hi' (k := lo) (by omega)
    refine wpAny_execs_cons (wpAny_Return_some (Subscript_ (e_free (D.keep S.base).cd (e_loc S rfl (t_item (D.keep S.base).ls (by omega) (by omega) hv ?_)))))
    have := h _ tv S.kept
    have e2 : (ns.drop lo).take (lo + 1 - lo) = [ns.getD lo 0] := by
      rw [show lo + 1 - lo = 1 by omega, List.take_one, List.head?_drop, List.getD_eq_getElem?_getD, List.getElem?_eq_getElem (by omega)]; rfl
    rw [e2] at this
    show Q (.int (ns.getD lo 0) tv) _
    simpa [valN] using this
  · by_cases e : hi = lo + 1
    · subst e
      rw [show ((lo : Int) + 1 == ((lo + 1 : Nat) : Int)) = true from by simp]
      simp only [if_true]
      obtain ⟨tv, hv⟩ := ints_at hi' (k := lo) (by omega)
      refine wpAny_execs_cons (wpAny_Return_some (Subscript_ (e_free (D.keep S.base).cd (e_loc S rfl (t_item (D.keep S.base).ls (by omega) (by omega) hv ?_)))))
      have := h _ tv S.kept
      have e2 : (ns.drop lo).take (lo + 1 - lo) = [ns.getD lo 0] := by
        rw [show lo + 1 - lo = 1 by omega, List.take_one, List.head?_drop, List.getD_eq_getElem?_getD, List.getElem?_eq_getElem (by omega)]; rfl
      rw [e2] at this
      show Q (.int (ns.getD lo 0) tv) _
      simpa [valN] using this
    · rw [show ((lo : Int) + 1 == ((hi : Nat) : Int)) = false from by simp; omega]
      simp only [Bool.false_eq_true, if_false]
      refine wpAny_execs_nil ?_
      refine wpAny_execs_cons (wpAny_Assign_Name (wpAny_BinOp (wpAny_BinOp (e_loc S rfl (e_loc S rfl (b_add S fun _ _ S => e_int S fun _ _ S => b_shr S (by decide) fun _ _ S => ?_))))))
      rw [half]
      refine e_store S fun _ S => ?_
      obtain ⟨tk, hcn⟩ := (D.keep S.base).cn
      have hm1 : lo < (lo + hi) / 2 := by omega
      have hm2 : (lo + hi) / 2 < hi := by omega
      generalize hmid : (lo + hi) / 2 = mid at S hm1 hm2 ⊢
      refine wpAny_execs_cons (wpAny_Assign_Name (wpAny_BinOp (wpAny_BinOp (e_loc S rfl (e_loc S rfl (b_sub S fun _ _ S => e_free (D.keep S.base).cn.choose_spec (b_mul S ?_ fun _ _ S => ?_)))))))
      · exact IntMulOk.of_left (intBits_le_iff.mpr (by omega))
      · have hsh : ((mid : Int) - lo) * (k : Int) = (((mid - lo) * k : Nat) : Int) := by
          rw [Int.natCast_mul]; congr 1; omega
        rw [hsh]
        refine e_store S fun _ S => ?_
        have hp : (mid - lo) * k ≤ 1000 * 1000 := Nat.mul_le_mul (by omega) hk2
        have h2d : hi - lo ≤ 2 * 2 ^ d := by rw [Nat.pow_succ] at hd; omega
        refine wpAny_execs_cons (wpAny_Return_some (wpAny_BinOp (wpAny_BinOp (Call_ (e_free (D.keep S.base).ci (callWith_def (o := fnMade n_inner qdI (dI w.params).1 (dI w.params).2.1 (dI w.params).2.2 [(n_n, cn), (n_inner, ci), (n_digits, cd)] doc (pmOf w.params) c' ctv) rfl (args_cons (e_loc S rfl (args_cons (e_loc S rfl (args_nil ⟨S.base _ _ hf, ?_⟩)))))))))))
        refine ih mid hi _ _ _ _ _ _ (RA.deeper _) (D.keep S.base) hm2 hle (by omega) fun s₅ t₅ K₅ => ?_
        have S := S.call K₅
        refine e_loc S rfl (b_shl S RA.handled (by omega) ?_ fun _ _ S => ?_)
        · have h1 := bits_valN (k := k) (b := b) (xs := (ns.drop mid).take (hi - mid)) (fun x hx => hb x (List.mem_of_mem_drop (List.mem_of_mem_take hx)))
          have h2 : ((ns.drop mid).take (hi - mid)).length ≤ 1000 := by rw [List.length_take, List.length_drop]; omega
          have h3 : (k + 2) * ((ns.drop mid).take (hi - mid)).length ≤ 1002 * 1000 := Nat.mul_le_mul (by omega) h2
          have h4 : ((mid - lo) * k : Nat) ≤ 1000 * 1000 := hp
          have h5 : Builtin.Int.intBits (valN k (List.take (hi - mid) (List.drop mid ns))) ≤ 1000 + 1002 * 1000 := Nat.le_trans h1 (Nat.add_le_add hb2 h3)
          generalize Builtin.Int.intBits (valN k (List.take (hi - mid) (List.drop mid ns))) = z at h5 ⊢
          generalize (mid - lo) * k = y at h4 ⊢
          omega
        · refine Call_ (e_free (D.keep S.base).ci (callWith_def (o := fnMade n_inner qdI (dI w.params).1 (dI w.params).2.1 (dI w.params).2.2 [(n_n, cn), (n_inner, ci), (n_digits, cd)] doc (pmOf w.params) c' ctv) rfl (args_cons (e_loc S rfl (args_cons (e_loc S rfl (args_nil ⟨S.base _ _ hf, ?_⟩)))))))
          refine ih lo mid _ _ _ _ _ _ (RA.deeper _) (D.keep S.base) hm1 (by omega) (by omega) fun s₆ t₆ K₆ => ?_
          have S := S.call K₆
          refine b_add S fun t₇ _ S => ?_
          have := h _ t₇ S.kept
          rw [take_drop_split ns lo mid hi (by omega) (by omega), valN_append] at this
          have e3 : ((ns.drop lo).take (mid - lo)).length = mid - lo := by rw [List.length_take, List.length_drop]; omega
          rw [e3] at this
          have e4 : valN k ((ns.drop mid).take (hi - mid)) * 2 ^ (((((mid - lo) * k : Nat) : Int)).toNat) + valN k ((ns.drop lo).take (mid - lo)) = valN k ((ns.drop lo).take (mid - lo)) + 2 ^ (k * (mid - lo)) * valN k ((ns.drop mid).take (hi - mid)) := by
            rw [Int.toNat_natCast, Nat.mul_comm (mid - lo) k, Int.mul_comm, Int.add_comm]
          show Q (.int _ _) _
          rw [e4]
          exact this
end Mine
end
section
open PySem PySem.W PyProof.Rows
set_option Elab.async false
set_option maxRecDepth 100000
namespace Mine
structure KeptBut (P : Addr) (s s' : Shared) : Prop where
  gens : s'.gens = s.gens
  drawn : s'.drawn = s.drawn
  os : s'.os = s.os
  keep : ∀ b o, b ≠ P → s.heap.get? b = some o → s'.heap.get? b = some o
section
variable {r : Shared} {B : Addr → Option Obj} {L : Addr} {m : List (Str × Value)} {l : List (Addr × Desc)} {s s' : Shared}
variable {w : World} {A : Around} {E : Value → Shared → Prop} {env : Env}
/-- a def with cells entered; some things of the caller's are own (hidden from B) -/
theorem enterCH {R : Result → Shared → Prop} {a : Addr} {o : Obj} {fd : FuncData} {body : List Stmt} {args : List Value} {binds : List (Str × Value)} (B : Addr → Option Obj) (l₀ : List (Addr × Desc))
    (hB : ∀ b o, B b = some o → s.heap.get? b = some o) (hl₀ : ∀ p ∈ l₀, (∃ o, s.heap.get? p.1 = some o ∧ p.2 o) ∧ B p.1 = none) (hnd₀ : (l₀.map (·.1)).Nodup)
    (hroom : A.depth < recursionLimit) (ho : s.heap.get? a = some o) (hdata : o.data = .func fd) (hlim : s.heap.NoLimit) (hcd : s.heap.CodeRec fd.code fd.qualname)
    (hbody : fd.body = .stmts body) (hbind : bindArgs fd ⟨args, []⟩ = pure binds) (hclo : fd.closure = [])
    (hkind : ∀ x ∈ binds, fd.scope.names.lookup x.1 = some .local ∨ (fd.scope.names.lookup x.1 = some .cell ∧ ((cellsFrom (s.heap.objs.size + 1) fd.scope.names []).lookup x.1).isSome = true))
    {mL : List (Str × Value)} (hm : ∀ L, (bindL (callEnvC fd L a).kindOf binds fun _ => none) = fun x => mL.lookup x)
    (hnd : ∀ L, ((callEnvC fd L a).cells.map (·.1)).Nodup)
    (h : ∀ L s₁, St s B L mL (((callEnvC fd L a).cells.map fun p => (p.2, OCell (bindC (callEnvC fd L a).kindOf binds (fun _ => none) p.1))) ++ l₀) s₁ →
      wpAny (model PW w) (A.deeper (callEnvC fd L a)) (execs body (callEnvC fd L a)) (fun f s' => R (.ok (.ret (retOf f))) s') (fun _ _ => False) s₁)
    (hco : fd.scope.isCoroutine = false := by rfl) (hgen : fd.scope.isGenerator = false := by rfl) (hk : fd.scope.kind = .function := by rfl) :
    codeAny (model PW w) A (.call (.ref a) ⟨args, []⟩) R s := by
  refine codeAny_call_cells hroom ho hdata hlim hcd hbody hbind hclo hkind (fun s₁ I => ?_) hco hgen hk
  obtain ⟨h1, tk1, rfl⟩ := I.toInCall.same
  have hBs : ∀ c, s.heap.objs.size ≤ c → B c = none := fun c hc => by
    cases e : B c with
    | none => rfl
    | some o => exact absurd (Heap.lt_size (hB _ _ e)) (Nat.not_lt.mpr hc)
  refine wpAny_mono (h s.heap.objs.size _ ⟨rfl, rfl, rfl, by rw [← hm]; exact I.toInCall.ns, fun b o e => I.toInCall.keep b o (hB b o e), hBs _ (Nat.le_refl _), fun p hp => ?_, ?_⟩) (fun f _ q => by cases f <;> exact q) fun _ _ q => q.elim
  · rcases List.mem_append.mp hp with hp | hp
    · obtain ⟨q, hq, rfl⟩ := List.mem_map.mp hp
      have hab : s.heap.objs.size < q.2 := I.above q.1 q.2 hq
      refine ⟨?_, Nat.ne_of_gt hab, hBs _ (Nat.le_of_lt hab)⟩
      exact I.cell q.1 q.2 (lookup_nodup (hnd _) hq)
    · obtain ⟨⟨o, e, d⟩, hb⟩ := hl₀ p hp
      exact ⟨⟨o, I.toInCall.keep _ _ e, d⟩, Nat.ne_of_lt (Heap.lt_size e), hb⟩
  · rw [List.map_append, List.nodup_append]
    refine ⟨?_, hnd₀, fun x hx y hy q => ?_⟩
    · rw [List.map_map]
      exact List.pairwise_map.mpr I.apart
    · obtain ⟨p, hp, rfl⟩ := List.mem_map.mp hx
      obtain ⟨c, hc, rfl⟩ := List.mem_map.mp hp
      obtain ⟨p', hp', rfl⟩ := List.mem_map.mp hy
      have hab : s.heap.objs.size < c.2 := I.above c.1 c.2 hc
      obtain ⟨⟨o, e, _⟩, _⟩ := hl₀ p' hp'
      have q' : c.2 = p'.1 := q
      rw [q'] at hab
      exact Nat.lt_asymm hab (Heap.lt_size e)
end
end Mine
end
section
open PySem PySem.W PyProof.Rows
set_option Elab.async false
set_option maxRecDepth 100000
namespace Mine
def Full54 (h : Heap) : Prop := ∃ c', h.get? 54 = some (tabObj #[rawInt 48, rawInt 4, .ref c']) ∧ h.CodeRec (.ref c') qdI
def New54 (s s' : Shared) : Prop := ∃ c', s'.heap.get? 54 = some (tabObj #[rawInt 48, rawInt 4, .ref c']) ∧ s'.heap.CodeRec (.ref c') qdI ∧ s.heap.get? c' = none
theorem New54.full {s s' : Shared} (x : New54 s s') : Full54 s'.heap := let ⟨c', a, b, _⟩ := x; ⟨c', a, b⟩
/-- enters a def of the top with cells; all is kept -/
theorem enterTopC {w : World} {A : Around} {s : Shared} {R : Result → Shared → Prop} {a c : Addr} {o oc : Obj} {fd : FuncData} {body : List Stmt} {args : List Value} {binds : List (Str × Value)} {vs : Array Value} {t : Tok} {mL : List (Str × Value)} (B : Addr → Option Obj) (l₀ : List (Addr × Desc))
    (hB : ∀ b o, B b = some o → s.heap.get? b = some o) (hl₀ : ∀ p ∈ l₀, (∃ o, s.heap.get? p.1 = some o ∧ p.2 o) ∧ B p.1 = none) (hnd₀ : (l₀.map (·.1)).Nodup)
    (T : TopB w B) (hroom : A.depth < recursionLimit)
    (ho : (hz.heap_157 w.params).lookup a = some o) (ha : (a != 47 && a != 54) = true) (hoc : (hz.heap_157 w.params).lookup c = some oc) (hc : (c != 47 && c != 54) = true) (hdata : o.data = .func fd)
    (hcd : fd.code = .ref c) (hcf : oc.data = .fields vs) (hcq : vs[1]? = some (.str fd.qualname t))
    (hbody : fd.body = .stmts body) (hbind : bindArgs fd ⟨args, []⟩ = pure binds) (hclo : fd.closure = [])
    (hkind : ∀ n, ∀ x ∈ binds, fd.scope.names.lookup x.1 = some .local ∨ (fd.scope.names.lookup x.1 = some .cell ∧ ((cellsFrom n fd.scope.names []).lookup x.1).isSome = true))
    (hm : ∀ L, (bindL (callEnvC fd L a).kindOf binds fun _ => none) = fun x => mL.lookup x)
    (hnd : ∀ L, ((callEnvC fd L a).cells.map (·.1)).Nodup)
    (hco : fd.scope.isCoroutine = false) (hgen : fd.scope.isGenerator = false) (hk : fd.scope.kind = .function)
    (h : ∀ L s₁, St s B L mL (((callEnvC fd L a).cells.map fun p => (p.2, OCell (bindC (callEnvC fd L a).kindOf binds (fun _ => none) p.1))) ++ l₀) s₁ →
      wpAny (model PW w) (A.deeper (callEnvC fd L a)) (execs body (callEnvC fd L a)) (fun f s' => R (.ok (.ret (retOf f))) s') (fun _ _ => False) s₁) :
    codeAny (model PW w) A (.call (.ref a) ⟨args, []⟩) R s := by
  have ha' : a ≠ 47 ∧ a ≠ 54 := by simpa using ha
  have hc' : c ≠ 47 ∧ c ≠ 54 := by simpa using hc
  exact enterCH B l₀ hB hl₀ hnd₀ hroom (hB _ _ (T.here _ _ ha'.1 ha'.2 ho)) hdata (nolimit_of (w := w) (hB _ _ (T.here 2 _ (by decide) (by decide) (by kernel_rfl))))
    (codeRec_at hcd (hB _ _ (T.here _ _ hc'.1 hc'.2 hoc)) hcf hcq) hbody hbind hclo (hkind _) hm hnd h hco hgen hk
theorem kinds_of {fd : FuncData} {binds : List (Str × Value)} (h : (binds.all fun x => fd.scope.names.lookup x.1 == some .local || (fd.scope.names.lookup x.1 == some .cell && ((cellsFrom 0 fd.scope.names []).lookup x.1).isSome)) = true) (n : Nat) :
    ∀ x ∈ binds, fd.scope.names.lookup x.1 = some .local ∨ (fd.scope.names.lookup x.1 = some .cell ∧ ((cellsFrom n fd.scope.names []).lookup x.1).isSome = true) := fun x hx => by
  have := List.all_eq_true.mp h x hx
  rw [Bool.or_eq_true, Bool.and_eq_true, beq_iff_eq, beq_iff_eq] at this
  rcases this with q | ⟨q1, q2⟩
  · exact .inl q
  · refine .inr ⟨q1, ?_⟩
    have key : ∀ (names : List (Str × NameKind)) (n k : Nat) (a b : List (Str × Addr)), a.map (·.1) = b.map (·.1) → ((cellsFrom n names a).lookup x.1).isSome = ((cellsFrom k names b).lookup x.1).isSome := by
      intro names
      induction names with
      | nil =>
        intro n k a b e
        show (a.lookup x.1).isSome = (b.lookup x.1).isSome
        induction a generalizing b with
        | nil => cases b with | nil => rfl | cons _ _ => cases e
        | cons p t ih =>
          cases b with
          | nil => cases e
          | cons p' t' =>
            rw [List.map_cons, List.map_cons, List.cons.injEq] at e
            rw [List.lookup_cons, List.lookup_cons, e.1]
            cases x.1 == p'.1 with
            | true => rfl
            | false => exact ih _ e.2
      | cons p t ih =>
        intro n k a b e
        obtain ⟨nm, kd⟩ := p
        show ((if kd == .cell then cellsFrom (n + 1) t ((nm, n) :: a) else cellsFrom n t a).lookup x.1).isSome = ((if kd == .cell then cellsFrom (k + 1) t ((nm, k) :: b) else cellsFrom k t b).lookup x.1).isSome
        split
        · exact ih _ _ _ _ (by simp [e])
        · exact ih _ _ _ _ e
    rw [key _ n 0 [] [] rfl]
    exact q2

abbrev d2iL (w : World) (L f a : Addr) (k : Nat) (t : Tok) (doc ctv : Value) (c' : Addr) (l : List (Addr × Desc)) : List (Addr × Desc) :=
  (L + 3, OCell (some (.ref f))) :: (L + 2, OCell (some (.int k t))) :: (L + 1, OCell (some (.ref a))) :: (f, OExact (fnMade n_inner qdI (dI w.params).1 (dI w.params).2.1 (dI w.params).2.2 [(n_n, L + 2), (n_inner, L + 3), (n_digits, L + 1)] doc (pmOf w.params) c' ctv)) :: l
theorem d2i_rest (w : World) (ns : List Int) (vs : List Value) (hi' : IntsAre vs ns) (k b d : Nat) (hb : ∀ x ∈ ns, Builtin.Int.intBits x ≤ b) (hb2 : b ≤ 1000) (hk2 : k ≤ 1000) (hn : ns.length ≤ 1000) (hnd : ns.length ≤ 2 ^ d)
    {A : Around} {s r : Shared} {B : Addr → Option Obj} {L : Addr} {m : List (Str × Value)} {l : List (Addr × Desc)} {Q : Value → Shared → Prop} (RA : Room (d + 1) A) {a f : Addr} {doc ctv : Value} {c' : Addr} {t : Tok}
    (TB : TopB w B) (S : St r B L m (d2iL w L f a k t doc ctv c' l) s)
    (hc : ∀ s', St r B L m (d2iL w L f a k t doc ctv c' l) s' → s'.heap.CodeRec (.ref c') qdI) (hl : ∀ s', St r B L m (d2iL w L f a k t doc ctv c' l) s' → s'.heap.IsList a vs.toArray)
    (h : ∀ s' t', St r B L m (d2iL w L f a k t doc ctv c' l) s' → Q (.int (valN k ns) t') s') :
    wpAny (model PW w) A (execs ((bodyOf (fd_d2i w.params)).drop 1) (callEnvC (fd_d2i w.params) L 59)) (fun f s' => Q (retOf f) s') (fun _ _ => False) s := by
  have hlen : vs.length = ns.length := ints_len hi'
  refine wpAny_execs_cons (wpAny_Return_some (IfExp_ (isTrue_plain (e_cell S (.tail _ (.tail _ (.head _))) (wpAny_truthy_list (hl _ S) (by simp; omega) ?_)))))
  have S := S.toks (s.toks + 1 + 1)
  by_cases hv : ns.length = 0
  · have e : ns = [] := List.length_eq_zero_iff.mp hv
    have : vs = [] := List.length_eq_zero_iff.mp (hlen.trans hv)
    subst this
    simp only [List.isEmpty_toArray, List.isEmpty_nil, Bool.not_true, Bool.false_eq_true, if_false]
    refine e_int S fun t' s' S => ?_
    have := h s' t' S
    rw [e] at this
    exact this
  · have hne : (!(vs.toArray).isEmpty) = true := by
      cases vs with
      | nil => exact absurd hlen.symm hv
      | cons _ _ => rfl
    rw [hne]
    simp only [if_true]
    generalize ({ s with toks := s.toks + 1 + 1 } : Shared) = s1 at S ⊢
    have D : ∀ {s2 : Shared}, St r B L m (d2iL w L f a k t doc ctv c' l) s2 → D2 w s2.heap f (L + 1) (L + 2) (L + 3) a vs k := fun S => by
      obtain ⟨of, ef, hof⟩ := S.get (a := f) (.tail _ (.tail _ (.tail _ (.head _))))
      have hof' : of = _ := hof
      subst hof'
      exact ⟨fun x o h1 h2 e => S.base _ _ (TB.here x o h1 h2 e), ⟨doc, ctv, c', ef, hc _ S⟩, S.get (.tail _ (.tail _ (.head _))), ⟨t, S.get (.tail _ (.head _))⟩, S.get (.head _), hl _ S⟩
    refine Call_ (e_cell S (.head _) (callWith_def (o := fnMade n_inner qdI (dI w.params).1 (dI w.params).2.1 (dI w.params).2.2 [(n_n, L + 2), (n_inner, L + 3), (n_digits, L + 1)] doc (pmOf w.params) c' ctv) rfl (args_cons (e_int S fun t0 s2 S => args_cons (Call_ (g_len S TB (callWith_builtin1 (args_cons (e_cell S (.tail _ (.tail _ (.head _))) (args_nil ?_))))))))))
    refine c_lenL S (hl _ S) (by omega) fun t1 s3 S => args_nil ?_
    obtain ⟨of, ef, hof⟩ := S.get (a := f) (.tail _ (.tail _ (.tail _ (.head _))))
    have hof' : of = _ := hof
    subst hof'
    refine ⟨ef, ?_⟩
    rw [hlen]
    refine d2_inner w ns vs hi' f (L + 1) (L + 2) (L + 3) a k b hb hb2 hk2 hn d 0 ns.length _ _ _ _ _ _ RA (D S) (by omega) (Nat.le_refl _) (by omega) fun s4 t4 K => ?_
    have := h s4 t4 (S.call K)
    rw [Nat.sub_zero, List.drop_zero, List.take_length]
    exact this

theorem code58 {w : World} {r : Shared} {B : Addr → Option Obj} {L : Addr} {m : List (Str × Value)} {l : List (Addr × Desc)} {s : Shared} (T : TopB w B) (S : St r B L m l s) : CodeHd s.heap 58 54 :=
  ⟨hz.zo_81 w.params, _, _, _, _, _, _, _, _, T.get S (by decide) (by decide) (by kernel_rfl), rfl, rfl, rfl, rfl, rfl, rfl, rfl, rfl, by decide⟩
theorem perm_rot4 {α : Type} (a b c f : α) (l : List α) : (a :: b :: c :: f :: l).Perm (f :: a :: b :: c :: l) :=
  ((((List.Perm.swap f c l).cons b).cons a).trans ((List.Perm.swap f b (c :: l)).cons a)).trans (List.Perm.swap f a (b :: c :: l))
theorem St.ne' {r : Shared} {B : Addr → Option Obj} {L : Addr} {m : List (Str × Value)} {l : List (Addr × Desc)} {s : Shared} (S : St r B L m l s) (i j : Nat) {p q : Addr × Desc} (hi : l[i]? = some p) (hj : l[j]? = some q) (h : i < j) : p.1 ≠ q.1 := by
  obtain ⟨hi1, hi2⟩ := List.getElem?_eq_some_iff.mp hi
  obtain ⟨hj1, hj2⟩ := List.getElem?_eq_some_iff.mp hj
  have := (List.pairwise_iff_getElem.mp S.nd) i j (by rw [List.length_map]; exact hi1) (by rw [List.length_map]; exact hj1) h
  rw [List.getElem_map, List.getElem_map, hi2, hj2] at this
  exact this
theorem perm_rot5 {α : Type} (a b c f g : α) (l : List α) : (a :: b :: c :: f :: g :: l).Perm (f :: g :: a :: b :: c :: l) :=
  (perm_rot4 a b c f (g :: l)).trans ((perm_rot4 a b c g l).cons f)
theorem d2i_hit (w : World) (ns : List Int) (vs : List Value) (hi' : IntsAre vs ns) (k b d : Nat) (hb : ∀ x ∈ ns, Builtin.Int.intBits x ≤ b) (hb2 : b ≤ 1000) (hk2 : k ≤ 1000) (hn : ns.length ≤ 1000) (hnd : ns.length ≤ 2 ^ d)
    (A : Around) (s : Shared) (Q E : Value → Shared → Prop) (RA : Room (d + 2) A) (a : Addr) (tk : Tok) (T : TopH w s.heap) (F : Full54 s.heap) (hl : s.heap.IsList a vs.toArray)
    (h : ∀ s' t, Kept s s' → Q (.int (valN k ns) t) s') : wpAny (model PW w) A (call (.ref 59) [.ref a, .int k tk]) Q E s := by
  have TB : TopB w (fun b => s.heap.get? b) := topB_of T
  obtain ⟨c', h54, hrec⟩ := F
  refine wpAny_call (enterTopC (o := hz.zo_82 w.params) (oc := hz.zo_81 w.params) (fd := fd_d2i w.params) (c := 58) (binds := [(n_digits, .ref a), (n_n, .int k tk)]) (mL := []) (fun b => s.heap.get? b) [] (fun _ _ e => e) (fun p hp => nomatch hp) List.nodup_nil TB RA.lt (by kernel_rfl) rfl (by kernel_rfl) rfl rfl rfl rfl rfl rfl rfl rfl (kinds_of (by kernel_rfl)) (fun L => rfl) (fun L => of_decide_eq_true (by kernel_rfl)) rfl rfl rfl (fun L s₁ S => ?_))
  have S : St s (fun b => s.heap.get? b) L [] [(L + 3, OCell none), (L + 2, OCell (some (.int k tk))), (L + 1, OCell (some (.ref a)))] s₁ := S
  refine wpAny_execs_cons (e_defHit (env := callEnvC (fd_d2i w.params) L 59) S TB (S.base _ _ h54) rfl (code58 TB S) trivial rfl rfl (by decide) fun f ctv doc s₂ S => ?_)
  refine e_storeCell S 1 rfl fun s₃ S => ?_
  have S := S.perm (l' := d2iL w L f a k tk doc ctv c' []) (perm_rot4 _ _ _ _ _)
  exact d2i_rest w ns vs hi' k b d hb hb2 hk2 hn hnd (RA.deeper _) TB S (fun _ S => hrec.keeps S.base) (fun _ S => kept_list S.kept hl) fun s' t' S => h s' t' S.kept

theorem d2i_new (w : World) (ns : List Int) (vs : List Value) (hi' : IntsAre vs ns) (k b d : Nat) (hb : ∀ x ∈ ns, Builtin.Int.intBits x ≤ b) (hb2 : b ≤ 1000) (hk2 : k ≤ 1000) (hn : ns.length ≤ 1000) (hnd : ns.length ≤ 2 ^ d)
    (A : Around) (s : Shared) (Q E : Value → Shared → Prop) (RA : Room (d + 2) A) (a : Addr) (tk : Tok) (T : TopH w s.heap) (h54 : s.heap.get? 54 = some (tabObj #[])) (hl : s.heap.IsList a vs.toArray)
    (h : ∀ s' t, KeptBut 54 s s' → New54 s s' → Q (.int (valN k ns) t) s') : wpAny (model PW w) A (call (.ref 59) [.ref a, .int k tk]) Q E s := by
  have TB : TopB w (fun b => if b = 54 then none else s.heap.get? b) := ⟨fun a o h1 h2 e => by show (if a = 54 then none else _) = _; rw [if_neg h2]; exact T a o h1 h2 e⟩
  have hB : ∀ b o, (fun b => if b = 54 then none else s.heap.get? b) b = some o → s.heap.get? b = some o := fun b o e => by
    have e' : (if b = 54 then none else s.heap.get? b) = some o := e
    split at e'
    · cases e'
    · exact e'
  have ha : a ≠ 54 := fun q => by
    obtain ⟨o, e, c, _⟩ := hl
    rw [q, h54] at e; cases e; cases c
  refine wpAny_call (enterTopC (o := hz.zo_82 w.params) (oc := hz.zo_81 w.params) (fd := fd_d2i w.params) (c := 58) (binds := [(n_digits, .ref a), (n_n, .int k tk)]) (mL := []) (fun b => if b = 54 then none else s.heap.get? b) [(54, OExact (tabObj #[]))] hB (fun p hp => by rw [List.mem_singleton] at hp; subst hp; exact ⟨⟨_, h54, rfl⟩, if_pos rfl⟩) (by simp) TB RA.lt (by kernel_rfl) rfl (by kernel_rfl) rfl rfl rfl rfl rfl rfl rfl rfl (kinds_of (by kernel_rfl)) (fun L => rfl) (fun L => of_decide_eq_true (by kernel_rfl)) rfl rfl rfl (fun L s₁ S => ?_))
  have S : St s (fun b => if b = 54 then none else s.heap.get? b) L [] [(L + 3, OCell none), (L + 2, OCell (some (.int k tk))), (L + 1, OCell (some (.ref a))), (54, OExact (tabObj #[]))] s₁ := S
  refine wpAny_execs_cons (e_defNew (env := callEnvC (fd_d2i w.params) L 59) S TB 3 rfl rfl (code58 TB S) trivial rfl rfl (by decide) fun f c' ctv doc s₂ S => ?_)
  refine e_storeCell S 2 rfl fun s₃ S => ?_
  have S := S.perm (l' := d2iL w L f a k tk doc ctv c' [(c', OCode qdI), (54, OExact (tabObj #[rawInt 48, rawInt 4, .ref c']))]) (perm_rot5 _ _ _ _ _ _)
  refine d2i_rest w ns vs hi' k b d hb hb2 hk2 hn hnd (RA.deeper _) TB S (fun _ S => S.code (.tail _ (.tail _ (.tail _ (.tail _ (.head _)))))) (fun _ S => ?_) fun s' t' S => h s' t' ⟨S.gens, S.drawn, S.os, fun b o hb e => S.base b o (by show (if b = 54 then none else _) = _; rw [if_neg hb]; exact e)⟩ ⟨c', ?_, S.code (.tail _ (.tail _ (.tail _ (.tail _ (.head _))))), ?_⟩
  · obtain ⟨o, e, q⟩ := hl
    exact ⟨o, S.base _ _ (by show (if a = 54 then none else _) = _; rw [if_neg ha]; exact e), q⟩
  · obtain ⟨o, e, q⟩ := S.get (a := 54) (.tail _ (.tail _ (.tail _ (.tail _ (.tail _ (.head _))))))
    rw [e]; exact congrArg some q
  · have hne : c' ≠ 54 := St.ne' S 4 5 rfl rfl (by decide)
    cases e : s.heap.get? c' with
    | none => rfl
    | some o =>
      have := (S.own _ (.tail _ (.tail _ (.tail _ (.tail _ (.head _)))))).2.2
      have e2 : (if c' = 54 then none else s.heap.get? c') = none := this
      rw [if_neg hne, e] at e2; cases e2
end Mine
end
section
open PySem PySem.W PyProof.Rows
set_option Elab.async false
set_option maxRecDepth 100000
set_option maxHeartbeats 4000000
namespace Mine
noncomputable def dJ (P : Params) := defOf ((bodyOf (fd_i2d P)).drop 1)
def qdJ : Str := ⟨⟨[95, 105, 110, 116, 50, 100, 105, 103, 105, 116, 115, 46, 60, 108, 111, 99, 97, 108, 115, 62, 46, 105, 110, 110, 101, 114]⟩⟩
noncomputable abbrev innerJ (w : World) (ca cn ci : Addr) (doc : Value) (c' : Addr) (ctv : Value) : Obj := fnMade n_inner qdJ (dJ w.params).1 (dJ w.params).2.1 (dJ w.params).2.2 [(n_n, cn), (n_inner, ci), (n_a_digits, ca)] doc (pmOf w.params) c' ctv
def CellBut (al : Addr) (h : Heap) (c : Addr) (v : Value) : Prop := h.IsCell c (some v) ∧ c ≠ al
structure I2 (w : World) (h : Heap) (f ca cn ci al : Addr) (N : Nat) : Prop where
  top : TopH w h
  apart : ∀ a o, a ≠ 47 → a ≠ 54 → (hz.heap_157 w.params).lookup a = some o → a ≠ al
  fn : f ≠ al ∧ ∃ doc ctv c' oc vs t, h.get? f = some (innerJ w ca cn ci doc c' ctv) ∧ h.get? c' = some oc ∧ oc.data = .fields vs ∧ vs[1]? = some (.str qdJ t) ∧ c' ≠ al
  ca : CellBut al h ca (.ref al)
  cn : ∃ t, CellBut al h cn (.int N t)
  ci : CellBut al h ci (.ref f)
theorem CellBut.keep {al : Addr} {h h' : Heap} {c : Addr} {v : Value} (x : CellBut al h c v) (hk : ∀ b o, b ≠ al → h.get? b = some o → h'.get? b = some o) : CellBut al h' c v :=
  let ⟨⟨o, e, d⟩, n⟩ := x; ⟨⟨o, hk _ _ n e, d⟩, n⟩
theorem I2.keep {w : World} {h h' : Heap} {f ca cn ci al : Addr} {N : Nat} (D : I2 w h f ca cn ci al N) (hk : ∀ b o, b ≠ al → h.get? b = some o → h'.get? b = some o) : I2 w h' f ca cn ci al N where
  top := fun a o h1 h2 e => hk a o (D.apart a o h1 h2 e) (D.top a o h1 h2 e)
  apart := D.apart
  fn := let ⟨nf, doc, ctv, c', oc, vs, t, e1, e2, e3, e4, n⟩ := D.fn; ⟨nf, doc, ctv, c', oc, vs, t, hk _ _ nf e1, hk _ _ n e2, e3, e4, n⟩
  ca := D.ca.keep hk
  cn := let ⟨t, e⟩ := D.cn; ⟨t, e.keep hk⟩
  ci := D.ci.keep hk
def hideB (al : Addr) (h : Heap) : Addr → Option Obj := fun b => if b = al then none else h.get? b
theorem hideB_none (al : Addr) (h : Heap) : hideB al h al = none := if_pos rfl
theorem hideB_of {al : Addr} {h : Heap} {b : Addr} {o : Obj} (e : hideB al h b = some o) : h.get? b = some o := by
  unfold hideB at e
  split at e
  · cases e
  · exact e
theorem hideB_get {al : Addr} {h : Heap} {b : Addr} {o : Obj} (n : b ≠ al) (e : h.get? b = some o) : hideB al h b = some o := by
  unfold hideB
  rw [if_neg n]; exact e
theorem I2.topB {w : World} {h : Heap} {f ca cn ci al : Addr} {N : Nat} (D : I2 w h f ca cn ci al N) : TopB w (hideB al h) := ⟨fun a o h1 h2 e => hideB_get (D.apart a o h1 h2 e) (D.top a o h1 h2 e)⟩
theorem St.keptBut {r : Shared} {al : Addr} {L : Addr} {m : List (Str × Value)} {l : List (Addr × Desc)} {s : Shared} (S : St r (hideB al r.heap) L m l s) : KeptBut al r s := ⟨S.gens, S.drawn, S.os, fun b o n e => S.base b o (hideB_get n e)⟩
/-- a call that may change the first own thing -/
theorem St.callBut {r : Shared} {B : Addr → Option Obj} {L : Addr} {m : List (Str × Value)} {l : List (Addr × Desc)} {s s' : Shared} {al : Addr} {D D' : Desc} {o' : Obj} (S : St r B L m ((al, D) :: l) s) (k : KeptBut al s s') (ho : s'.heap.get? al = some o') (hd : D' o') : St r B L m ((al, D') :: l) s' :=
  S.change (s' := s') 0 rfl k.gens k.drawn k.os (fun b o hb e => k.keep b o hb e) ho hd
def putR (xs : List Int) (lo hi : Nat) (ys : List Int) : List Int := xs.take lo ++ ys ++ xs.drop hi
theorem putR_one (xs : List Int) (lo : Nat) (h : lo < xs.length) (y : Int) : xs.set lo y = putR xs lo (lo + 1) [y] := by
  unfold putR
  rw [List.set_eq_take_append_cons_drop, if_pos h]; simp
theorem putR_len (xs ys : List Int) (lo hi : Nat) (h1 : lo ≤ hi) (h2 : hi ≤ xs.length) (hy : ys.length = hi - lo) : (putR xs lo hi ys).length = xs.length := by
  unfold putR
  simp only [List.length_append, List.length_take, List.length_drop, hy]; omega
theorem putR_putR (xs : List Int) (lo mid hi : Nat) (ys zs : List Int) (h1 : lo ≤ mid) (h2 : mid ≤ hi) (h3 : hi ≤ xs.length) (hy : ys.length = mid - lo) : putR (putR xs lo mid ys) mid hi zs = putR xs lo hi (ys ++ zs) := by
  unfold putR
  have e1 : (xs.take lo ++ ys).length = mid := by rw [List.length_append, List.length_take, hy]; omega
  rw [List.take_append_of_le_length (by omega), List.take_of_length_le (by omega), List.drop_append, List.drop_eq_nil_of_le (by omega), e1, List.nil_append, List.drop_drop, ← List.append_assoc]
  congr 2
  omega

theorem i2_inner (w : World) (f ca cn ci al : Addr) (N : Nat) (hN1 : 1 ≤ N) (hN : N ≤ 1000) :
    ∀ (d lo hi x : Nat) (A : Around) (s : Shared) (Q E : Value → Shared → Prop) (tx tl th : Tok) (vs : List Value) (xs : List Int), Room (d + 1) A → I2 w s.heap f ca cn ci al N → s.heap.PlainList al vs.toArray → IntsAre vs xs → lo < hi → hi ≤ xs.length → xs.length ≤ 1000 → hi - lo ≤ 2 ^ d → x < 2 ^ (N * (hi - lo)) →
      (∀ s' vs', KeptBut al s s' → s'.heap.PlainList al vs'.toArray → IntsAre vs' (putR xs lo hi ((digsN N (hi - lo) x).map fun (y : Nat) => (y : Int))) → Q .none s') → wpAny (model PW w) A (call (.ref f) [.int x tx, .int lo tl, .int hi th]) Q E s := by
  intro d
  induction d with
  | zero => ?_
  | succ d ih => ?_
  all_goals
    intro lo hi x A s Q E tx tl th vs xs RA D hl hi' hlt hle hn hd hx h
    obtain ⟨nf, doc, ctv, c', oc, vc, tc, hf, hc1, hc2, hc3, nc⟩ := D.fn
    obtain ⟨n0, e0⟩ := hl
    refine wpAny_call (enterMade (binds := [(n_x, .int x tx), (n_L, .int lo tl), (n_R, .int hi th)]) (hideB al s.heap) [(al, OList vs)] (fun _ _ e => hideB_of e) (fun p hp => by rw [List.mem_singleton] at hp; subst hp; exact ⟨⟨_, e0, n0, rfl⟩, hideB_none _ _⟩) (by simp) D.topB RA.lt hf ⟨c', oc, vc, tc, rfl, hc1, hc2, hc3⟩ rfl (by kernel_rfl) (by kernel_rfl) (fun L s₁ S => ?_) rfl rfl rfl)
    have TB : TopB w (hideB al s.heap) := D.topB
    have DD : ∀ {m l s2}, St s (hideB al s.heap) L m l s2 → I2 w s2.heap f ca cn ci al N := fun S => D.keep (S.keptBut).keep
    have hvl : vs.length = xs.length := ints_len hi'
    have one : hi = lo + 1 → wpAny (model PW w) (A.deeper (callEnv (fnX n_inner qdJ (dJ w.params).1 (dJ w.params).2.1 (dJ w.params).2.2 [(n_n, cn), (n_inner, ci), (n_a_digits, ca)] .none .none doc (pmOf w.params) none (.ref c') ctv) L f)) (execs (dJ w.params).2.1 (callEnv (fnX n_inner qdJ (dJ w.params).1 (dJ w.params).2.1 (dJ w.params).2.2 [(n_n, cn), (n_inner, ci), (n_a_digits, ca)] .none .none doc (pmOf w.params) none (.ref c') ctv) L f)) (fun f s' => Q (retOf f) s') (fun _ _ => False) s₁ := by
      rintro rfl
      refine wpAny_execs_cons (wpAny_If (wpAny_isTrue_Compare1 (wpAny_BinOp (e_loc S rfl (e_int S fun _ _ S => b_add S fun _ _ S => e_loc S rfl (c_eq (wpAny_truthy_bool ?_)))))))
      rw [show ((lo : Int) + 1 == ((lo + 1 : Nat) : Int)) = true from by simp]
      simp only [if_true]
      refine wpAny_execs_cons (wpAny_Assign_Subscript (e_loc S rfl (e_free (DD S).ca.1 (e_loc S rfl (e_setList S 0 rfl (by omega) (by omega) (by omega) fun s₃ S => ?_)))))
      refine wpAny_execs_cons (wpAny_Return_none ?_)
      refine h s₃ _ S.keptBut (S.plain (.head _)) ?_
      have e2 := ints_set hi' lo (x : Int) tx
      rw [putR_one xs lo (by omega)] at e2
      rw [show lo + 1 - lo = 1 by omega, Nat.mul_one] at hx
      rw [show lo + 1 - lo = 1 by omega, digsN_one N x hx]
      exact e2
  · exact one (by simp at hd; omega)
  · by_cases e : hi = lo + 1
    · exact one e
    · refine wpAny_execs_cons (wpAny_If (wpAny_isTrue_Compare1 (wpAny_BinOp (e_loc S rfl (e_int S fun _ _ S => b_add S fun _ _ S => e_loc S rfl (c_eq (wpAny_truthy_bool ?_)))))))
      rw [show ((lo : Int) + 1 == ((hi : Nat) : Int)) = false from by simp; omega]
      simp only [Bool.false_eq_true, if_false]
      refine wpAny_execs_nil ?_
      refine wpAny_execs_cons (wpAny_Assign_Name (wpAny_BinOp (wpAny_BinOp (e_loc S rfl (e_loc S rfl (b_add S fun _ _ S => e_int S fun _ _ S => b_shr S (by decide) fun _ _ S => ?_))))))
      rw [half]
      refine e_store S fun _ S => ?_
      have hm1 : lo < (lo + hi) / 2 := by omega
      have hm2 : (lo + hi) / 2 < hi := by omega
      generalize hmid : (lo + hi) / 2 = mid at S hm1 hm2 ⊢
      refine wpAny_execs_cons (wpAny_Assign_Name (wpAny_BinOp (wpAny_BinOp (e_loc S rfl (e_loc S rfl (b_sub S fun _ _ S => e_free (DD S).cn.choose_spec.1 (b_mul S ?_ fun _ _ S => ?_)))))))
      · exact IntMulOk.of_left (intBits_le_iff.mpr (by omega))
      have hsh : ((mid : Int) - lo) * (N : Int) = ((N * (mid - lo) : Nat) : Int) := by
        rw [Int.natCast_mul, Int.mul_comm]; congr 1; omega
      rw [hsh]
      refine e_store S fun _ S => ?_
      obtain ⟨M, hM⟩ : ∃ M, M = 1000 * 1000 := ⟨_, rfl⟩
      have hp : N * (mid - lo) ≤ M := hM ▸ Nat.mul_le_mul hN (by omega)
      have hp3 : N * (hi - mid) ≤ M := hM ▸ Nat.mul_le_mul hN (by omega)
      have hpow : 2 ^ (N * (hi - lo)) = 2 ^ (N * (mid - lo)) * 2 ^ (N * (hi - mid)) := by
        rw [← Nat.pow_add, ← Nat.mul_add]; congr 2; omega
      have hlow : x % 2 ^ (N * (mid - lo)) < 2 ^ (N * (mid - lo)) := Nat.mod_lt _ (Nat.two_pow_pos _)
      have hupp : x / 2 ^ (N * (mid - lo)) < 2 ^ (N * (hi - mid)) := Nat.div_lt_of_lt_mul (by rw [← hpow]; exact hx)
      have hbx : Builtin.Int.intBits ((x / 2 ^ (N * (mid - lo)) : Nat) : Int) ≤ M := by
        refine intBits_le_iff.mpr ?_
        rw [Int.natAbs_natCast]
        exact Nat.lt_of_lt_of_le hupp (Nat.pow_le_pow_right (by decide) hp3)
      have hdig := digsN_split N (mid - lo) (hi - mid) x
      rw [show (mid - lo) + (hi - mid) = hi - lo by omega] at hdig
      have h2d : hi - lo ≤ 2 * 2 ^ d := by rw [Nat.pow_succ] at hd; omega
      have hxor := xor_trunc x (N * (mid - lo))
      generalize hS : N * (mid - lo) = sh at S hp hpow hlow hupp hbx hdig hxor ⊢
      refine wpAny_execs_cons (wpAny_Assign_Name (wpAny_BinOp (e_loc S rfl (e_loc S rfl (b_shr S (by omega) fun _ _ S => ?_)))))
      rw [show ((x : Int).fdiv (2 ^ ((sh : Int).toNat))) = ((x / 2 ^ sh : Nat) : Int) from by
        rw [Int.toNat_natCast, Int.fdiv_eq_ediv_of_nonneg _ (by exact Int.le_of_lt (Int.pow_pos (by decide)))]
        simp]
      refine e_store S fun _ S => ?_
      refine wpAny_execs_cons (wpAny_Assign_Name (wpAny_BinOp (e_loc S rfl (wpAny_BinOp (e_loc S rfl (e_loc S rfl (b_shl S RA.handled (Int.natCast_nonneg _) ?_ fun _ _ S => ?_)))))))
      · clear hupp hlow hpow hxor hdig
        generalize Builtin.Int.intBits ((x / 2 ^ sh : Nat) : Int) = z at hbx ⊢
        omega
      refine b_xor S fun _ _ S => ?_
      rw [show (((x / 2 ^ sh : Nat) : Int) * 2 ^ ((sh : Int).toNat)) = ((x / 2 ^ sh * 2 ^ sh : Nat) : Int) from by rw [Int.toNat_natCast]; simp, hxor]
      refine e_store S fun _ S => ?_
      refine wpAny_execs_cons (wpAny_Expr_any (Call_ (e_free (DD S).ci.1 (callWith_def (o := innerJ w ca cn ci doc c' ctv) rfl (args_cons (e_loc S rfl (args_cons (e_loc S rfl (args_cons (e_loc S rfl (args_nil ⟨S.base _ _ (hideB_get nf hf), ?_⟩)))))))))))
      refine ih lo mid _ _ _ _ _ _ _ _ vs xs (RA.deeper _) (DD S) (S.plain (.head _)) hi' hm1 (by omega) hn (by omega) (by rw [hS]; exact hlow) fun s₅ vs₅ K₅ hl₅ hi₅ => ?_
      obtain ⟨n5, e5⟩ := hl₅
      have S := S.callBut (D' := OList vs₅) K₅ e5 ⟨n5, rfl⟩
      refine wpAny_execs_cons (wpAny_Expr_any (Call_ (e_free (DD S).ci.1 (callWith_def (o := innerJ w ca cn ci doc c' ctv) rfl (args_cons (e_loc S rfl (args_cons (e_loc S rfl (args_cons (e_loc S rfl (args_nil ⟨S.base _ _ (hideB_get nf hf), ?_⟩)))))))))))
      have hl5 := putR_len xs ((digsN N (mid - lo) (x % 2 ^ sh)).map fun (y : Nat) => (y : Int)) lo mid (by omega) (by omega) (by rw [List.length_map, digsN_len])
      refine ih mid hi _ _ _ _ _ _ _ _ vs₅ _ (RA.deeper _) (DD S) (S.plain (.head _)) hi₅ hm2 (by omega) (by omega) (by omega) hupp fun s₆ vs₆ K₆ hl₆ hi₆ => ?_
      obtain ⟨n6, e6⟩ := hl₆
      have S := S.callBut (D' := OList vs₆) K₆ e6 ⟨n6, rfl⟩
      refine wpAny_execs_nil ?_
      refine h _ vs₆ S.keptBut (S.plain (.head _)) ?_
      rw [putR_putR xs lo mid hi _ _ (by omega) (by omega) hle (by rw [List.length_map, digsN_len]), ← List.map_append] at hi₆
      rw [hdig]
      exact hi₆
end Mine
end
section
open PySem PySem.W PyProof.Rows
set_option Elab.async false
set_option maxRecDepth 100000
set_option maxHeartbeats 4000000
namespace Mine
theorem St.ne {r : Shared} {B : Addr → Option Obj} {L : Addr} {m : List (Str × Value)} {l : List (Addr × Desc)} {s : Shared} (S : St r B L m l s) (i j : Nat) {p q : Addr × Desc} (hi : l[i]? = some p) (hj : l[j]? = some q) (h : i < j) : p.1 ≠ q.1 := by
  obtain ⟨hi1, hi2⟩ := List.getElem?_eq_some_iff.mp hi
  obtain ⟨hj1, hj2⟩ := List.getElem?_eq_some_iff.mp hj
  have := (List.pairwise_iff_getElem.mp S.nd) i j (by rw [List.length_map]; exact hi1) (by rw [List.length_map]; exact hj1) h
  rw [List.getElem_map, List.getElem_map, hi2, hj2] at this
  exact this
theorem St.neB {r : Shared} {B : Addr → Option Obj} {L : Addr} {m : List (Str × Value)} {l : List (Addr × Desc)} {s : Shared} (S : St r B L m l s) {p : Addr × Desc} (hp : p ∈ l) {b : Addr} {o : Obj} (e : B b = some o) : b ≠ p.1 := fun q => by
  have := (S.own p hp).2.2
  rw [← q, e] at this; cases this
def Full47 (h : Heap) : Prop := ∃ c', h.get? 47 = some (tabObj #[rawInt 33, rawInt 4, .ref c']) ∧ h.CodeRec (.ref c') qdJ
def nDig (N X : Nat) : Nat := (Builtin.Int.intBits (X : Int) + N - 1) / N
theorem nDig_lt (N X : Nat) (hN : 1 ≤ N) : X < 2 ^ (N * nDig N X) := by
  have h1 : Builtin.Int.intBits (X : Int) ≤ N * nDig N X := by
    unfold nDig
    have h2 := Nat.div_add_mod (Builtin.Int.intBits (X : Int) + N - 1) N
    have h3 := Nat.mod_lt (Builtin.Int.intBits (X : Int) + N - 1) (show 0 < N by omega)
    omega
  have h4 := intBits_le_iff.mp h1
  rw [Int.natAbs_natCast] at h4
  exact h4
theorem nDig_zero (N : Nat) (hN : 1 ≤ N) : nDig N 0 = 0 := by
  unfold nDig
  have : Builtin.Int.intBits ((0 : Nat) : Int) = 0 := by rfl
  rw [this]
  exact Nat.div_eq_of_lt (by omega)
theorem fdiv_nat (a b : Nat) : (a : Int).fdiv (b : Int) = ((a / b : Nat) : Int) := by
  rw [Int.fdiv_eq_ediv_of_nonneg _ (by omega)]; simp
theorem code51 {w : World} {r : Shared} {B : Addr → Option Obj} {L : Addr} {m : List (Str × Value)} {l : List (Addr × Desc)} {s : Shared} (T : TopB w B) (S : St r B L m l s) : CodeHd s.heap 51 47 :=
  ⟨hz.zo_74 w.params, _, _, _, _, _, _, _, _, T.get S (by decide) (by decide) (by kernel_rfl), rfl, rfl, rfl, rfl, rfl, rfl, rfl, rfl, by decide⟩
theorem ints_repl (K : Nat) (t : Tok) : IntsAre (List.replicate K [Value.int 0 t]).flatten (List.replicate K 0) := by
  induction K with
  | zero => exact .nil
  | succ n ih => rw [List.replicate_succ, List.flatten_cons, List.replicate_succ]; exact .cons _ _ ih
abbrev i2dL (w : World) (L f al : Addr) (N : Nat) (t : Tok) (doc ctv : Value) (c' : Addr) (vs : List Value) (l : List (Addr × Desc)) : List (Addr × Desc) :=
  (al, OList vs) :: (L + 3, OCell (some (.ref f))) :: (L + 2, OCell (some (.ref al))) :: (L + 1, OCell (some (.int N t))) :: (f, OExact (innerJ w (L + 2) (L + 1) (L + 3) doc c' ctv)) :: l
theorem i2d_rest (w : World) (X N d : Nat) (hN1 : 1 ≤ N) (hN : N ≤ 1000) (hK : nDig N X ≤ 2 ^ d) (hK2 : nDig N X ≤ 1000)
    {A : Around} {s r : Shared} {B : Addr → Option Obj} {L : Addr} {l : List (Addr × Desc)} {Q : Value → Shared → Prop} (RA : Room (d + 1) A) {f al : Addr} {doc ctv : Value} {c' : Addr} {t tx : Tok} {vs : List Value}
    (TB : TopB w B) (S : St r B L [(n_a, .int X tx)] (i2dL w L f al N t doc ctv c' vs l) s) (hvs : IntsAre vs (List.replicate (nDig N X) 0))
    (hc : ∀ s' vs', St r B L [(n_a, .int X tx)] (i2dL w L f al N t doc ctv c' vs' l) s' → c' ≠ al ∧ s'.heap.CodeRec (.ref c') qdJ)
    (h : ∀ s' vs', St r B L [(n_a, .int X tx)] (i2dL w L f al N t doc ctv c' vs' l) s' → IntsAre vs' ((digsN N (nDig N X) X).map fun (y : Nat) => (y : Int)) → Q (.ref al) s') :
    wpAny (model PW w) A (execs ((bodyOf (fd_i2d w.params)).drop 2) (callEnvC (fd_i2d w.params) L 52)) (fun f s' => Q (retOf f) s') (fun _ _ => False) s := by
  have hlen : vs.length = nDig N X := by rw [ints_len hvs, List.length_replicate]
  have D : ∀ {s2 : Shared} {vs2}, St r B L [(n_a, .int X tx)] (i2dL w L f al N t doc ctv c' vs2 l) s2 → I2 w s2.heap f (L + 2) (L + 1) (L + 3) al N := fun {s2 vs2} S => by
    obtain ⟨of, ef, hof⟩ := S.get (a := f) (.tail _ (.tail _ (.tail _ (.tail _ (.head _)))))
    have hof' : of = _ := hof
    subst hof'
    obtain ⟨n1, c2, oc, vc, tc, e1, e2, e3, e4⟩ := hc _ _ S
    cases e1
    exact ⟨fun x o h1 h2 e => S.base _ _ (TB.here x o h1 h2 e), fun x o h1 h2 e => S.neB (.head _) (TB.here x o h1 h2 e), ⟨(S.ne 0 4 rfl rfl (by decide)).symm, doc, ctv, c', oc, vc, tc, ef, e2, e3, e4, n1⟩,
      ⟨S.get (.tail _ (.tail _ (.head _))), (S.ne 0 2 rfl rfl (by decide)).symm⟩, ⟨t, S.get (.tail _ (.tail _ (.tail _ (.head _)))), (S.ne 0 3 rfl rfl (by decide)).symm⟩, ⟨S.get (.tail _ (.head _)), (S.ne 0 1 rfl rfl (by decide)).symm⟩⟩
  refine wpAny_execs_cons (wpAny_If (isTrue_plain (e_loc S rfl (truthy_int ?_))))
  by_cases hX : X = 0
  · have e : (((X : Int)) != 0) = false := by rw [hX]; rfl
    rw [e]
    simp only [Bool.false_eq_true, if_false]
    refine wpAny_execs_nil ?_
    refine wpAny_execs_cons (wpAny_Return_some (e_cell S (.tail _ (.tail _ (.head _))) ?_))
    refine h _ _ S ?_
    rw [hX, nDig_zero N hN1] at hvs ⊢
    exact hvs
  · have e : (((X : Int)) != 0) = true := by simp; omega
    rw [e]
    simp only [if_true]
    refine wpAny_execs_cons (wpAny_Expr_any (Call_ (e_cell S (.tail _ (.head _)) (callWith_def (o := innerJ w (L + 2) (L + 1) (L + 3) doc c' ctv) rfl (args_cons (e_loc S rfl (args_cons (e_int S fun t0 s2 S => args_cons (Call_ (g_len S TB (callWith_builtin1 (args_cons (e_cell S (.tail _ (.tail _ (.head _))) (args_nil ?_))))))))))))))
    refine c_lenL S (S.list (.head _)) (by omega) fun t1 s3 S => args_nil ?_
    obtain ⟨of, ef, hof⟩ := S.get (a := f) (.tail _ (.tail _ (.tail _ (.tail _ (.head _)))))
    have hof' : of = _ := hof
    subst hof'
    refine ⟨ef, ?_⟩
    rw [hlen]
    have hK0 : 0 < nDig N X := by
      rcases Nat.eq_zero_or_pos (nDig N X) with q | q
      · have := nDig_lt N X hN1
        rw [q] at this; simp at this; omega
      · exact q
    refine i2_inner w f (L + 2) (L + 1) (L + 3) al N hN1 hN d 0 (nDig N X) X _ _ _ _ _ _ _ vs _ RA (D S) (S.plain (.head _)) hvs hK0 (by simp) (by simp; omega) (by omega) (by rw [Nat.sub_zero]; exact nDig_lt N X hN1) fun s4 vs4 K4 hl4 hi4 => ?_
    obtain ⟨n4, e4⟩ := hl4
    have S := S.callBut (D' := OList vs4) K4 e4 ⟨n4, rfl⟩
    refine wpAny_execs_nil ?_
    refine wpAny_execs_cons (wpAny_Return_some (e_cell S (.tail _ (.tail _ (.head _))) ?_))
    refine h _ _ S ?_
    unfold putR at hi4
    rw [List.take_zero, List.nil_append, Nat.sub_zero, List.drop_eq_nil_of_le (by simp), List.append_nil] at hi4
    exact hi4
end Mine
end
section
open PySem PySem.W PyProof.Rows
set_option Elab.async false
set_option maxRecDepth 100000
set_option maxHeartbeats 4000000
namespace Mine
def New47 (s s' : Shared) : Prop := ∃ c', s'.heap.get? 47 = some (tabObj #[rawInt 33, rawInt 4, .ref c']) ∧ s'.heap.CodeRec (.ref c') qdJ ∧ s.heap.get? c' = none
theorem New47.full {s s' : Shared} (x : New47 s s') : Full47 s'.heap := let ⟨c', a, b, _⟩ := x; ⟨c', a, b⟩
theorem perm_rot5' {α : Type} (z a b c f : α) (l : List α) : (z :: a :: b :: c :: f :: l).Perm (f :: z :: a :: b :: c :: l) :=
  ((perm_rot4 a b c f l).cons z).trans (List.Perm.swap f z (a :: b :: c :: l))
theorem perm_rot6' {α : Type} (z a b c f g : α) (l : List α) : (z :: a :: b :: c :: f :: g :: l).Perm (f :: g :: z :: a :: b :: c :: l) :=
  (perm_rot5' z a b c f (g :: l)).trans ((perm_rot5' z a b c g l).cons f)
theorem i2d_first (w : World) (X N : Nat) (hN1 : 1 ≤ N) (hN : N ≤ 1000) (hK2 : nDig N X ≤ 1000) (hXb : Builtin.Int.intBits (X : Int) ≤ 1000000)
    {A : Around} {s r : Shared} {B : Addr → Option Obj} {L : Addr} {l : List (Addr × Desc)} {Q : Value → Shared → Prop} {tn tx : Tok} {body : List Stmt} {st : Stmt}
    (S : St r B L [(n_a, .int X tx)] ((L + 3, OCell none) :: (L + 2, OCell none) :: (L + 1, OCell (some (.int N tn))) :: l) s)
    (hst : (bodyOf (fd_i2d w.params)) = st :: body)
    (h : ∀ s' al t0, St r B L [(n_a, .int X tx)] ((al, OList (List.replicate (nDig N X) [Value.int 0 t0]).flatten) :: (L + 3, OCell none) :: (L + 2, OCell (some (.ref al))) :: (L + 1, OCell (some (.int N tn))) :: l) s' →
      wpAny (model PW w) A (execs body (callEnvC (fd_i2d w.params) L 52)) (fun f s' => Q (retOf f) s') (fun _ _ => False) s') :
    wpAny (model PW w) A (execs (bodyOf (fd_i2d w.params)) (callEnvC (fd_i2d w.params) L 52)) (fun f s' => Q (retOf f) s') (fun _ _ => False) s := by
  have hb := hst
  change _ :: _ = _ at hb
  rw [List.cons.injEq] at hb
  refine wpAny_execs_cons (wpAny_Assign_Name (wpAny_BinOp (List_ (args_cons (e_int S fun t0 s2 S => args_nil (e_newList S fun a0 s3 S => ?_))))))
  refine wpAny_BinOp (wpAny_BinOp (wpAny_BinOp (MethodCall_ (e_loc S rfl (getMethod_int_bit_length (callWith_method0 (call_int_bit_length ?_)))))))
  refine e_cell (S.toks _) (.tail _ (.tail _ (.tail _ (.head _)))) (b_add (S.toks _) fun _ _ S => e_int S fun _ _ S => b_sub S fun _ _ S => e_cell S (.tail _ (.tail _ (.tail _ (.head _)))) (floordiv_int (by omega) ?_))
  have hq : (((Builtin.Int.intBits (X : Int) : Nat) : Int) + (N : Int) - 1).fdiv (N : Int) = (nDig N X : Int) := by
    rw [show ((Builtin.Int.intBits (X : Int) : Nat) : Int) + (N : Int) - 1 = ((Builtin.Int.intBits (X : Int) + N - 1 : Nat) : Int) by omega, fdiv_nat]
    rfl
  rw [hq]
  refine b_repeat (S.toks _) (.head _) (by simp) (by omega) (by omega) (by simp; omega) fun al s8 S => ?_
  refine e_storeCell S.drop2 2 rfl fun s9 S => ?_
  rw [hb.2]
  rw [Int.toNat_natCast] at S
  exact h _ al t0 S

theorem i2d_hit (w : World) (X N d : Nat) (hN1 : 1 ≤ N) (hN : N ≤ 1000) (hK : nDig N X ≤ 2 ^ d) (hK2 : nDig N X ≤ 1000) (hXb : Builtin.Int.intBits (X : Int) ≤ 1000000)
    (A : Around) (s : Shared) (Q E : Value → Shared → Prop) (RA : Room (d + 2) A) (tx tn : Tok) (T : TopH w s.heap) (F : Full47 s.heap)
    (h : ∀ s' al vs, Kept s s' → s'.heap.PlainList al vs.toArray → IntsAre vs ((digsN N (nDig N X) X).map fun (y : Nat) => (y : Int)) → s.heap.get? al = none → Q (.ref al) s') :
    wpAny (model PW w) A (call (.ref 52) [.int X tx, .int N tn]) Q E s := by
  have TB : TopB w (fun b => s.heap.get? b) := topB_of T
  obtain ⟨c', h47, hrec⟩ := F
  refine wpAny_call (enterTopC (o := hz.zo_75 w.params) (oc := hz.zo_74 w.params) (fd := fd_i2d w.params) (c := 51) (binds := [(n_a, .int X tx), (n_n, .int N tn)]) (mL := [(n_a, .int X tx)]) (fun b => s.heap.get? b) [] (fun _ _ e => e) (fun p hp => nomatch hp) List.nodup_nil TB RA.lt (by kernel_rfl) rfl (by kernel_rfl) rfl rfl rfl rfl rfl rfl rfl rfl (kinds_of (by kernel_rfl)) (fun L => lookup_upd [] n_a (.int X tx)) (fun L => of_decide_eq_true (by kernel_rfl)) rfl rfl rfl (fun L s₁ S => ?_))
  have S : St s (fun b => s.heap.get? b) L [(n_a, .int X tx)] [(L + 3, OCell none), (L + 2, OCell none), (L + 1, OCell (some (.int N tn)))] s₁ := S
  refine i2d_first w X N hN1 hN hK2 hXb S rfl fun s₂ al t0 S => ?_
  refine wpAny_execs_cons (e_defHit (env := callEnvC (fd_i2d w.params) L 52) S TB (S.base _ _ h47) rfl (code51 TB S) trivial rfl rfl (by decide) fun f ctv doc s₂ S => ?_)
  refine e_storeCell S 2 rfl fun s₃ S => ?_
  have S := S.perm (l' := i2dL w L f al N tn doc ctv c' (List.replicate (nDig N X) [Value.int 0 t0]).flatten []) (perm_rot5' _ _ _ _ _ _)
  refine i2d_rest w X N d hN1 hN hK hK2 (RA.deeper _) TB S (ints_repl _ _) (fun s' vs' S => ⟨?_, hrec.keeps S.base⟩) fun s' vs' S hi => h s' al vs' S.kept (S.plain (.head _)) hi (S.own _ (.head _)).2.2
  obtain ⟨c2, oc, vc, tc, e1, e2, e3, e4⟩ := hrec
  cases e1
  exact S.neB (.head _) e2

theorem i2d_new (w : World) (X N d : Nat) (hN1 : 1 ≤ N) (hN : N ≤ 1000) (hK : nDig N X ≤ 2 ^ d) (hK2 : nDig N X ≤ 1000) (hXb : Builtin.Int.intBits (X : Int) ≤ 1000000)
    (A : Around) (s : Shared) (Q E : Value → Shared → Prop) (RA : Room (d + 2) A) (tx tn : Tok) (T : TopH w s.heap) (h47 : s.heap.get? 47 = some (tabObj #[]))
    (h : ∀ s' al vs, KeptBut 47 s s' → New47 s s' → s'.heap.PlainList al vs.toArray → IntsAre vs ((digsN N (nDig N X) X).map fun (y : Nat) => (y : Int)) → s.heap.get? al = none → Q (.ref al) s') :
    wpAny (model PW w) A (call (.ref 52) [.int X tx, .int N tn]) Q E s := by
  have TB : TopB w (hideB 47 s.heap) := ⟨fun a o h1 h2 e => hideB_get h1 (T a o h1 h2 e)⟩
  refine wpAny_call (enterTopC (o := hz.zo_75 w.params) (oc := hz.zo_74 w.params) (fd := fd_i2d w.params) (c := 51) (binds := [(n_a, .int X tx), (n_n, .int N tn)]) (mL := [(n_a, .int X tx)]) (hideB 47 s.heap) [(47, OExact (tabObj #[]))] (fun _ _ e => hideB_of e) (fun p hp => by rw [List.mem_singleton] at hp; subst hp; exact ⟨⟨_, h47, rfl⟩, hideB_none _ _⟩) (by simp) TB RA.lt (by kernel_rfl) rfl (by kernel_rfl) rfl rfl rfl rfl rfl rfl rfl rfl (kinds_of (by kernel_rfl)) (fun L => lookup_upd [] n_a (.int X tx)) (fun L => of_decide_eq_true (by kernel_rfl)) rfl rfl rfl (fun L s₁ S => ?_))
  have S : St s (hideB 47 s.heap) L [(n_a, .int X tx)] [(L + 3, OCell none), (L + 2, OCell none), (L + 1, OCell (some (.int N tn))), (47, OExact (tabObj #[]))] s₁ := S
  refine i2d_first w X N hN1 hN hK2 hXb S rfl fun s₂ al t0 S => ?_
  refine wpAny_execs_cons (e_defNew (env := callEnvC (fd_i2d w.params) L 52) S TB 4 rfl rfl (code51 TB S) trivial rfl rfl (by decide) fun f c' ctv doc s₂ S => ?_)
  refine e_storeCell S 3 rfl fun s₃ S => ?_
  have S := S.perm (l' := i2dL w L f al N tn doc ctv c' (List.replicate (nDig N X) [Value.int 0 t0]).flatten [(c', OCode qdJ), (47, OExact (tabObj #[rawInt 33, rawInt 4, .ref c']))]) (perm_rot6' _ _ _ _ _ _ _)
  refine i2d_rest w X N d hN1 hN hK hK2 (RA.deeper _) TB S (ints_repl _ _) (fun s' vs' S => ⟨(S.ne 0 5 rfl rfl (by decide)).symm, S.code (.tail _ (.tail _ (.tail _ (.tail _ (.tail _ (.head _))))))⟩) fun s' vs' S hi => ?_
  have hal : al ≠ 47 := S.ne 0 6 rfl rfl (by decide)
  refine h s' al vs' S.keptBut ⟨c', ?_, S.code (.tail _ (.tail _ (.tail _ (.tail _ (.tail _ (.head _)))))), ?_⟩ (S.plain (.head _)) hi ?_
  · obtain ⟨o, e, q⟩ := S.get (a := 47) (.tail _ (.tail _ (.tail _ (.tail _ (.tail _ (.tail _ (.head _)))))))
    rw [e]; exact congrArg some q
  · have hne : c' ≠ 47 := S.ne 5 6 rfl rfl (by decide)
    cases e : s.heap.get? c' with
    | none => rfl
    | some o => have := (S.own _ (.tail _ (.tail _ (.tail _ (.tail _ (.tail _ (.head _))))))).2.2; rw [hideB_get hne e] at this; cases this
  · cases e : s.heap.get? al with
    | none => rfl
    | some o => have := (S.own _ (.head _)).2.2; rw [hideB_get hal e] at this; cases this
end Mine
end
section
open PySem PySem.W PyProof.Rows
set_option Elab.async false
set_option maxRecDepth 100000
set_option maxHeartbeats 4000000
namespace Mine
section
variable {r : Shared} {B : Addr → Option Obj} {L : Addr} {m : List (Str × Value)} {l : List (Addr × Desc)} {s s' : Shared}
variable {w : World} {A : Around} {E : Value → Shared → Prop} {env : Env}
theorem c_iter {a : Addr} {vs : List Value} {Q : Value → Shared → Prop} (S : St r B L m l s) (hl : s.heap.IsList a vs.toArray) (h : ∀ it s', St r B L m ((it, OListIter a 0) :: l) s' → Q (.ref it) s') : wpAny (model PW w) A (call (.builtin "iter") [.ref a]) Q E s := by
  refine Calls.call_function_entry (by decide +kernel) (by decide +kernel) kdk_entry_iter (kdk_args_iter _) ?_
  unfold Builtin.«iter»
  refine wpAny_bind (m := someArgs "iter" 1 2 _) (wpAny_of_eq (a := [Value.ref a]) (by first | rfl | kernel_rfl!) ?_)
  show wpAny _ _ (pyIter (.ref a) >>= _) _ _ _
  refine wpAny_bind (e_iterList S hl fun it s' S => ?_)
  exact wpAny_pure ⟨_, rfl, h it s' S⟩
theorem c_next {it a : Addr} {vs : List Value} {i : Nat} {v : Value} {Q : Value → Shared → Prop} (S : St r B L m ((it, OListIter a i) :: l) s) (hl : s.heap.IsList a vs.toArray) (hx : vs[i]? = some v) (h : ∀ s', St r B L m ((it, OListIter a (i + 1)) :: l) s' → Q v s') : wpAny (model PW w) A (call (.builtin "next") [.ref it]) Q E s := by
  obtain ⟨o, ho, hc, hd⟩ := S.get (.head _)
  have hit : s.heap.IsListIter it a i := ⟨o, ho, hc, hd⟩
  obtain ⟨ol, hol, _, nl, hdl⟩ := hl
  refine Calls.call_function_entry (by decide +kernel) (by decide +kernel) kdk_entry_next (kdk_args_next _) ?_
  unfold Builtin.«next»
  refine wpAny_bind (m := someArgs "next" 1 2 _) (wpAny_of_eq (a := [Value.ref it]) (by first | rfl | kernel_rfl!) ?_)
  dsimp only
  refine wpAny_bind (wpAny_specialOf (name := Str.ofString "__next__") hit.typeIs slot_listiter_next.lookup ?_)
  refine wpAny_ite_split (fun hab => absurd hab (by decide)) (fun _ => ?_)
  refine wpAny_bind ?_
  refine wpAny_callSpecial?_slot (name := Str.ofString "__next__") hit.typeIs slot_listiter_next
    (wpAny_call_entry slot_listiter_next hit.typeIs entry_listiter_next ?_ (args_listiter_next _))
  show wpAny _ _ (field (.ref it) 0 >>= _) _ _ s
  refine wpAny_bind (wpAny_field ho hd (x := .ref a) rfl ?_)
  show wpAny _ _ (if (Value.ref a == Value.none) = true then _ else _) _ _ s
  rw [if_neg (show ¬ ((Value.ref a == Value.none) = true) from Bool.false_ne_true)]
  show wpAny _ _ (field (.ref it) 1 >>= _) _ _ s
  refine wpAny_bind (wpAny_field ho hd (x := .int i 0) rfl ?_)
  show wpAny _ _ (seqItems? (.ref a) >>= _) _ _ s
  refine wpAny_bind (wpAny_seqItems hol hdl ?_)
  have hx' : vs.toArray[i]? = some v := by simpa using hx
  simp only [Int.toNat_natCast, hx']
  refine wpAny_bind (wpAny_setField ho hd (by simp) (wpAny_pure ⟨v, rfl, wpAny_pure ⟨v, rfl, h _ ?_⟩⟩))
  refine S.change (s' := { s with heap := _ }) 0 rfl rfl rfl rfl (fun b o hb e => ((Heap.SameBut.update ..).2 b hb).trans e) (Heap.get?_update_self _ ho (Obj.isFreed_of_fields (Obj.data_mapFields hd _))) ⟨(Obj.cls_mapFields ..).trans hc, ?_⟩
  rw [Obj.data_mapFields hd]; simp [rawInt]
end
end Mine
end
section
open PySem PySem.W PyProof.Rows
set_option Elab.async false
set_option maxRecDepth 100000
set_option maxHeartbeats 4000000
namespace Mine
theorem num_drop (ls : List Nat) (i : Nat) (h : i < ls.length) : num (ls.drop i) = ls.getD i 0 + 64 * num (ls.drop (i + 1)) := by
  rw [List.drop_eq_getElem_cons h, List.getD_eq_getElem?_getD, List.getElem?_eq_getElem h]; rfl
theorem num_lt (ls : List Nat) (h : ∀ x ∈ ls, x < 64) : num ls < 64 ^ ls.length := by
  induction ls with
  | nil => decide
  | cons x t ih =>
    have h1 := h x (.head _)
    have h2 := ih fun y hy => h y (.tail _ hy)
    show x + 64 * num t < 64 ^ (t.length + 1)
    rw [Nat.pow_succ]; omega
theorem and63 (d : Nat) (h : d < 64) : (64 + d) &&& 63 = d ∧ d &&& 63 = d ∧ (64 + d) &&& 64 = 64 ∧ d &&& 64 = 0 := by
  have : ∀ d, d < 64 → (64 + d) &&& 63 = d ∧ d &&& 63 = d ∧ (64 + d) &&& 64 = 64 ∧ d &&& 64 = 0 := by decide
  exact this d h
theorem or64 (v d : Nat) (h : d < 64) : (v * 64) ||| d = d + 64 * v := by
  have := Nat.shiftLeft_add_eq_or_of_lt (i := 6) (show d < 2 ^ 6 from h) v
  rw [Nat.shiftLeft_eq] at this
  change v * 64 + d = v * 64 ||| d at this
  omega
def tapeOf (ls : List Nat) : List Nat := (ls.drop 1).reverse.map (64 + ·) ++ [ls.getD 0 0]
theorem tape_len (ls : List Nat) (h : 1 ≤ ls.length) : (tapeOf ls).length = ls.length := by
  unfold tapeOf
  simp; omega
theorem tape_at (ls : List Nat) (j : Nat) (h : j < ls.length) : (tapeOf ls).getD j 0 = (if j + 1 < ls.length then 64 else 0) + ls.getD (ls.length - 1 - j) 0 := by
  unfold tapeOf
  simp only [List.getD_eq_getElem?_getD]
  split
  · rw [List.getElem?_append_left (by simp; omega), List.getElem?_map, List.getElem?_reverse (by simp; omega), List.getElem?_drop]
    rw [show 1 + ((ls.drop 1).length - 1 - j) = ls.length - 1 - j by simp; omega]
    rw [List.getElem?_eq_getElem (by omega)]; rfl
  · have e : j = ls.length - 1 := by omega
    subst e
    rw [List.getElem?_append_right (by simp)]
    simp

theorem enterTopH {w : World} {A : Around} {s : Shared} {R : Result → Shared → Prop} {a c : Addr} {o oc : Obj} {fd : FuncData} {body : List Stmt} {args : List Value} {binds : List (Str × Value)} {vs : Array Value} {t : Tok} (B : Addr → Option Obj) (l₀ : List (Addr × Desc))
    (hB : ∀ b o, B b = some o → s.heap.get? b = some o) (hl₀ : ∀ p ∈ l₀, (∃ o, s.heap.get? p.1 = some o ∧ p.2 o) ∧ B p.1 = none) (hnd : (l₀.map (·.1)).Nodup)
    (T : TopB w B) (hroom : A.depth < recursionLimit)
    (ho : (hz.heap_157 w.params).lookup a = some o) (ha : (a != 47 && a != 54) = true) (hoc : (hz.heap_157 w.params).lookup c = some oc) (hc : (c != 47 && c != 54) = true) (hdata : o.data = .func fd)
    (hcd : fd.code = .ref c) (hcf : oc.data = .fields vs) (hcq : vs[1]? = some (.str fd.qualname t))
    (hbody : fd.body = .stmts body) (hbind : bindArgs fd ⟨args, []⟩ = pure binds)
    (hcell : (fd.scope.names.all fun x => !(x.2 == .cell)) = true) (hloc : (binds.all fun x => fd.scope.names.lookup x.1 == some .local) = true)
    (hco : fd.scope.isCoroutine = false) (hgen : fd.scope.isGenerator = false) (hk : fd.scope.kind = .function)
    (h : ∀ L s₁, St s B L binds.reverse l₀ s₁ → wpAny (model PW w) (A.deeper (callEnv fd L a)) (execs body (callEnv fd L a)) (fun f s' => R (.ok (.ret (retOf f))) s') (fun _ _ => False) s₁) :
    codeAny (model PW w) A (.call (.ref a) ⟨args, []⟩) R s := by
  have ha' : a ≠ 47 ∧ a ≠ 54 := by simpa using ha
  have hc' : c ≠ 47 ∧ c ≠ 54 := by simpa using hc
  exact enterH B l₀ hB hl₀ hnd hroom (hB _ _ (T.here _ _ ha'.1 ha'.2 ho)) hdata (nolimit_of (w := w) (hB _ _ (T.here 2 _ (by decide) (by decide) (by kernel_rfl))))
    (codeRec_at hcd (hB _ _ (T.here _ _ hc'.1 hc'.2 hoc)) hcf hcq) hbody hbind (cells_of hcell) (locs_of hloc) h hco hgen hk
/-- Room for a plain call, all kept but one thing -/
theorem topHide {w : World} {h : Heap} (T : TopH w h) {x : Addr} (hap : ∀ a o, a ≠ 47 → a ≠ 54 → (hz.heap_157 w.params).lookup a = some o → a ≠ x) : TopB w (hideB x h) := ⟨fun a o h1 h2 e => hideB_get (hap a o h1 h2 e) (T a o h1 h2 e)⟩
theorem g_next {r : Shared} {B : Addr → Option Obj} {L : Addr} {m : List (Str × Value)} {l : List (Addr × Desc)} {s : Shared} {w : World} {A : Around} {E : Value → Shared → Prop} {env : Env} {pos : Pos} {Q : Value → Shared → Prop} (S : St r B L m l s) (T : TopB w B) (h : Q (.builtin "next") s)
    (hk : env.scope.kind = .function := by rfl) (hl : env.kindOf (Str.mk ⟨[110, 101, 120, 116]⟩) = some .globalImplicit := by rfl) (hg : env.globals = 3 := by rfl) (hb : env.builtins = 0 := by rfl) :
    wpAny (model PW w) A (eval (.Name (Str.mk ⟨[110, 101, 120, 116]⟩) pos) env) Q E s := e_boot S T (by kernel_rfl) (by kernel_rfl) h hk hl hg hb (by decide)
theorem g_divmod {r : Shared} {B : Addr → Option Obj} {L : Addr} {m : List (Str × Value)} {l : List (Addr × Desc)} {s : Shared} {w : World} {A : Around} {E : Value → Shared → Prop} {env : Env} {pos : Pos} {Q : Value → Shared → Prop} (S : St r B L m l s) (T : TopB w B) (h : Q (.builtin "divmod") s)
    (hk : env.scope.kind = .function := by rfl) (hl : env.kindOf (Str.mk ⟨[100, 105, 118, 109, 111, 100]⟩) = some .globalImplicit := by rfl) (hg : env.globals = 3 := by rfl) (hb : env.builtins = 0 := by rfl) :
    wpAny (model PW w) A (eval (.Name (Str.mk ⟨[100, 105, 118, 109, 111, 100]⟩) pos) env) Q E s := e_boot S T (by kernel_rfl) (by kernel_rfl) h hk hl hg hb (by decide)
theorem g_reversed {r : Shared} {B : Addr → Option Obj} {L : Addr} {m : List (Str × Value)} {l : List (Addr × Desc)} {s : Shared} {w : World} {A : Around} {E : Value → Shared → Prop} {env : Env} {pos : Pos} {Q : Value → Shared → Prop} (S : St r B L m l s) (T : TopB w B) (h : Q (.type "reversed") s)
    (hk : env.scope.kind = .function := by rfl) (hl : env.kindOf (Str.mk ⟨[114, 101, 118, 101, 114, 115, 101, 100]⟩) = some .globalImplicit := by rfl) (hg : env.globals = 3 := by rfl) (hb : env.builtins = 0 := by rfl) :
    wpAny (model PW w) A (eval (.Name (Str.mk ⟨[114, 101, 118, 101, 114, 115, 101, 100]⟩) pos) env) Q E s := e_boot S T (by kernel_rfl) (by kernel_rfl) h hk hl hg hb (by decide)
theorem b_and_nat {r : Shared} {B : Addr → Option Obj} {L : Addr} {m : List (Str × Value)} {l : List (Addr × Desc)} {s : Shared} {w : World} {A : Around} {E : Value → Shared → Prop} {a b : Nat} {t u : Tok} {Q : Value → Shared → Prop} (S : St r B L m l s) (h : ∀ t s', St r B L m l s' → Q (.int ((a &&& b : Nat) : Int) t) s') :
    wpAny (model PW w) A (binaryOp .BitAnd (.int a t) (.int b u)) Q E s := b_and S fun t s' S => by rw [bitAnd_nat]; exact h t s' S

theorem varint_walk (w : World) (A : Around) (s : Shared) (Q E : Value → Shared → Prop) (it at' : Addr) (tv : List Value) (ls : List Nat)
    (RA : Room 2 A) (T : TopH w s.heap) (hit : ∃ o, s.heap.get? it = some o ∧ OListIter at' 0 o) (hap : ∀ a o, a ≠ 47 → a ≠ 54 → (hz.heap_157 w.params).lookup a = some o → a ≠ it)
    (hl : s.heap.IsList at' tv.toArray) (hti : IntsAre tv ((tapeOf ls).map fun (x : Nat) => (x : Int)))
    (hne : 1 ≤ ls.length) (hlen : ls.length ≤ 100) (h64 : ∀ x ∈ ls, x < 64)
    (h : ∀ s' t, KeptBut it s s' → Q (.int (num ls : Nat) t) s') :
    wpAny (model PW w) A (call (.ref 80) [.ref it]) Q E s := by
  obtain ⟨oi, ei, hci, hdi⟩ := id hit
  have hat : at' ≠ it := fun q => by
    obtain ⟨o, e, c, _⟩ := hl
    rw [q, ei] at e; cases e; rw [hci] at c; exact absurd (Value.type.inj c) (by decide)
  have TB := topHide T hap
  refine wpAny_call (enterTopH (o := hz.zo_103 w.params) (oc := hz.zo_102 w.params) (fd := fd_varint w.params) (c := 79) (binds := [(n_iterator, .ref it)]) (hideB it s.heap) [(it, OListIter at' 0)] (fun _ _ e => hideB_of e) (fun p hp => by rw [List.mem_singleton] at hp; subst hp; exact ⟨hit, hideB_none _ _⟩) (by simp) TB RA.lt (by kernel_rfl) rfl (by kernel_rfl) rfl rfl rfl rfl rfl rfl rfl (by kernel_rfl) (by kernel_rfl) rfl rfl rfl (fun L s₁ S => ?_))
  have HL : ∀ {m l s2}, St s (hideB it s.heap) L m l s2 → s2.heap.IsList at' tv.toArray := fun S => by
    obtain ⟨o, e, q⟩ := hl
    exact ⟨o, S.base _ _ (hideB_get hat e), q⟩
  have htl : (tapeOf ls).length = ls.length := tape_len ls hne
  have item : ∀ j, j < ls.length → ∃ t, tv[j]? = some (.int (((if j + 1 < ls.length then 64 else 0) + ls.getD (ls.length - 1 - j) 0 : Nat) : Int) t) := fun j hj => by
    obtain ⟨t, e⟩ := ints_at hti (k := j) (by rw [List.length_map, htl]; exact hj)
    refine ⟨t, ?_⟩
    rw [e]
    congr 2
    rw [← tape_at ls j hj, List.getD_eq_getElem?_getD, List.getElem?_map, List.getD_eq_getElem?_getD, List.getElem?_eq_getElem (by omega)]; rfl
  have lt64 : ∀ i, ls.getD i 0 < 64 := fun i => by
    rw [List.getD_eq_getElem?_getD]
    cases e : ls[i]? with
    | none => decide
    | some x => exact h64 x (List.mem_of_getElem? e)
  obtain ⟨t0, h0⟩ := item 0 hne
  refine wpAny_execs_cons (wpAny_Assign_Name (Call_ (g_next S TB (callWith_builtin1 (args_cons (e_loc S rfl (args_nil ?_)))))))
  refine c_next S (HL S) h0 fun s₂ S => ?_
  refine e_store S fun s₃ S => ?_
  refine wpAny_execs_cons (wpAny_Assign_Name (wpAny_BinOp (e_loc S rfl (e_int S fun _ _ S => ?_))))
  refine b_and_nat (b := 63) S fun _ _ S => ?_
  refine e_store S fun s₃ S => ?_
  have hb0 : ((if 0 + 1 < ls.length then 64 else 0) + ls.getD (ls.length - 1 - 0) 0) &&& 63 = num (ls.drop (ls.length - 1 - 0)) := by
    have := lt64 (ls.length - 1 - 0)
    rw [num_drop _ _ (by omega), List.drop_eq_nil_of_le (by omega)]
    split
    · rw [(and63 _ this).1]; rfl
    · rw [Nat.zero_add, (and63 _ this).2.1]; rfl
  rw [hb0] at S
  refine wpAny_execs_cons (wpAny_While (codeAny_whileLoop (fun n s' => ∃ j m t t2, n = ls.length - 1 - j ∧ j < ls.length ∧ St s (hideB it s.heap) L m [(it, OListIter at' (j + 1))] s' ∧ m.lookup n_iterator = some (.ref it) ∧ m.lookup n_b = some (.int (((if j + 1 < ls.length then 64 else 0) + ls.getD (ls.length - 1 - j) 0 : Nat) : Int) t) ∧ m.lookup n_val = some (.int (num (ls.drop (ls.length - 1 - j)) : Nat) t2)) ?_ (ls.length - 1 - 0) ⟨0, _, _, _, rfl, hne, S, rfl, rfl, rfl⟩))
  rintro n s' ⟨j, m, t, t2, rfl, hj, S, h1, h2, h3⟩
  refine isTrue_plain (wpAny_BinOp (e_loc S h2 (e_int S fun _ _ S => ?_)))
  refine b_and_nat (b := 64) S fun _ _ S => ?_
  refine truthy_int ?_
  have hd := lt64 (ls.length - 1 - j)
  by_cases hlast : j + 1 < ls.length
  · rw [if_pos hlast, (and63 _ hd).2.2.1]
    rw [show (((64 : Nat) : Int) != 0) = true from rfl]
    simp only [if_true]
    refine wpAny_execs_cons (wpAny_AugAssign_Name (e_locn S h3 (e_int S fun _ _ S => ilshift_int (by decide) ?_ ?_)))
    · have hv : num (ls.drop (ls.length - 1 - j)) < 64 ^ 100 := Nat.lt_of_lt_of_le (num_lt _ fun x hx => h64 x (List.mem_of_mem_drop hx)) (Nat.pow_le_pow_right (by decide) (by rw [List.length_drop]; omega))
      have : Builtin.Int.intBits ((num (ls.drop (ls.length - 1 - j)) : Nat) : Int) ≤ 600 := by
        refine intBits_le_iff.mpr ?_
        rw [Int.natAbs_natCast]
        exact hv
      generalize Builtin.Int.intBits ((num (ls.drop (ls.length - 1 - j)) : Nat) : Int) = z at this ⊢
      omega
    refine e_store (S.toks _) fun s₄ S => ?_
    obtain ⟨tn, hn⟩ := item (j + 1) hlast
    refine wpAny_execs_cons (wpAny_Assign_Name (Call_ (g_next S TB (callWith_builtin1 (args_cons (e_loc S h1 (args_nil ?_)))))))
    refine c_next S (HL S) hn fun s₅ S => ?_
    refine e_store S fun s₆ S => ?_
    refine wpAny_execs_cons (wpAny_AugAssign_Name (e_locn S rfl (wpAny_BinOp (e_loc S rfl (e_int S fun _ _ S => ?_)))))
    refine b_and_nat (b := 63) S fun _ _ S => ?_
    refine ior_int ?_
    have hd' := lt64 (ls.length - 1 - (j + 1))
    have hm : ((if j + 1 + 1 < ls.length then 64 else 0) + ls.getD (ls.length - 1 - (j + 1)) 0) &&& 63 = ls.getD (ls.length - 1 - (j + 1)) 0 := by
      split
      · exact (and63 _ hd').1
      · rw [Nat.zero_add]; exact (and63 _ hd').2.1
    have hnum : num (ls.drop (ls.length - 1 - (j + 1))) = ls.getD (ls.length - 1 - (j + 1)) 0 + 64 * num (ls.drop (ls.length - 1 - j)) := by
      rw [num_drop _ _ (by omega), show ls.length - 1 - (j + 1) + 1 = ls.length - 1 - j by omega]
    rw [hm, show ((num (ls.drop (ls.length - 1 - j)) : Nat) : Int) * 2 ^ ((6 : Int).toNat) = ((num (ls.drop (ls.length - 1 - j)) * 64 : Nat) : Int) from by rw [Int.natCast_mul]; rfl, bitOr_nat, or64 _ _ hd', ← hnum]
    refine e_store (S.toks _) fun s₇ S => ?_
    exact wpAny_execs_nil ⟨ls.length - 1 - (j + 1), by omega, j + 1, _, _, _, rfl, hlast, S, h1, rfl, rfl⟩
  · rw [if_neg hlast, Nat.zero_add, (and63 _ hd).2.2.2]
    rw [show (((0 : Nat) : Int) != 0) = false from rfl]
    simp only [Bool.false_eq_true, if_false]
    refine wpAny_execs_nil (wpAny_execs_cons (wpAny_Return_some (e_loc S h3 ?_)))
    rw [show ls.length - 1 - j = 0 by omega, List.drop_zero]
    exact h _ _ S.keptBut
end Mine
end
section
open PySem PySem.W PyProof.Rows
set_option Elab.async false
set_option maxRecDepth 100000
set_option maxHeartbeats 4000000
namespace Mine
theorem fmod_nat (a b : Nat) : (a : Int).fmod (b : Int) = ((a % b : Nat) : Int) := by
  rw [Int.fmod_eq_emod_of_nonneg _ (by omega)]; simp
theorem log2_lt {b : Nat} (hb : 1 ≤ b) (hbb : Builtin.Int.intBits (b : Int) ≤ 1000) : (b : Int).natAbs.log2 < 9000 := by
  rw [Int.natAbs_natCast]
  have h1 := intBits_le_iff.mp hbb
  rw [Int.natAbs_natCast] at h1
  exact Nat.lt_of_lt_of_le ((Nat.log2_lt (by omega)).mpr h1) (by decide)
theorem c_divmod {r : Shared} {B : Addr → Option Obj} {L : Addr} {m : List (Str × Value)} {l : List (Addr × Desc)} {s : Shared} {w : World} {A : Around} {E : Value → Shared → Prop} {a b : Nat} {ta tb : Tok} {Q : Value → Shared → Prop} (S : St r B L m l s) (hb : 1 ≤ b) (hbb : Builtin.Int.intBits (b : Int) ≤ 1000)
    (h : ∀ c t u s', St r B L m ((c, OTuple [.int (a / b : Nat) t, .int (a % b : Nat) u]) :: l) s' → Q (.ref c) s') :
    wpAny (model PW w) A (call (.builtin "divmod") [.int a ta, .int b tb]) Q E s := by
  refine divmod_int (by omega) ?_ (.inl (PyProof.noPylong_of_log2 (log2_lt hb hbb)))
  rw [fdiv_nat, fmod_nat]
  exact h _ _ _ _ ((S.alloc (o := { cls := .type "tuple", data := .seq #[.int ((a / b : Nat) : Int) s.toks, .int ((a % b : Nat) : Int) (s.toks + 1)] }) rfl ⟨rfl, 0, rfl⟩).toks _)
theorem div2n1n_walk (w : World) (A : Around) (s : Shared) (Q E : Value → Shared → Prop) (a b n : Nat) (ta tb tn : Tok)
    (RA : Room 2 A) (T : TopH w s.heap) (hb : 1 ≤ b) (hbb : Builtin.Int.intBits (b : Int) ≤ 1000) (hab : Builtin.Int.intBits (a : Int) ≤ n + 4000)
    (h : ∀ s' c t u, Kept s s' → s.heap.get? c = none → s'.heap.IsTuple c #[.int (a / b : Nat) t, .int (a % b : Nat) u] → Q (.ref c) s') :
    wpAny (model PW w) A (call (.ref 38) [.int a ta, .int b tb, .int n tn]) Q E s := by
  refine wpAny_call (enterTop (o := hz.zo_61 w.params) (oc := hz.zo_60 w.params) (fd := fd_div2n1n w.params) (c := 37) (binds := [(n_a, .int a ta), (n_b, .int b tb), (n_n, .int n tn)]) T RA.lt (by kernel_rfl) rfl (by kernel_rfl) rfl rfl rfl rfl rfl rfl rfl (by kernel_rfl) (by kernel_rfl) rfl rfl rfl (fun L s₁ S TB => ?_))
  refine wpAny_execs_cons (wpAny_If (wpAny_isTrue_Compare1 (wpAny_BinOp (MethodCall_ (e_loc S rfl (getMethod_int_bit_length (callWith_method0 (call_int_bit_length ?_))))))))
  refine e_loc (S.toks _) rfl (b_sub (S.toks _) fun _ _ S => e_glob S TB (v := .int 4000 284) (by kernel_rfl) ?_)
  refine le_int (wpAny_truthy_bool ?_)
  rw [show decide (((Builtin.Int.intBits (a : Int) : Nat) : Int) - (n : Int) ≤ 4000) = true from by simp; omega]
  simp only [if_true]
  refine wpAny_execs_cons (wpAny_Return_some (Call_ (g_divmod S TB (PyProof.Rows.callWith_builtin1 (args_cons (e_loc S rfl (args_cons (e_loc S rfl (args_nil ?_)))))))))
  refine c_divmod S hb hbb fun c t u s' S => ?_
  have hc := (S.own _ (.head _)).2.2
  exact h s' c t u S.kept hc (S.tuple (.head _))
end Mine
end
section
open PySem PySem.W PyProof.Rows
set_option Elab.async false
set_option maxRecDepth 100000
set_option maxHeartbeats 4000000
namespace Mine
def ORevIter (aw : Addr) (n i : Nat) : Desc := fun o => o.cls = .type "list_reverseiterator" ∧ o.data = .fields #[.ref aw, rawInt ((n : Int) - 1 - (i : Int))]
theorem iter_rev {w : World} {A : Around} (hh : A.handled = none) (it aw : Addr) (its : List Value) : Iter w A it its.length (fun i v => its[its.length - 1 - i]? = some v) (ORevIter aw its.length) (fun s => s.heap.IsList aw its.toArray) where
  next := fun i s Q E hit hl hi h0 h1 => by
    obtain ⟨o, e, hc, hd⟩ := hit
    have hit' : s.heap.IsRevIter it aw ((its.length : Int) - 1 - (i : Int)) := ⟨o, e, hc, hd⟩
    by_cases hlt : i < its.length
    · have hx : its[its.length - 1 - i]? = some its[its.length - 1 - i] := List.getElem?_eq_getElem (by omega)
      have e1 : (its.length : Int) - 1 - (i : Int) = ((its.length - 1 - i : Nat) : Int) := by omega
      rw [e1] at hit'
      refine wpAny_pyNext_rev_item hit' hl (x := its[its.length - 1 - i]) (by simpa using hx) fun h₁ hit₁ hs₁ => ?_
      obtain ⟨o1, ho1, hc1, hd1⟩ := hit₁
      refine h1 hlt _ h₁ _ o1 hx hs₁ ho1 ⟨hc1, ?_⟩
      have e2 : (((its.length - 1 - i : Nat) : Int) - 1) = (its.length : Int) - 1 - ((i + 1 : Nat) : Int) := by omega
      rw [hd1, e2]
    · have e1 : (its.length : Int) - 1 - (i : Int) = -1 := by omega
      rw [e1] at hit'
      exact wpAny_pyNext_rev_end hh hit' (h0 (by omega))
  self := fun i s Q E hit h => by
    obtain ⟨o, e, hc, hd⟩ := hit
    exact wpAny_pyIter_revIter (l := aw) ⟨o, e, hc, hd⟩ h
section
variable {r : Shared} {B : Addr → Option Obj} {L : Addr} {m : List (Str × Value)} {l : List (Addr × Desc)} {s s' : Shared}
variable {w : World} {A : Around} {E : Value → Shared → Prop} {env : Env}
theorem c_reversed {a : Addr} {vs : List Value} {Q : Value → Shared → Prop} (S : St r B L m l s) (hl : s.heap.IsList a vs.toArray) (h : ∀ it s', St r B L m ((it, ORevIter a vs.length 0) :: l) s' → Q (.ref it) s') : wpAny (model PW w) A (call (.type "reversed") [.ref a]) Q E s :=
  call_reversed_list hl (h _ _ (S.alloc (o := revObj a ((vs.toArray.size : Int) - 1)) rfl ⟨rfl, by simp [revObj]⟩))
theorem c_iterRev {a : Addr} {n i : Nat} {it : Addr} {Q : Value → Shared → Prop} (S : St r B L m ((it, ORevIter a n i) :: l) s) (h : Q (.ref it) s) : wpAny (model PW w) A (pyIter (.ref it)) Q E s := by
  obtain ⟨o, e, hc, hd⟩ := S.get (.head _)
  exact wpAny_pyIter_revIter (l := a) ⟨o, e, hc, hd⟩ h
theorem mapSeq_rev (its : Array Value) (n : Nat) : ∃ n', Obj.mapSeq (fun x => x.reverse) { cls := .type "list", dict := none, data := .seq its n, slots := #[] } = { cls := .type "list", dict := none, data := .seq its.reverse n', slots := #[] } := by
  simp [Obj.mapSeq]
theorem c_reverse {a : Addr} {vs : List Value} {Q : Value → Shared → Prop} (S : St r B L m l s) (i : Nat) (hi : l[i]? = some (a, OList vs)) (hsz : vs.length ≤ sizeLine) (h : ∀ s', St r B L m (l.set i (a, OList vs.reverse)) s' → Q .none s') : wpAny (model PW w) A (call (.builtin "list.reverse") [.ref a]) Q E s := by
  obtain ⟨n, e⟩ := S.plain (List.mem_of_getElem? hi)
  refine call_meets PySem.F.slot_list_reverse ⟨_, e, rfl⟩ PySem.F.entry_list_reverse (PySem.F.args_list_reverse_1 _) (PySem.AutoSeq1.list_reverse_list_0 a vs.toArray n (by simpa using hsz)) ⟨e, h _ ?_⟩
  obtain ⟨n', hn'⟩ := mapSeq_rev vs.toArray n
  refine S.change (s' := { s with heap := _, toks := _ }) i hi rfl rfl rfl (fun b o hb e => ((Heap.SameBut.update ..).2 b hb).trans e) (o' := { cls := .type "list", dict := none, data := .seq vs.toArray.reverse n', slots := #[] }) (by rw [Heap.get?_update_self _ e (by rw [hn']; rfl), hn']) ⟨n', by simp⟩
theorem e_mReverse {a : Addr} {vs : List Value} {pl : Sem Bool} {Q : Value × List Value → Shared → Prop} (S : St r B L m l s) (hm : (a, OList vs) ∈ l) (h : Q (.builtin "list.reverse", [.ref a]) s) : wpAny (model PW w) A (getMethod (.ref a) "reverse" pl) Q E s := by
  obtain ⟨n, e⟩ := S.plain hm
  exact getMethod_builtin ⟨_, e, rfl⟩ PySem.F.plainAttrs_list PySem.F.slot_list_reverse PySem.F.type_list_reverse (fun a' e' => by cases e'; exact ⟨_, e, rfl⟩) h
end
end Mine
end
section
open PySem PySem.W PyProof.Rows
set_option Elab.async false
set_option maxRecDepth 100000
set_option maxHeartbeats 4000000
namespace Mine
/-- one turn of the division -/
theorem div_turn (b p d V : Nat) (hb : 1 ≤ b) (hd : d < p) : (V * p + d) / b = (V / b) * p + ((V % b) * p + d) / b ∧ (V * p + d) % b = ((V % b) * p + d) % b ∧ ((V % b) * p + d) / b < p := by
  have h1 := Nat.div_add_mod V b
  have e : V * p + d = b * ((V / b) * p) + ((V % b) * p + d) := by
    conv => lhs; rw [← h1]
    rw [Nat.add_mul, Nat.mul_assoc, Nat.add_assoc]
  have h2 := Nat.mod_lt V (show 0 < b by omega)
  refine ⟨?_, ?_, ?_⟩
  · rw [e, Nat.mul_add_div (by omega)]
  · rw [e, Nat.mul_add_mod]
  · refine Nat.div_lt_of_lt_mul ?_
    have : (V % b + 1) * p ≤ b * p := Nat.mul_le_mul_right p (by omega)
    rw [Nat.add_mul, Nat.one_mul] at this
    omega
theorem ints_append {vs us : List Value} {ns ms : List Int} (h : IntsAre vs ns) (h2 : IntsAre us ms) : IntsAre (vs ++ us) (ns ++ ms) := by
  induction h with
  | nil => exact h2
  | cons a t _ ih => exact .cons _ _ ih
theorem ints_reverse {vs : List Value} {ns : List Int} (h : IntsAre vs ns) : IntsAre vs.reverse ns.reverse := by
  induction h with
  | nil => exact .nil
  | cons a t _ ih => rw [List.reverse_cons, List.reverse_cons]; exact ints_append ih (.cons _ _ .nil)
theorem digsN_at (n k x i : Nat) (h : i < k) : (digsN n k x).getD i 0 = x / 2 ^ (n * i) % 2 ^ n := by
  unfold digsN
  rw [List.getD_eq_getElem?_getD, List.getElem?_map, List.getElem?_range h]; rfl
theorem intBits_lt {x n : Nat} (h : x < 2 ^ n) : Builtin.Int.intBits (x : Int) ≤ n := intBits_le_iff.mpr (by rw [Int.natAbs_natCast]; exact h)
theorem lt_intBits (x : Nat) : x < 2 ^ (Builtin.Int.intBits (x : Int)) := by
  have := intBits_le_iff.mp (Nat.le_refl (Builtin.Int.intBits (x : Int)))
  rwa [Int.natAbs_natCast] at this

theorem dpos_rest (w : World) (a b n K d : Nat) (hb : 1 ≤ b) (hn : n = Builtin.Int.intBits (b : Int)) (hn2 : n ≤ 1000) (hK : K ≤ 2 ^ d) (hK2 : K ≤ 1000) (haK : a < 2 ^ (n * K))
    {A : Around} {s r : Shared} {B : Addr → Option Obj} {L : Addr} {m : List (Str × Value)} {l : List (Addr × Desc)} {Q : Value → Shared → Prop} (RA : Room (d + 2) A) {al : Addr} {vs : List Value} {tn tb : Tok}
    (TB : TopB w B) (S : St r B L m ((al, OList vs) :: l) s) (hvs : IntsAre vs ((digsN n K a).map fun (y : Nat) => (y : Int)))
    (m1 : m.lookup n_a_digits = some (.ref al)) (m2 : m.lookup n_n = some (.int n tn)) (m3 : m.lookup n_b = some (.int b tb))
    (F : ∀ m l' s', St r B L m (l' ++ l) s' → Full54 s'.heap)
    (h : ∀ s' c m' t u, St r B L m' ((c, OTuple [.int (a / b : Nat) t, .int (a % b : Nat) u]) :: l) s' → Q (.ref c) s') :
    wpAny (model PW w) A (execs ((bodyOf (fd_dpos w.params)).drop 2) (callEnv (fd_dpos w.params) L 66)) (fun f s' => Q (retOf f) s') (fun _ _ => False) s := by
  have hlen : vs.length = K := by rw [ints_len hvs, List.length_map, digsN_len]
  refine wpAny_execs_cons (wpAny_Assign_Name (e_int S fun tr0 _ S => e_store S fun _ S => ?_))
  refine wpAny_execs_cons (wpAny_Assign_Name (List_ (args_nil (e_newList S fun aq _ S => e_store S fun _ S => ?_))))
  refine wpAny_execs_cons (wpAny_For (Call_ (g_reversed S TB (PyProof.Rows.callWith_type1 (args_cons (e_loc S m1 (args_nil ?_)))))))
  refine c_reversed S (S.list (.tail _ (.head _))) fun it _ S => ?_
  refine c_iterRev S ?_
  have hb2 : b < 2 ^ n := hn ▸ lt_intBits b
  have hbb : Builtin.Int.intBits (b : Int) ≤ 1000 := hn ▸ hn2
  refine for_go (iter_rev RA.handled it al vs) (fun i B' m' l' => B' = B ∧ m'.lookup n_n = some (.int n tn) ∧ m'.lookup n_b = some (.int b tb) ∧ m'.lookup n_q_digits = some (.ref aq) ∧ (∃ t, m'.lookup n_r = some (.int (a / 2 ^ (n * (K - i)) % b : Nat) t)) ∧ ∃ qv qs, l' = (aq, OList qv) :: (al, OList vs) :: l ∧ IntsAre qv (qs.map fun (y : Nat) => (y : Int)) ∧ valN n (qs.reverse.map fun (y : Nat) => (y : Int)) = ((a / 2 ^ (n * (K - i)) / b : Nat) : Int) ∧ qs.length = i ∧ ∀ x ∈ qs, x < 2 ^ n)
    S ⟨rfl, m2, m3, rfl, ⟨tr0, ?_⟩, [], [], rfl, .nil, ?_, rfl, fun _ h => nomatch h⟩ (fun i B' m' l' s' hI S => ?_) (fun i v B' m' l' s' hi hv hI S => ?_) (fun B' m' l' s' hI S => ?_)
  · rw [Nat.sub_zero, Nat.div_eq_of_lt haK]; rfl
  · rw [Nat.sub_zero, Nat.div_eq_of_lt haK]; simp [valN]
  · obtain ⟨rfl, _, _, _, _, qv, qs, rfl, _⟩ := hI
    exact S.list (.tail _ (.tail _ (.head _)))
  · obtain ⟨rfl, k1, k2, k3, ⟨tr, k4⟩, qv, qs, rfl, k5, k6, k7, k8⟩ := hI
    obtain ⟨dn, td, hdn, rfl⟩ := ints_get hvs hv
    rw [hlen] at hi hdn
    have hdd : dn = ((a / 2 ^ (n * (K - 1 - i)) % 2 ^ n : Nat) : Int) := by
      rw [List.getElem?_map] at hdn
      have := digsN_at n K a (K - 1 - i) (by omega)
      rw [List.getD_eq_getElem?_getD] at this
      cases e : (digsN n K a)[K - 1 - i]? with
      | none => rw [e] at hdn; cases hdn
      | some y =>
        rw [e] at hdn this
        cases hdn
        show (y : Int) = _
        rw [← this]; rfl
    subst hdd
    refine wpAny_assign_Name (e_store S fun _ S => ?_)
    have hV : a / 2 ^ (n * (K - (i + 1))) = a / 2 ^ (n * (K - i)) * 2 ^ n + a / 2 ^ (n * (K - 1 - i)) % 2 ^ n := by
      have e1 : K - (i + 1) = K - 1 - i := by omega
      have e2 : n * (K - i) = n * (K - 1 - i) + n := by
        have : K - i = (K - 1 - i) + 1 := by omega
        rw [this, Nat.mul_add, Nat.mul_one]
      rw [e1, e2, Nat.pow_add, ← Nat.div_div_eq_div_mul]
      have := Nat.div_add_mod (a / 2 ^ (n * (K - 1 - i))) (2 ^ n)
      rw [Nat.mul_comm] at this
      exact this.symm
    generalize hVi : a / 2 ^ (n * (K - i)) = V at S k4 k6 hV
    generalize hdi : a / 2 ^ (n * (K - 1 - i)) % 2 ^ n = dd at S hV
    have hdlt : dd < 2 ^ n := hdi ▸ Nat.mod_lt _ (Nat.two_pow_pos n)
    obtain ⟨t1, t2, t3⟩ := div_turn b (2 ^ n) dd V hb hdlt
    have hr := Nat.mod_lt V (show 0 < b by omega)
    refine wpAny_execs_cons (Assign_Tuple (Call_ (g_div2n1n S TB (PyProof.Rows.callWith_def (o := hz.zo_61 w.params) rfl (args_cons (wpAny_BinOp (wpAny_BinOp (e_loc S k4 (e_loc S k1 ?_)))))))))
    refine b_shl S RA.handled (Int.natCast_nonneg _) ?_ fun _ _ S => ?_
    · have := intBits_lt (Nat.lt_trans hr hb2)
      generalize Builtin.Int.intBits ((V % b : Nat) : Int) = z at this ⊢
      omega
    refine e_loc S rfl (b_add S fun _ _ S => ?_)
    rw [show ((V % b : Nat) : Int) * 2 ^ ((n : Int).toNat) + (dd : Int) = ((V % b * 2 ^ n + dd : Nat) : Int) from by rw [Int.toNat_natCast]; simp]
    refine args_cons (e_loc S k2 (args_cons (e_loc S k1 (args_nil ⟨TB.get S (by decide) (by decide) (by kernel_rfl), ?_⟩))))
    refine div2n1n_walk w _ _ _ _ (V % b * 2 ^ n + dd) b n _ _ _ (RA.le (by omega)) (fun x o h1 h2 e => S.base _ _ (TB.here x o h1 h2 e)) hb hbb ?_ fun s₅ c₅ t₅ u₅ K₅ hc₅ ht₅ => ?_
    · refine Nat.le_trans (intBits_lt (n := n + n) ?_) (by omega)
      rw [Nat.pow_add]
      have : (V % b + 1) * 2 ^ n ≤ 2 ^ n * 2 ^ n := Nat.mul_le_mul_right _ (by omega)
      rw [Nat.add_mul, Nat.one_mul] at this
      omega
    have S := S.call K₅
    refine e_unpack2 S RA.handled ht₅ fun s₆ S => ?_
    have hql : qv.length ≤ 1000 := by rw [ints_len k5, List.length_map, k7]; omega
    refine wpAny_execs_cons (wpAny_Expr_any (MethodCall_ (e_loc S k3 (e_mAppend S (.tail _ (.head _)) (callWith_method1 (args_cons (e_loc S rfl (args_nil ?_))))))))
    refine e_append S 1 rfl (fun s₇ S => ?_) (by rw [sizeLine_eq]; omega)
    refine wpAny_execs_nil ⟨_, _, _, S, rfl, k1, k2, k3, ⟨u₅, ?_⟩, _, qs ++ [(V % b * 2 ^ n + dd) / b], rfl, ?_, ?_, ?_, ?_⟩
    · rw [hV, t2]; rfl
    · rw [List.map_append]; exact ints_append k5 (.cons _ _ .nil)
    · rw [hV, t1, List.reverse_append, List.map_append, valN_append, k6]
      have e1 : valN n (List.map (fun (y : Nat) => (y : Int)) [(V % b * 2 ^ n + dd) / b].reverse) = (((V % b * 2 ^ n + dd) / b : Nat) : Int) := by simp [valN]
      rw [e1, List.length_map, List.length_reverse, List.length_singleton, Nat.mul_one, Int.natCast_add, Int.natCast_mul, Int.natCast_pow, Int.mul_comm ((V / b : Nat) : Int), Int.add_comm]
      rfl
    · rw [List.length_append, k7]; rfl
    · intro x hx
      rcases List.mem_append.mp hx with hx | hx
      · exact k8 x hx
      · rw [List.mem_singleton] at hx; subst hx; exact t3
  · obtain ⟨rfl, k1, k2, k3, ⟨tr, k4⟩, qv, qs, rfl, k5, k6, k7, k8⟩ := hI
    have hql : qv.length ≤ 1000 := by rw [ints_len k5, List.length_map, k7]; omega
    rw [hlen, Nat.sub_self, Nat.mul_zero, Nat.pow_zero, Nat.div_one] at k4 k6
    refine wpAny_execs_cons (wpAny_Expr_any (MethodCall_ (e_loc S k3 (e_mReverse S (.head _) (callWith_method0 ?_)))))
    refine c_reverse S 0 rfl (by rw [sizeLine_eq]; omega) fun s₇ S => ?_
    have hqi : IntsAre qv.reverse (qs.reverse.map fun (y : Nat) => (y : Int)) := by rw [List.map_reverse]; exact ints_reverse k5
    refine wpAny_execs_cons (wpAny_Assign_Name (Call_ (g_d2i S TB (PyProof.Rows.callWith_def (o := hz.zo_82 w.params) rfl (args_cons (e_loc S k3 (args_cons (e_loc S k1 (args_nil ⟨TB.get S (by decide) (by decide) (by kernel_rfl), ?_⟩)))))))))
    refine d2i_hit w _ _ hqi n n d ?_ hn2 hn2 ?_ ?_ _ _ _ _ RA aq _ (fun x o h1 h2 e => S.base _ _ (TB.here x o h1 h2 e)) (F _ [_, _] _ S) (S.list (.head _)) fun s₈ t₈ K₈ => ?_
    · intro x hx
      obtain ⟨y, hy, rfl⟩ := List.mem_map.mp hx
      exact intBits_lt (k8 y (List.mem_reverse.mp hy))
    · rw [List.length_map, List.length_reverse, k7]; omega
    · rw [List.length_map, List.length_reverse, k7]; omega
    have S := S.call K₈
    rw [k6]
    refine e_store S fun s₉ S => ?_
    refine wpAny_execs_cons (wpAny_Return_some (Tuple_ (args_cons (e_loc S rfl (args_cons (e_loc S k4 (args_nil ?_)))))))
    refine e_newTuple S (fun c s₁ S => ?_) (by simp [sizeLine_eq])
    exact h _ c _ _ _ (S.drop2.drop2)
end Mine
end
section
open PySem PySem.W PyProof.Rows
set_option Elab.async false
set_option maxRecDepth 100000
set_option maxHeartbeats 4000000
namespace Mine
theorem St.more' {r : Shared} {B : Addr → Option Obj} {L : Addr} {m : List (Str × Value)} {l : List (Addr × Desc)} {s' : Shared} (S' : St r B L m l s') {a : Addr} {D : Desc} {o : Obj} (ha : a ≠ L ∧ B a = none ∧ a ∉ l.map (·.1)) (ho : s'.heap.get? a = some o) (hd : D o) : St r B L m ((a, D) :: l) s' where
  gens := S'.gens
  drawn := S'.drawn
  os := S'.os
  ns := S'.ns
  base := S'.base
  nL := S'.nL
  own := fun p hp => by
    rcases List.mem_cons.mp hp with rfl | hp
    · exact ⟨⟨o, ho, hd⟩, ha.1, ha.2.1⟩
    · exact S'.own p hp
  nd := List.nodup_cons.mpr ⟨ha.2.2, S'.nd⟩
theorem Full54.keep {h h' : Heap} (F : Full54 h) (hk : ∀ b o, h.get? b = some o → h'.get? b = some o) : Full54 h' := let ⟨c', a, b⟩ := F; ⟨c', hk _ _ a, b.keeps hk⟩
theorem Full47.keep {h h' : Heap} (F : Full47 h) (hk : ∀ b o, h.get? b = some o → h'.get? b = some o) : Full47 h' := let ⟨c', a, b⟩ := F; ⟨c', hk _ _ a, b.keeps hk⟩
/-- the table 47 filled by a call: its code and it are own -/
theorem St.fill47 {r : Shared} {B : Addr → Option Obj} {L : Addr} {m : List (Str × Value)} {l : List (Addr × Desc)} {s s' : Shared} (S : St r B L m ((47, OExact (tabObj #[])) :: l) s) (k : KeptBut 47 s s') (n : New47 s s') :
    ∃ c', St r B L m ((c', OCode qdJ) :: (47, OExact (tabObj #[rawInt 33, rawInt 4, .ref c'])) :: l) s' := by
  obtain ⟨c', h1, h2, h3⟩ := n
  obtain ⟨c2, oc, vs, t, e, h4, h5, h6⟩ := h2
  cases e
  exact ⟨c', St.more' (D := OCode qdJ) (S.callBut (D' := OExact (tabObj #[rawInt 33, rawInt 4, .ref c'])) k h1 rfl) (S.absent h3) h4 ⟨vs, t, h5, h6⟩⟩
theorem full47_of {r : Shared} {B : Addr → Option Obj} {L : Addr} {m : List (Str × Value)} {l : List (Addr × Desc)} {s : Shared} {c' : Addr} (S : St r B L m l s) (h1 : (c', OCode qdJ) ∈ l) (h2 : (47, OExact (tabObj #[rawInt 33, rawInt 4, .ref c'])) ∈ l) : Full47 s.heap := by
  obtain ⟨o, e, q⟩ := S.get h2
  exact ⟨c', by rw [e]; exact congrArg some q, S.code h1⟩

theorem dpos_hit (w : World) (a b n d : Nat) (hb : 1 ≤ b) (hn : n = Builtin.Int.intBits (b : Int)) (hn2 : n ≤ 1000) (hK : nDig n a ≤ 2 ^ d) (hK2 : nDig n a ≤ 1000) (hXb : Builtin.Int.intBits (a : Int) ≤ 1000000)
    (A : Around) (s : Shared) (Q E : Value → Shared → Prop) (RA : Room (d + 3) A) (ta tb : Tok) (T : TopH w s.heap) (F7 : Full47 s.heap) (F4 : Full54 s.heap)
    (h : ∀ s' c t u, Kept s s' → s.heap.get? c = none → s'.heap.IsTuple c #[.int (a / b : Nat) t, .int (a % b : Nat) u] → Q (.ref c) s') :
    wpAny (model PW w) A (call (.ref 66) [.int a ta, .int b tb]) Q E s := by
  have hn1 : 1 ≤ n := by
    rcases Nat.eq_zero_or_pos n with q | q
    · have := lt_intBits b; rw [← hn, q] at this; simp at this; omega
    · exact q
  refine wpAny_call (enterTop (o := hz.zo_89 w.params) (oc := hz.zo_88 w.params) (fd := fd_dpos w.params) (c := 65) (binds := [(n_a, .int a ta), (n_b, .int b tb)]) T RA.lt (by kernel_rfl) rfl (by kernel_rfl) rfl rfl rfl rfl rfl rfl rfl (by kernel_rfl) (by kernel_rfl) rfl rfl rfl (fun L s₁ S TB => ?_))
  refine wpAny_execs_cons (wpAny_Assign_Name (MethodCall_ (e_loc S rfl (getMethod_int_bit_length (callWith_method0 (call_int_bit_length ?_))))))
  rw [← hn]
  refine e_store (S.toks _) fun s₂ S => ?_
  refine wpAny_execs_cons (wpAny_Assign_Name (Call_ (g_i2d S TB (PyProof.Rows.callWith_def (o := hz.zo_75 w.params) rfl (args_cons (e_loc S rfl (args_cons (e_loc S rfl (args_nil ⟨TB.get S (by decide) (by decide) (by kernel_rfl), ?_⟩)))))))))
  refine i2d_hit w a n d hn1 hn2 hK hK2 hXb _ _ _ _ ((RA.deeper _).le (by omega)) _ _ (fun x o h1 h2 e => S.base _ _ (TB.here x o h1 h2 e)) (F7.keep S.base) fun s₃ al vs K₃ hl hi hal => ?_
  have S := S.addL (S.call K₃) hal hl
  refine e_store S fun s₄ S => ?_
  refine dpos_rest w a b n (nDig n a) d hb hn hn2 hK hK2 (nDig_lt n a hn1) ((RA.deeper _).le (by omega)) TB S hi rfl rfl rfl (fun _ _ _ S => F4.keep S.base) fun s' c m' t u S => ?_
  have hc := (S.own _ (.head _)).2.2
  exact h s' c t u S.kept hc (S.tuple (.head _))

theorem dpos_new (w : World) (a b n d : Nat) (hb : 1 ≤ b) (hn : n = Builtin.Int.intBits (b : Int)) (hn2 : n ≤ 1000) (hK : nDig n a ≤ 2 ^ d) (hK2 : nDig n a ≤ 1000) (hXb : Builtin.Int.intBits (a : Int) ≤ 1000000)
    (A : Around) (s : Shared) (Q E : Value → Shared → Prop) (RA : Room (d + 3) A) (ta tb : Tok) (T : TopH w s.heap) (h47 : s.heap.get? 47 = some (tabObj #[])) (F4 : Full54 s.heap)
    (h : ∀ s' c t u, KeptBut 47 s s' → New47 s s' → s.heap.get? c = none → s'.heap.IsTuple c #[.int (a / b : Nat) t, .int (a % b : Nat) u] → Q (.ref c) s') :
    wpAny (model PW w) A (call (.ref 66) [.int a ta, .int b tb]) Q E s := by
  have hn1 : 1 ≤ n := by
    rcases Nat.eq_zero_or_pos n with q | q
    · have := lt_intBits b; rw [← hn, q] at this; simp at this; omega
    · exact q
  have TB : TopB w (hideB 47 s.heap) := ⟨fun a o h1 h2 e => hideB_get h1 (T a o h1 h2 e)⟩
  refine wpAny_call (enterTopH (o := hz.zo_89 w.params) (oc := hz.zo_88 w.params) (fd := fd_dpos w.params) (c := 65) (binds := [(n_a, .int a ta), (n_b, .int b tb)]) (hideB 47 s.heap) [(47, OExact (tabObj #[]))] (fun _ _ e => hideB_of e) (fun p hp => by rw [List.mem_singleton] at hp; subst hp; exact ⟨⟨_, h47, rfl⟩, hideB_none _ _⟩) (by simp) TB RA.lt (by kernel_rfl) rfl (by kernel_rfl) rfl rfl rfl rfl rfl rfl rfl (by kernel_rfl) (by kernel_rfl) rfl rfl rfl (fun L s₁ S => ?_))
  refine wpAny_execs_cons (wpAny_Assign_Name (MethodCall_ (e_loc S rfl (getMethod_int_bit_length (callWith_method0 (call_int_bit_length ?_))))))
  rw [← hn]
  refine e_store (S.toks _) fun s₂ S => ?_
  refine wpAny_execs_cons (wpAny_Assign_Name (Call_ (g_i2d S TB (PyProof.Rows.callWith_def (o := hz.zo_75 w.params) rfl (args_cons (e_loc S rfl (args_cons (e_loc S rfl (args_nil ⟨TB.get S (by decide) (by decide) (by kernel_rfl), ?_⟩)))))))))
  obtain ⟨o7, e7, q7⟩ := S.get (.head _)
  refine i2d_new w a n d hn1 hn2 hK hK2 hXb _ _ _ _ ((RA.deeper _).le (by omega)) _ _ (fun x o h1 h2 e => S.base _ _ (TB.here x o h1 h2 e)) (e7.trans (congrArg some q7)) fun s₃ al vs K₃ n₃ hl hi hal => ?_
  have hal2 := S.absent hal
  obtain ⟨c', S3⟩ := S.fill47 K₃ n₃
  obtain ⟨nl, el⟩ := hl
  have hac : al ≠ c' := fun q => by
    obtain ⟨o, e, vs', t, hd, _⟩ := S3.get (.head _)
    rw [← q, el] at e; cases e; cases hd
  have S := St.more' (D := OList vs) S3 ⟨hal2.1, hal2.2.1, by
    have h7 : al ≠ 47 := fun q => hal2.2.2 (by rw [q]; exact .head _)
    simp [hac, h7]⟩ el ⟨nl, rfl⟩
  refine e_store S fun s₄ S => ?_
  refine dpos_rest w a b n (nDig n a) d hb hn hn2 hK hK2 (nDig_lt n a hn1) ((RA.deeper _).le (by omega)) TB S hi rfl rfl rfl (fun m l' s' S => ?_) fun s' c m' t u S => ?_
  · obtain ⟨c4, a4, b4⟩ := F4
    obtain ⟨x4, o4, vs4, t4, e4, g4, d4, v4⟩ := b4
    cases e4
    have hx : c4 ≠ 47 := fun q => by rw [q, h47] at g4; cases g4; cases d4; simp at v4
    exact ⟨c4, S.base _ _ (hideB_get (by decide) a4), c4, o4, vs4, t4, rfl, S.base _ _ (hideB_get hx g4), d4, v4⟩
  · have hc := (S.own _ (.head _)).2.2
    have hc7 : c ≠ 47 := S.ne 0 2 rfl rfl (by decide)
    refine h s' c t u S.keptBut ⟨c', ?_, S.code (.tail _ (.head _)), ?_⟩ ?_ (S.tuple (.head _))
    · obtain ⟨o, e, q⟩ := S.get (a := 47) (.tail _ (.tail _ (.head _)))
      rw [e]; exact congrArg some q
    · have h7 : c' ≠ 47 := S.ne 1 2 rfl rfl (by decide)
      cases e : s.heap.get? c' with
      | none => rfl
      | some o => have := (S.own _ (.tail _ (.head _))).2.2; rw [hideB_get h7 e] at this; cases this
    · cases e : s.heap.get? c with
      | none => rfl
      | some o => rw [hideB_get hc7 e] at hc; cases hc
end Mine
end
section
open PySem PySem.W PyProof.Rows
set_option Elab.async false
set_option maxRecDepth 100000
set_option maxHeartbeats 4000000
namespace Mine
theorem u_neg {r : Shared} {B : Addr → Option Obj} {L : Addr} {m : List (Str × Value)} {l : List (Addr × Desc)} {s : Shared} {w : World} {A : Around} {E : Value → Shared → Prop} {a : Int} {t : Tok} {Q : Value → Shared → Prop} (S : St r B L m l s) (h : ∀ t s', St r B L m l s' → Q (.int (-a) t) s') : wpAny (model PW w) A (unaryOp .USub (.int a t)) Q E s := neg_int (h _ _ (S.toks _))
theorem full54_but {s : Shared} {r : Shared} {L : Addr} {m : List (Str × Value)} {l : List (Addr × Desc)} {s' : Shared} (F4 : Full54 s.heap) (h47 : s.heap.get? 47 = some (tabObj #[])) (S : St r (hideB 47 s.heap) L m l s') : Full54 s'.heap := by
  obtain ⟨c4, a4, b4⟩ := F4
  obtain ⟨x4, o4, vs4, t4, e4, g4, d4, v4⟩ := b4
  cases e4
  have hx : c4 ≠ 47 := fun q => by rw [q, h47] at g4; cases g4; cases d4; simp at v4
  exact ⟨c4, S.base _ _ (hideB_get (by decide) a4), c4, o4, vs4, t4, rfl, S.base _ _ (hideB_get hx g4), d4, v4⟩
theorem absent_but {s r : Shared} {L : Addr} {m : List (Str × Value)} {l : List (Addr × Desc)} {s' : Shared} (S : St r (hideB 47 s.heap) L m l s') {p : Addr × Desc} (hp : p ∈ l) (h : p.1 ≠ 47) : s.heap.get? p.1 = none := by
  cases e : s.heap.get? p.1 with
  | none => rfl
  | some o => have := (S.own p hp).2.2; rw [hideB_get h e] at this; cases this
/-- the new table and a tuple, own -/
theorem St.fillT {r : Shared} {B : Addr → Option Obj} {L : Addr} {m : List (Str × Value)} {l : List (Addr × Desc)} {s s' : Shared} (S : St r B L m ((47, OExact (tabObj #[])) :: l) s) (k : KeptBut 47 s s') (n : New47 s s') {c : Addr} {vs : List Value} (hc : s.heap.get? c = none) (ht : s'.heap.IsTuple c vs.toArray) :
    ∃ c', St r B L m ((c, OTuple vs) :: (c', OCode qdJ) :: (47, OExact (tabObj #[rawInt 33, rawInt 4, .ref c'])) :: l) s' := by
  obtain ⟨c', S3⟩ := S.fill47 k n
  obtain ⟨o, e, cl, n', d⟩ := ht
  have ha := S.absent hc
  have hne : c ≠ c' := fun q => by
    obtain ⟨o', e', vs', t, hd, _⟩ := S3.get (.head _)
    rw [← q, e] at e'; cases e'; rw [d] at hd; cases hd
  exact ⟨c', St.more' (D := OTuple vs) S3 ⟨ha.1, ha.2.1, by rw [List.map_cons, List.mem_cons]; exact fun q => q.elim hne ha.2.2⟩ e ⟨cl, n', d⟩⟩

theorem idiv_pos_hit (w : World) (a b n d : Nat) (hb : 1 ≤ b) (hn : n = Builtin.Int.intBits (b : Int)) (hn2 : n ≤ 1000) (hK : nDig n a ≤ 2 ^ d) (hK2 : nDig n a ≤ 1000) (hXb : Builtin.Int.intBits (a : Int) ≤ 1000000)
    (A : Around) (s : Shared) (Q E : Value → Shared → Prop) (RA : Room (d + 4) A) (ta tb : Tok) (T : TopH w s.heap) (F7 : Full47 s.heap) (F4 : Full54 s.heap)
    (h : ∀ s' c t u, Kept s s' → s.heap.get? c = none → s'.heap.IsTuple c #[.int (a / b : Nat) t, .int (a % b : Nat) u] → Q (.ref c) s') :
    wpAny (model PW w) A (call (.ref 73) [.int a ta, .int b tb]) Q E s := by
  refine wpAny_call (enterTop (o := hz.zo_96 w.params) (oc := hz.zo_95 w.params) (fd := fd_idiv w.params) (c := 72) (binds := [(n_a, .int a ta), (n_b, .int b tb)]) T RA.lt (by kernel_rfl) rfl (by kernel_rfl) rfl rfl rfl rfl rfl rfl rfl (by kernel_rfl) (by kernel_rfl) rfl rfl rfl (fun L s₁ S TB => ?_))
  refine wpAny_execs_cons (wpAny_If (wpAny_isTrue_Compare1 (e_loc S rfl (e_int S fun _ _ S => c_eq (wpAny_truthy_bool ?_)))))
  rw [show ((b : Int) == 0) = false from by first | (simp; done) | (simp; omega)]
  simp only [Bool.false_eq_true, if_false]
  refine wpAny_execs_cons (wpAny_If (wpAny_isTrue_Compare1 (e_loc S rfl (e_int S fun _ _ S => lt_int (wpAny_truthy_bool ?_)))))
  rw [show decide ((b : Int) < 0) = false from by first | (simp; done) | (simp; omega)]
  simp only [Bool.false_eq_true, if_false]
  refine wpAny_execs_cons (wpAny_If (wpAny_isTrue_Compare1 (e_loc S rfl (e_int S fun _ _ S => lt_int (wpAny_truthy_bool ?_)))))
  rw [show decide ((a : Int) < 0) = false from by first | (simp; done) | (simp; omega)]
  simp only [Bool.false_eq_true, if_false]
  refine wpAny_execs_cons (wpAny_Return_some (Call_ (g_dpos S TB (PyProof.Rows.callWith_def (o := hz.zo_89 w.params) rfl (args_cons (e_loc S rfl (args_cons (e_loc S rfl (args_nil ⟨TB.get S (by decide) (by decide) (by kernel_rfl), ?_⟩)))))))))
  refine dpos_hit w a b n d hb hn hn2 hK hK2 hXb _ _ _ _ (RA.deeper _) _ _ (fun x o h1 h2 e => S.base _ _ (TB.here x o h1 h2 e)) (F7.keep S.base) (F4.keep S.base) fun s₃ c t u K₃ hc ht => ?_
  have hb := (S.absent hc).2.1
  exact h s₃ c t u (S.kept.trans K₃) hb ht

theorem idiv_pos_new (w : World) (a b n d : Nat) (hb : 1 ≤ b) (hn : n = Builtin.Int.intBits (b : Int)) (hn2 : n ≤ 1000) (hK : nDig n a ≤ 2 ^ d) (hK2 : nDig n a ≤ 1000) (hXb : Builtin.Int.intBits (a : Int) ≤ 1000000)
    (A : Around) (s : Shared) (Q E : Value → Shared → Prop) (RA : Room (d + 4) A) (ta tb : Tok) (T : TopH w s.heap) (h47 : s.heap.get? 47 = some (tabObj #[])) (F4 : Full54 s.heap)
    (h : ∀ s' c t u, KeptBut 47 s s' → New47 s s' → s.heap.get? c = none → s'.heap.IsTuple c #[.int (a / b : Nat) t, .int (a % b : Nat) u] → Q (.ref c) s') :
    wpAny (model PW w) A (call (.ref 73) [.int a ta, .int b tb]) Q E s := by
  have TB : TopB w (hideB 47 s.heap) := ⟨fun a o h1 h2 e => hideB_get h1 (T a o h1 h2 e)⟩
  refine wpAny_call (enterTopH (o := hz.zo_96 w.params) (oc := hz.zo_95 w.params) (fd := fd_idiv w.params) (c := 72) (binds := [(n_a, .int a ta), (n_b, .int b tb)]) (hideB 47 s.heap) [(47, OExact (tabObj #[]))] (fun _ _ e => hideB_of e) (fun p hp => by rw [List.mem_singleton] at hp; subst hp; exact ⟨⟨_, h47, rfl⟩, hideB_none _ _⟩) (by simp) TB RA.lt (by kernel_rfl) rfl (by kernel_rfl) rfl rfl rfl rfl rfl rfl rfl (by kernel_rfl) (by kernel_rfl) rfl rfl rfl (fun L s₁ S => ?_))
  refine wpAny_execs_cons (wpAny_If (wpAny_isTrue_Compare1 (e_loc S rfl (e_int S fun _ _ S => c_eq (wpAny_truthy_bool ?_)))))
  rw [show ((b : Int) == 0) = false from by first | (simp; done) | (simp; omega)]
  simp only [Bool.false_eq_true, if_false]
  refine wpAny_execs_cons (wpAny_If (wpAny_isTrue_Compare1 (e_loc S rfl (e_int S fun _ _ S => lt_int (wpAny_truthy_bool ?_)))))
  rw [show decide ((b : Int) < 0) = false from by first | (simp; done) | (simp; omega)]
  simp only [Bool.false_eq_true, if_false]
  refine wpAny_execs_cons (wpAny_If (wpAny_isTrue_Compare1 (e_loc S rfl (e_int S fun _ _ S => lt_int (wpAny_truthy_bool ?_)))))
  rw [show decide ((a : Int) < 0) = false from by first | (simp; done) | (simp; omega)]
  simp only [Bool.false_eq_true, if_false]
  refine wpAny_execs_cons (wpAny_Return_some (Call_ (g_dpos S TB (PyProof.Rows.callWith_def (o := hz.zo_89 w.params) rfl (args_cons (e_loc S rfl (args_cons (e_loc S rfl (args_nil ⟨TB.get S (by decide) (by decide) (by kernel_rfl), ?_⟩)))))))))
  obtain ⟨o7, e7, q7⟩ := S.get (.head _)
  refine dpos_new w a b n d hb hn hn2 hK hK2 hXb _ _ _ _ (RA.deeper _) _ _ (fun x o h1 h2 e => S.base _ _ (TB.here x o h1 h2 e)) (e7.trans (congrArg some q7)) (full54_but F4 h47 S) fun s₃ c t u K₃ n₃ hc ht => ?_
  obtain ⟨c', S3⟩ := S.fillT (vs := [.int (a / b : Nat) t, .int (a % b : Nat) u]) K₃ n₃ hc ht
  refine h s₃ c t u S3.keptBut ⟨c', ?_, S3.code (.tail _ (.head _)), absent_but S3 (.tail _ (.head _)) (S3.ne 1 2 rfl rfl (by decide))⟩ (absent_but S3 (.head _) (S3.ne 0 2 rfl rfl (by decide))) (S3.tuple (.head _))
  obtain ⟨o, e, q⟩ := S3.get (a := 47) (.tail _ (.tail _ (.head _)))
  rw [e]; exact congrArg some q

theorem idiv_neg_hit (w : World) (a b n d : Nat) (hb : 1 ≤ b) (hn : n = Builtin.Int.intBits (b : Int)) (hn2 : n ≤ 1000) (hK : nDig n a ≤ 2 ^ d) (hK2 : nDig n a ≤ 1000) (hXb : Builtin.Int.intBits (a : Int) ≤ 1000000)
    (A : Around) (s : Shared) (Q E : Value → Shared → Prop) (RA : Room (d + 5) A) (ta tb : Tok) (T : TopH w s.heap) (F7 : Full47 s.heap) (F4 : Full54 s.heap)
    (h : ∀ s' c t u, Kept s s' → s.heap.get? c = none → s'.heap.IsTuple c #[.int (a / b : Nat) t, .int (-(a % b : Nat)) u] → Q (.ref c) s') :
    wpAny (model PW w) A (call (.ref 73) [.int (-a) ta, .int (-b) tb]) Q E s := by
  refine wpAny_call (enterTop (o := hz.zo_96 w.params) (oc := hz.zo_95 w.params) (fd := fd_idiv w.params) (c := 72) (binds := [(n_a, .int (-a) ta), (n_b, .int (-b) tb)]) T RA.lt (by kernel_rfl) rfl (by kernel_rfl) rfl rfl rfl rfl rfl rfl rfl (by kernel_rfl) (by kernel_rfl) rfl rfl rfl (fun L s₁ S TB => ?_))
  refine wpAny_execs_cons (wpAny_If (wpAny_isTrue_Compare1 (e_loc S rfl (e_int S fun _ _ S => c_eq (wpAny_truthy_bool ?_)))))
  rw [show (-(b : Int) == 0) = false from by first | (simp; done) | (simp; omega)]
  simp only [Bool.false_eq_true, if_false]
  refine wpAny_execs_cons (wpAny_If (wpAny_isTrue_Compare1 (e_loc S rfl (e_int S fun _ _ S => lt_int (wpAny_truthy_bool ?_)))))
  rw [show decide (-(b : Int) < 0) = true from by first | (simp; done) | (simp; omega)]
  simp only [if_true]
  refine wpAny_execs_cons (Assign_Tuple (Call_ (g_idiv S TB (PyProof.Rows.callWith_def (o := hz.zo_96 w.params) rfl (args_cons (wpAny_UnaryOp (e_loc S rfl (u_neg S fun _ _ S => args_cons (wpAny_UnaryOp (e_loc S rfl (u_neg S fun _ _ S => args_nil ⟨TB.get S (by decide) (by decide) (by kernel_rfl), ?_⟩)))))))))))
  rw [Int.neg_neg, Int.neg_neg]
  refine idiv_pos_hit w a b n d hb hn hn2 hK hK2 hXb _ _ _ _ (RA.deeper _) _ _ (fun x o h1 h2 e => S.base _ _ (TB.here x o h1 h2 e)) (F7.keep S.base) (F4.keep S.base) fun s₃ c t u K₃ hc ht => ?_
  have S := S.call K₃
  refine e_unpack2 S RA.handled ht fun s₄ S => ?_
  refine wpAny_execs_cons (wpAny_Return_some (Tuple_ (args_cons (e_loc S rfl (args_cons (wpAny_UnaryOp (e_loc S rfl (u_neg S fun _ _ S => args_nil ?_))))))))
  refine e_newTuple S (fun c s₅ S => ?_) (by simp [sizeLine_eq])
  have hc := (S.own _ (.head _)).2.2
  exact h s₅ c _ _ S.kept hc (S.tuple (.head _))

theorem idiv_neg_new (w : World) (a b n d : Nat) (hb : 1 ≤ b) (hn : n = Builtin.Int.intBits (b : Int)) (hn2 : n ≤ 1000) (hK : nDig n a ≤ 2 ^ d) (hK2 : nDig n a ≤ 1000) (hXb : Builtin.Int.intBits (a : Int) ≤ 1000000)
    (A : Around) (s : Shared) (Q E : Value → Shared → Prop) (RA : Room (d + 5) A) (ta tb : Tok) (T : TopH w s.heap) (h47 : s.heap.get? 47 = some (tabObj #[])) (F4 : Full54 s.heap)
    (h : ∀ s' c t u, KeptBut 47 s s' → New47 s s' → s.heap.get? c = none → s'.heap.IsTuple c #[.int (a / b : Nat) t, .int (-(a % b : Nat)) u] → Q (.ref c) s') :
    wpAny (model PW w) A (call (.ref 73) [.int (-a) ta, .int (-b) tb]) Q E s := by
  have TB : TopB w (hideB 47 s.heap) := ⟨fun a o h1 h2 e => hideB_get h1 (T a o h1 h2 e)⟩
  refine wpAny_call (enterTopH (o := hz.zo_96 w.params) (oc := hz.zo_95 w.params) (fd := fd_idiv w.params) (c := 72) (binds := [(n_a, .int (-a) ta), (n_b, .int (-b) tb)]) (hideB 47 s.heap) [(47, OExact (tabObj #[]))] (fun _ _ e => hideB_of e) (fun p hp => by rw [List.mem_singleton] at hp; subst hp; exact ⟨⟨_, h47, rfl⟩, hideB_none _ _⟩) (by simp) TB RA.lt (by kernel_rfl) rfl (by kernel_rfl) rfl rfl rfl rfl rfl rfl rfl (by kernel_rfl) (by kernel_rfl) rfl rfl rfl (fun L s₁ S => ?_))
  refine wpAny_execs_cons (wpAny_If (wpAny_isTrue_Compare1 (e_loc S rfl (e_int S fun _ _ S => c_eq (wpAny_truthy_bool ?_)))))
  rw [show (-(b : Int) == 0) = false from by first | (simp; done) | (simp; omega)]
  simp only [Bool.false_eq_true, if_false]
  refine wpAny_execs_cons (wpAny_If (wpAny_isTrue_Compare1 (e_loc S rfl (e_int S fun _ _ S => lt_int (wpAny_truthy_bool ?_)))))
  rw [show decide (-(b : Int) < 0) = true from by first | (simp; done) | (simp; omega)]
  simp only [if_true]
  refine wpAny_execs_cons (Assign_Tuple (Call_ (g_idiv S TB (PyProof.Rows.callWith_def (o := hz.zo_96 w.params) rfl (args_cons (wpAny_UnaryOp (e_loc S rfl (u_neg S fun _ _ S => args_cons (wpAny_UnaryOp (e_loc S rfl (u_neg S fun _ _ S => args_nil ⟨TB.get S (by decide) (by decide) (by kernel_rfl), ?_⟩)))))))))))
  rw [Int.neg_neg, Int.neg_neg]
  obtain ⟨o7, e7, q7⟩ := S.get (.head _)
  refine idiv_pos_new w a b n d hb hn hn2 hK hK2 hXb _ _ _ _ (RA.deeper _) _ _ (fun x o h1 h2 e => S.base _ _ (TB.here x o h1 h2 e)) (e7.trans (congrArg some q7)) (full54_but F4 h47 S) fun s₃ c t u K₃ n₃ hc ht => ?_
  obtain ⟨c', S3⟩ := S.fill47 K₃ n₃
  have S := S3
  refine e_unpack2 S RA.handled ht fun s₄ S => ?_
  refine wpAny_execs_cons (wpAny_Return_some (Tuple_ (args_cons (e_loc S rfl (args_cons (wpAny_UnaryOp (e_loc S rfl (u_neg S fun _ _ S => args_nil ?_))))))))
  refine e_newTuple S (fun c s₅ S => ?_) (by simp [sizeLine_eq])
  refine h s₅ c _ _ S.keptBut ⟨c', ?_, S.code (.tail _ (.head _)), absent_but S (.tail _ (.head _)) (S.ne 1 2 rfl rfl (by decide))⟩ (absent_but S (.head _) (S.ne 0 2 rfl rfl (by decide))) (S.tuple (.head _))
  obtain ⟨o, e, q⟩ := S.get (a := 47) (.tail _ (.tail _ (.head _)))
  rw [e]; exact congrArg some q

end Mine
end
section
open PySem PySem.W PyProof.Rows
set_option Elab.async false
set_option maxRecDepth 100000
set_option maxHeartbeats 4000000
namespace Mine
section
variable {r : Shared} {B : Addr → Option Obj} {L : Addr} {m : List (Str × Value)} {l : List (Addr × Desc)} {s s' : Shared}
variable {w : World} {A : Around} {E : Value → Shared → Prop} {env : Env}
theorem e_unpackSub2 {o1 i1 o2 i2 : Expr} {p1 p2 pt : Pos} {k : Nat} {t : Addr} {u v : Value} {Q : Unit → Shared → Prop} (S : St r B L m l s) (hh : A.handled = none) (ht : s.heap.IsTuple t #[u, v])
    (h : ∀ s', St r B L m l s' → wpAny (model PW w) A (eval o1 env) (fun ov s₂ => wpAny (model PW w) A (eval i1 env) (fun iv s₃ => wpAny (model PW w) A (setItem ov iv u) (fun _ s₄ =>
      wpAny (model PW w) A (eval o2 env) (fun ov s₂ => wpAny (model PW w) A (eval i2 env) (fun iv s₃ => wpAny (model PW w) A (setItem ov iv v) (fun _ s₄ => Q () s₄) E s₃) E s₂) E s₄) E s₃) E s₂) E s') :
    wpAny (model PW w) A (assign (.Tuple [.Subscript o1 i1 p1, .Subscript o2 i2 p2] k pt) env (.ref t)) Q E s := by
  show wpAny (model PW w) A (do standAt pt; unpack (.ref t) (assignEach [.Subscript o1 i1 p1, .Subscript o2 i2 p2] env)) Q E s
  refine wpAny_bind (wpAny_standAt ?_)
  refine wpAny_unpack_tuple hh ht rfl rfl fun h' he => ?_
  have S1 : St r B L m l { s with heap := h' } := S.ext rfl rfl rfl fun b o e => he b o (Nat.ne_of_lt (Heap.lt_size e)) e
  show wpAny (model PW w) A (do holding [v] (assign (.Subscript o1 i1 p1) env u); do holding [] (assign (.Subscript o2 i2 p2) env v); pure ()) Q E _
  refine wpAny_bind (wpAny_holding (kas_sub ?_))
  refine wpAny_mono (h _ S1) (fun ov s₂ h₂ => wpAny_mono h₂ (fun iv s₃ h₃ => wpAny_mono h₃ (fun _ s₄ h₄ => ?_) fun _ _ q => q) fun _ _ q => q) fun _ _ q => q
  exact wpAny_bind (wpAny_holding (kas_sub (wpAny_mono h₄ (fun ov s₂ h₂ => wpAny_mono h₂ (fun iv s₃ h₃ => wpAny_mono h₃ (fun _ s₄ h₄ => wpAny_pure h₄) fun _ _ q => q) fun _ _ q => q) fun _ _ q => q)))
end
theorem getD_cast (us : List Nat) (k : Nat) : (us.map fun (y : Nat) => (y : Int)).getD k 0 = ((us.getD k 0 : Nat) : Int) := by
  rw [List.getD_eq_getElem?_getD, List.getD_eq_getElem?_getD, List.getElem?_map]
  cases us[k]? <;> rfl
theorem getD_mem (us : List Nat) (k : Nat) (h : k < us.length) : us.getD k 0 ∈ us := by
  rw [List.getD_eq_getElem?_getD, List.getElem?_eq_getElem h]; exact List.getElem_mem h
theorem exch_walk (w : World) (A : Around) (s : Shared) (Q E : Value → Shared → Prop) (aw : Addr) (wv : List Value) (ws : List Nat) (p : Int) (c : Nat) (tp : Tok)
    (RA : Room 2 A) (T : TopH w s.heap) (hw : s.heap.IsList aw wv.toArray) (hwi : IntsAre wv (ws.map fun (y : Nat) => (y : Int))) (hwl : ws.length = 5) (hc : ∀ x ∈ ws, x < c)
    (h : ∀ a s' (uv : List Value) (us : List Nat), Kept s s' → s.heap.get? a = none → s'.heap.IsList a uv.toArray → IntsAre uv (us.map fun (y : Nat) => (y : Int)) → us.length = 5 → (∀ x ∈ us, x < c) → Q (.ref a) s') :
    wpAny (model PW w) A (call (.ref 135) [.ref aw, .int p tp]) Q E s := by
  refine wpAny_call (enterTop (o := hz.zo_152 w.params) (oc := hz.zo_151 w.params) (fd := fd_exch w.params) (c := 134) (binds := [(n_word, .ref aw), (n_places, .int p tp)]) T RA.lt (by kernel_rfl) rfl (by kernel_rfl) rfl rfl rfl rfl rfl rfl rfl (by kernel_rfl) (by kernel_rfl) rfl rfl rfl (fun L s₁ S TB => ?_))
  have hwv : wv.length = 5 := by rw [ints_len hwi, List.length_map, hwl]
  refine wpAny_execs_cons (wpAny_Assign_Name (Call_ (g_list S TB (PyProof.Rows.callWith_type1 (args_cons (e_loc S rfl (args_nil ?_)))))))
  refine c_list S (kept_list S.kept hw) (fun ao s₂ S => ?_) (by rw [hwv]; decide)
  refine e_store S fun s₃ S => ?_
  refine wpAny_execs_cons (wpAny_For (Call_ (g_range S TB (PyProof.Rows.callWith_type1 (args_cons (wpAny_BinOp (Call_ (g_len S TB (PyProof.Rows.callWith_builtin1 (args_cons (e_loc S rfl (args_nil ?_))))))))))))
  refine c_lenL S (kept_list S.kept hw) (by omega) fun _ _ S => e_int S fun _ _ S => b_sub S fun _ _ S => args_nil ?_
  rw [show ((wv.length : Int) - 1) = ((4 : Nat) : Int) by rw [hwv]; rfl]
  refine c_range S fun a2 s5 S => ?_
  refine c_iterRange S (by decide) fun it s6 S => ?_
  refine for_go (iter_range (RA.deeper _).handled it 4) (fun i B' m' l' => B' = (fun b => s.heap.get? b) ∧ m'.lookup n_places = some (.int p tp) ∧ m'.lookup n_other = some (.ref ao) ∧ ∃ (uv : List Value) (us : List Nat), l' = [(ao, OList uv)] ∧ IntsAre uv (us.map fun (y : Nat) => (y : Int)) ∧ us.length = 5 ∧ ∀ x ∈ us, x < c)
    S ⟨rfl, rfl, rfl, wv, ws, rfl, hwi, hwl, hc⟩ (fun _ _ _ _ _ _ _ => trivial) (fun i v B' m' l' s' hi hv hI S => ?_) (fun B' m' l' s' hI S => ?_)
  · obtain ⟨t, rfl⟩ := hv
    obtain ⟨rfl, h1, h2, uv, us, rfl, h3, h4, h5⟩ := hI
    have hul : uv.length = 5 := by rw [ints_len h3, List.length_map, h4]
    refine wpAny_assign_Name (e_store S fun s8 S => ?_)
    refine wpAny_execs_cons (wpAny_If (isTrue_plain (wpAny_BinOp (wpAny_BinOp (e_loc S h1 (e_loc S rfl (b_shr S (Int.natCast_nonneg _) fun _ _ S => e_int S fun _ _ S => b_and S fun _ _ S => truthy_int ?_)))))))
    cases hb : (Builtin.bitAnd (p.fdiv (2 ^ ((i : Int).toNat))) 1 != 0) with
    | false =>
      simp only [Bool.false_eq_true, if_false]
      exact wpAny_execs_nil (wpAny_execs_nil ⟨_, _, _, S, rfl, h1, h2, uv, us, rfl, h3, h4, h5⟩)
    | true =>
      simp only [if_true]
      obtain ⟨t1, hx1⟩ := ints_at h3 (k := i + 1) (by rw [List.length_map, h4]; omega)
      obtain ⟨t0, hx0⟩ := ints_at h3 (k := i) (by rw [List.length_map, h4]; omega)
      refine wpAny_execs_cons (Assign_Tuple (Tuple_ (args_cons (Subscript_ (e_loc S h2 (wpAny_BinOp (e_loc S rfl (e_int S fun _ _ S => b_add S fun _ _ S => ?_))))))))
      rw [show ((i : Int) + 1) = ((i + 1 : Nat) : Int) by omega]
      refine t_item (S.list (.tail _ (.head _))) (by omega) (by omega) hx1 (args_cons (Subscript_ (e_loc S h2 (e_loc S rfl (t_item (S.list (.tail _ (.head _))) (by omega) (by omega) hx0 (args_nil ?_))))))
      refine e_newTuple S (fun at' _ S => ?_) (by simp [sizeLine_eq])
      refine e_unpackSub2 S (RA.deeper _).handled (S.tuple (.head _)) fun _ S => ?_
      refine e_loc S h2 (e_loc S rfl (e_setList S 2 rfl (by omega) (by omega) (by omega) fun _ S => ?_))
      refine e_loc S h2 (wpAny_BinOp (e_loc S rfl (e_int S fun _ _ S => b_add S fun _ _ S => ?_)))
      rw [show ((i : Int) + 1) = ((i + 1 : Nat) : Int) by omega]
      refine e_setList S 2 rfl (by omega) (by omega) (by rw [List.length_set]; omega) fun _ S => ?_
      refine wpAny_execs_nil (wpAny_execs_nil ⟨_, _, _, S.drop1, rfl, h1, h2, _, (us.set i (us.getD (i + 1) 0)).set (i + 1) (us.getD i 0), rfl, ?_, ?_, ?_⟩)
      · have e1 := ints_set (ints_set h3 i ((us.map fun (y : Nat) => (y : Int)).getD (i + 1) 0) t1) (i + 1) ((us.map fun (y : Nat) => (y : Int)).getD i 0) t0
        rw [List.map_set, List.map_set, ← getD_cast, ← getD_cast]
        exact e1
      · rw [List.length_set, List.length_set, h4]
      · intro x hx
        rcases List.mem_or_eq_of_mem_set hx with hx | rfl
        · rcases List.mem_or_eq_of_mem_set hx with hx | rfl
          · exact h5 x hx
          · exact h5 _ (getD_mem us (i + 1) (by omega))
        · exact h5 _ (getD_mem us i (by omega))
  · obtain ⟨rfl, h1, h2, uv, us, rfl, h3, h4, h5⟩ := hI
    refine wpAny_execs_cons (wpAny_Return_some (e_loc S h2 ?_))
    have hb := (S.own _ (.head _)).2.2
    exact h ao s' uv us S.kept hb (S.list (.head _)) h3 h4 h5
end Mine
end
section
open PySem PySem.W PyProof.Rows
set_option Elab.async false
set_option maxRecDepth 100000
set_option maxHeartbeats 4000000
namespace Mine
def membN (ms : List Nat) (ch : Nat) : List Nat := ((List.range ms.length).filter fun d => ch.testBit d).map fun d => ms.getD d 0
def orN (l : List Nat) : Nat := l.foldl (· ||| ·) 0
def sgnStep (ms : List Nat) (among : Nat) (c : List Int) (ch : Nat) : List Int :=
  if ch &&& among = ch ∧ (membN ms ch).sum = orN (membN ms ch) then c.set (4 - (membN ms ch).length) (c.getD (4 - (membN ms ch).length) 0 + (-1) ^ (membN ms ch).length) else c
def sgn (ms : List Nat) (among : Nat) : List Int := (List.range (2 ^ ms.length)).foldl (sgnStep ms among) [0, 0, 0, 0, 0]
theorem shr_nat (a d : Nat) : ((a : Int).fdiv (2 ^ ((d : Int).toNat))) = ((a / 2 ^ d : Nat) : Int) := by
  rw [Int.toNat_natCast, Int.fdiv_eq_ediv_of_nonneg _ (by exact Int.le_of_lt (Int.pow_pos (by decide)))]
  simp
theorem bit_test (a d : Nat) : (((a / 2 ^ d &&& 1 : Nat) : Int) != 0) = a.testBit d := by
  rw [Nat.testBit, Nat.shiftRight_eq_div_pow, Nat.and_comm]
  cases h : (1 &&& a / 2 ^ d) with
  | zero => rfl
  | succ n => simp; omega
theorem ints_cast_getD {vs : List Value} {ns : List Nat} (h : IntsAre vs (ns.map fun (y : Nat) => (y : Int))) {k : Nat} (hk : k < ns.length) : ∃ t, vs[k]? = some (.int (ns.getD k 0 : Nat) t) := by
  obtain ⟨t, e⟩ := ints_at h (k := k) (by rw [List.length_map]; exact hk)
  exact ⟨t, by rw [e, getD_cast]⟩
theorem lookup2 (a b : Str) (u v : Value) : (fun y => if y = a then some u else if y = b then some v else none) = fun y => [(a, u), (b, v)].lookup y := by
  rw [← lookup_upd]
  funext y
  split
  · rfl
  · have := congrFun (lookup_upd [] b v) y
    exact this
theorem sgnStep_len (ms : List Nat) (among : Nat) (c : List Int) (ch : Nat) : (sgnStep ms among c ch).length = c.length := by
  unfold sgnStep; split <;> simp
theorem membN_len (ms : List Nat) (ch : Nat) : (membN ms ch).length ≤ ms.length := by
  unfold membN
  rw [List.length_map]
  exact Nat.le_trans (List.length_filter_le _ _) (by rw [List.length_range]; exact Nat.le_refl _)
theorem natsum_cast (l : List Nat) : (l.map fun (y : Nat) => (y : Int)).sum = ((l.sum : Nat) : Int) := by
  induction l with
  | nil => rfl
  | cons x t ih => rw [List.map_cons, List.sum_cons, ih, List.sum_cons]; rfl

section
variable {r : Shared} {B : Addr → Option Obj} {L : Addr} {m : List (Str × Value)} {l : List (Addr × Desc)} {s : Shared} {w : World} {A : Around} {E : Value → Shared → Prop}
theorem i_or_nat {a b : Nat} {t u : Tok} {Q : Value → Shared → Prop} (S : St r B L m l s) (h : ∀ t s', St r B L m l s' → Q (.int ((a ||| b : Nat) : Int) t) s') : wpAny (model PW w) A (inplaceOp .BitOr (.int a t) (.int b u)) Q E s := ior_int (by rw [bitOr_nat]; exact h _ _ (S.toks _))
theorem i_add {a b : Int} {t u : Tok} {Q : Value → Shared → Prop} (S : St r B L m l s) (h : ∀ t s', St r B L m l s' → Q (.int (a + b) t) s') : wpAny (model PW w) A (inplaceOp .Add (.int a t) (.int b u)) Q E s := PyProof.Rows.iadd_int (h _ _ (S.toks _))
end

theorem signed_core (w : World) (A : Around) (s : Shared) (Q E : Value → Shared → Prop) (B : Addr → Option Obj) (l₀ : List (Addr × Desc)) (am : Addr) (mv : List Value) (ms : List Nat) (among width : Nat) (ta tw : Tok)
    (RA : Room 6 A) (hB : ∀ b o, B b = some o → s.heap.get? b = some o) (hl₀ : ∀ p ∈ l₀, (∃ o, s.heap.get? p.1 = some o ∧ p.2 o) ∧ B p.1 = none) (hnd₀ : (l₀.map (·.1)).Nodup) (TB : TopB w B)
    (hm : ∀ L m l s', St s B L m l s' → s'.heap.IsList am mv.toArray) (hmi : IntsAre mv (ms.map fun (y : Nat) => (y : Int))) (hml : ms.length ≤ 4)
    (h : ∀ L m l' s' a cv tw', St s B L m ((a, OList cv) :: l' ++ l₀) s' → IntsAre cv (sgn ms among) → wpAny (model PW w) (A.deeper (callEnvC (fd_signed w.params) L 109)) (call (.ref 59) [.ref a, .int width tw']) Q (fun _ _ => False) s') :
    wpAny (model PW w) A (call (.ref 109) [.ref am, .int among ta, .int width tw]) Q E s := by
  have hmv : mv.length = ms.length := by rw [ints_len hmi, List.length_map]
  refine wpAny_call (enterTopC (o := hz.zo_126 w.params) (oc := hz.zo_125 w.params) (fd := fd_signed w.params) (c := 108) (binds := [(n_masks, .ref am), (n_among, .int among ta), (n_width, .int width tw)]) (mL := [(n_width, .int width tw), (n_among, .int among ta)]) B l₀ hB hl₀ hnd₀ TB RA.lt (by kernel_rfl) rfl (by kernel_rfl) rfl rfl rfl rfl rfl rfl rfl rfl (kinds_of (by kernel_rfl)) (fun L => lookup2 n_width n_among (.int width tw) (.int among ta)) (fun L => of_decide_eq_true (by kernel_rfl)) rfl rfl rfl (fun L s₁ S => ?_))
  have S : St s B L [(n_width, .int width tw), (n_among, .int among ta)] ((L + 2, OCell none) :: (L + 1, OCell (some (.ref am))) :: l₀) s₁ := S
  refine wpAny_execs_cons (wpAny_Assign_Name (wpAny_BinOp (List_ (args_cons (e_int S fun t0 _ S => args_nil (e_newList S fun a0 _ S => e_int S fun _ _ S => ?_))))))
  refine b_repeat S (.head _) (by simp) (by decide) (by decide) (by simp) fun ac _ S => ?_
  refine e_store S.drop2 fun _ S => ?_
  refine wpAny_execs_cons (wpAny_For (Call_ (g_range S TB (PyProof.Rows.callWith_type1 (args_cons (wpAny_BinOp (e_int S fun _ _ S => Call_ (g_len S TB (PyProof.Rows.callWith_builtin1 (args_cons (e_cell S (.tail _ (.tail _ (.head _))) (args_nil ?_))))))))))))
  refine c_lenL S (hm _ _ _ _ S) (by omega) fun _ _ S => b_pow S (by omega) (by omega) (by decide) fun _ _ S => args_nil ?_
  rw [show ((2 : Int) ^ ((mv.length : Int).toNat)) = ((2 ^ ms.length : Nat) : Int) by rw [hmv, Int.toNat_natCast]; simp]
  refine c_range S fun _ _ S => ?_
  have hp4 : 2 ^ ms.length ≤ 2 ^ 4 := Nat.pow_le_pow_right (by decide) hml
  refine c_iterRange S (by omega) fun it s6 S => ?_
  refine for_go (iter_range (RA.deeper (k := 5) _).handled it (2 ^ ms.length)) (fun i B' m' l' => B' = B ∧ m'.lookup n_among = some (.int among ta) ∧ m'.lookup n_width = some (.int width tw) ∧ m'.lookup n_counts = some (.ref ac) ∧ ∃ (cv : List Value) (chv : Option Value), l' = (ac, OList cv) :: (L + 2, OCell chv) :: (L + 1, OCell (some (.ref am))) :: l₀ ∧ IntsAre cv ((List.range i).foldl (sgnStep ms among) [0, 0, 0, 0, 0]))
    S ⟨rfl, rfl, rfl, rfl, _, none, rfl, ints_repl 5 t0⟩ (fun _ _ _ _ _ _ _ => trivial) (fun i v B' m' l' s' hi hv hI S => ?_) (fun B' m' l' s' hI S => ?_)
  · obtain ⟨t, rfl⟩ := hv
    obtain ⟨rfl, h1, h2, h3, cv, chv, rfl, h4⟩ := hI
    refine wpAny_assign_Name (e_storeCell S 2 rfl fun _ S => ?_)
    refine wpAny_execs_cons (e_assignComp (cl := [(n_masks, L + 1), (n_chosen, L + 2)]) rfl rfl rfl rfl (Call_ (g_range S TB (PyProof.Rows.callWith_type1 (args_cons (Call_ (g_len S TB (PyProof.Rows.callWith_builtin1 (args_cons (e_cell S (.tail _ (.tail _ (.tail _ (.head _)))) (args_nil ?_)))))))))))
    refine c_lenL S (hm _ _ _ _ S) (by omega) fun _ _ S => args_nil (c_range S fun _ _ S => c_iterRange S (by omega) fun it2 _ S => ?_)
    rw [hmv] at S
    have hh : (A.deeper (callEnvC (fd_signed w.params) L 109)).handled = none := (RA.deeper (k := 5) _).handled
    have S : St s B' (callEnvC (fd_signed w.params) L 109).locals m' ((it2, ORangeIter ms.length 0) :: (it, ORangeIter (2 ^ ms.length) (i + 1)) :: (ac, OList cv) :: (L + 2, OCell (some (.int i t))) :: (L + 1, OCell (some (.ref am))) :: l₀) _ := S
    refine comp_goA (iter_range hh it2 ms.length) (fun j ys l' => l' = (it, ORangeIter (2 ^ ms.length) (i + 1)) :: (ac, OList cv) :: (L + 2, OCell (some (.int i t))) :: (L + 1, OCell (some (.ref am))) :: l₀ ∧ IntsAre ys ((((List.range j).filter fun d => i.testBit d).map fun d => ms.getD d 0).map fun (y : Nat) => (y : Int)) ∧ ys.length ≤ j) S ⟨rfl, .nil, Nat.le_refl _⟩ (fun _ _ _ _ _ _ _ _ _ => trivial) (fun j ys l' hj hI => by rw [sizeLine_eq]; omega)
      (fun C acc j v ys mC l' s' hj hv hI S => ?_) (fun acc ys l' s' hI S => ?_)
    · obtain ⟨td, rfl⟩ := hv
      obtain ⟨rfl, hi1, hi2⟩ := hI
      refine wpAny_tests_one (isTrue_plain (wpAny_BinOp (wpAny_BinOp (e_cell S (.tail _ (.tail _ (.tail _ (.tail _ (.tail _ (.head _)))))) (e_loc S rfl (b_shr S (Int.natCast_nonneg _) fun _ _ S => ?_))))))
      rw [shr_nat]
      refine e_int S fun _ _ S => b_and_nat (b := 1) S fun _ _ S => truthy_int ?_
      rw [bit_test]
      cases hb : i.testBit j with
      | false =>
        rw [if_neg Bool.false_ne_true]
        refine ⟨_, _, S, rfl, ?_, by omega⟩
        rw [List.range_succ, List.filter_append]
        simpa [hb] using hi1
      | true =>
        rw [if_pos rfl]
        obtain ⟨tx, hx⟩ := ints_cast_getD hmi (k := j) hj
        refine Subscript_ (e_cell S (.tail _ (.tail _ (.tail _ (.tail _ (.tail _ (.tail _ (.head _))))))) (e_loc S rfl (t_item (hm _ _ _ _ S) (by omega) (by omega) hx ⟨_, _, S, rfl, ?_, by rw [List.length_append, List.length_singleton]; omega⟩)))
        rw [List.range_succ, List.filter_append, List.map_append, List.map_append]
        refine ints_append hi1 ?_
        simp only [List.filter_cons, hb, if_true, List.filter_nil, List.map_cons, List.map_nil]
        exact .cons _ _ .nil
    · obtain ⟨rfl, hi1, hi2⟩ := hI
      have hi1' : IntsAre ys ((membN ms i).map fun (y : Nat) => (y : Int)) := hi1
      have hyl : ys.length = (membN ms i).length := by rw [ints_len hi1', List.length_map]
      have hml2 := membN_len ms i
      refine wpAny_execs_cons (wpAny_Assign_Name (e_int S fun tt _ S => e_store S fun _ S => ?_))
      refine wpAny_execs_cons (wpAny_For (e_loc S rfl (e_iterList S (S.list (.head _)) fun it3 _ S => ?_)))
      refine for_go (iter_list hh it3 acc ys) (fun j B'' m'' l'' => B'' = B' ∧ m''.lookup n_among = some (.int among ta) ∧ m''.lookup n_width = some (.int width tw) ∧ m''.lookup n_counts = some (.ref ac) ∧ m''.lookup n_members = some (.ref acc) ∧ (∃ t, m''.lookup n_together = some (.int (orN ((membN ms i).take j) : Nat) t)) ∧ l'' = (acc, OList ys) :: (it, ORangeIter (2 ^ ms.length) (i + 1)) :: (ac, OList cv) :: (L + 2, OCell (some (.int i t))) :: (L + 1, OCell (some (.ref am))) :: l₀)
        S ⟨rfl, h1, h2, h3, rfl, ⟨tt, rfl⟩, rfl⟩ (fun j B'' m'' l'' s'' hI S => ?_) (fun j v B'' m'' l'' s'' hj hv hI S => ?_) (fun B'' m'' l'' s'' hI S => ?_)
      · obtain ⟨rfl, _, _, _, _, _, rfl⟩ := hI
        exact S.list (.tail _ (.head _))
      · obtain ⟨rfl, k1, k2, k3, k4, ⟨tg, k5⟩, rfl⟩ := hI
        obtain ⟨n, tn, hn, rfl⟩ := ints_get hi1' hv
        rw [List.getElem?_map] at hn
        cases hq : (membN ms i)[j]? with
        | none => rw [hq] at hn; cases hn
        | some q =>
          rw [hq] at hn; cases hn
          refine wpAny_assign_Name (e_store S fun _ S => ?_)
          refine wpAny_execs_cons (wpAny_AugAssign_Name (e_locn S k5 (e_loc S rfl (i_or_nat S fun tz _ S => ?_))))
          refine e_store S fun _ S => ?_
          refine wpAny_execs_nil ⟨_, _, _, S, rfl, k1, k2, k3, k4, ⟨tz, ?_⟩, rfl⟩
          rw [List.take_add_one, hq]
          show some _ = some _
          unfold orN
          rw [Option.toList_some, List.foldl_append]; rfl
      · obtain ⟨rfl, k1, k2, k3, k4, ⟨tg, k5⟩, rfl⟩ := hI
        rw [List.take_of_length_le (by omega)] at k5
        have hcl : cv.length = 5 := by
          rw [ints_len h4]
          have : ∀ (l : List Nat) (c : List Int), (l.foldl (sgnStep ms among) c).length = c.length := by
            intro l
            induction l with
            | nil => intro c; rfl
            | cons x t ih => intro c; rw [List.foldl_cons, ih, sgnStep_len]
          rw [this]; rfl
        refine wpAny_execs_cons (wpAny_If (isTrue_and (wpAny_isTrue_Compare1 (wpAny_BinOp (e_cell S (.tail _ (.tail _ (.tail _ (.head _)))) (e_loc S k1 (b_and_nat S fun _ _ S => e_cell S (.tail _ (.tail _ (.tail _ (.head _)))) (c_eq (wpAny_truthy_bool ?_)))))))))
        by_cases c1 : i &&& among = i
        · rw [show (((i &&& among : Nat) : Int) == (i : Int)) = true from by rw [c1]; simp]
          simp only [if_true]
          refine isTrue_and (wpAny_isTrue_Compare1 (Call_ (g_sum S TB (PyProof.Rows.callWith_builtin1 (args_cons (e_loc S k4 (args_nil (c_sum S hh (S.list (.head _)) hi1' fun _ _ S => e_loc S k5 (c_eq (wpAny_truthy_bool ?_))))))))))
          rw [natsum_cast]
          by_cases c2 : (membN ms i).sum = orN (membN ms i)
          · rw [show ((((membN ms i).sum : Nat) : Int) == ((orN (membN ms i) : Nat) : Int)) = true from by rw [c2]; simp]
            simp only [if_true]
            refine isTrue_and_nil ?_
            simp only [if_true]
            refine wpAny_execs_cons (wpAny_AugAssign_SubscriptAny (e_loc S k3 (wpAny_BinOp (e_int S fun _ _ S => Call_ (g_len S TB (PyProof.Rows.callWith_builtin1 (args_cons (e_loc S k4 (args_nil ?_)))))))))
            refine c_lenL S (S.list (.head _)) (by omega) fun _ _ S => b_sub S fun _ _ S => ?_
            rw [hyl, show ((4 : Int) - ((membN ms i).length : Int)) = ((4 - (membN ms i).length : Nat) : Int) by omega]
            obtain ⟨tc, hx⟩ := ints_at h4 (k := 4 - (membN ms i).length) (by rw [← ints_len h4, hcl]; omega)
            refine g_item (S.list (.tail _ (.tail _ (.head _)))) (Int.natCast_nonneg _) (by omega) hx ?_
            refine wpAny_BinOp (wpAny_UnaryOp (e_int S fun _ _ S => u_neg S fun _ _ S => Call_ (g_len S TB (PyProof.Rows.callWith_builtin1 (args_cons (e_loc S k4 (args_nil ?_)))))))
            refine c_lenL S (S.list (.head _)) (by omega) fun _ _ S => b_pow S (by omega) (by omega) (by decide) fun _ _ S => i_add S fun tz _ S => ?_
            rw [hyl, Int.toNat_natCast]
            refine e_setList S 2 rfl (Int.natCast_nonneg _) (by omega) (by omega) fun _ S => ?_
            refine wpAny_execs_nil (wpAny_execs_nil ⟨_, _, _, (S.drop1).perm (List.Perm.refl _), rfl, k1, k2, k3, _, _, rfl, ?_⟩)
            rw [List.range_succ, List.foldl_append, List.foldl_cons, List.foldl_nil]
            rw [show sgnStep ms among ((List.range i).foldl (sgnStep ms among) [0, 0, 0, 0, 0]) i = _ from if_pos ⟨c1, c2⟩]
            exact ints_set h4 _ _ _
          · rw [show ((((membN ms i).sum : Nat) : Int) == ((orN (membN ms i) : Nat) : Int)) = false from by simp; omega]
            simp only [Bool.false_eq_true, if_false]
            refine wpAny_execs_nil (wpAny_execs_nil ⟨_, _, _, (S.drop1).perm (List.Perm.refl _), rfl, k1, k2, k3, cv, _, rfl, ?_⟩)
            rw [List.range_succ, List.foldl_append, List.foldl_cons, List.foldl_nil]
            rw [show sgnStep ms among ((List.range i).foldl (sgnStep ms among) [0, 0, 0, 0, 0]) i = (List.range i).foldl (sgnStep ms among) [0, 0, 0, 0, 0] from if_neg fun q => c2 q.2]
            exact h4
        · rw [show (((i &&& among : Nat) : Int) == (i : Int)) = false from by simp; omega]
          simp only [Bool.false_eq_true, if_false]
          refine wpAny_execs_nil (wpAny_execs_nil ⟨_, _, _, (S.drop1).perm (List.Perm.refl _), rfl, k1, k2, k3, cv, _, rfl, ?_⟩)
          rw [List.range_succ, List.foldl_append, List.foldl_cons, List.foldl_nil]
          rw [show sgnStep ms among ((List.range i).foldl (sgnStep ms among) [0, 0, 0, 0, 0]) i = (List.range i).foldl (sgnStep ms among) [0, 0, 0, 0, 0] from if_neg fun q => c1 q.1]
          exact h4
  · obtain ⟨rfl, h1, h2, h3, cv, chv, rfl, h4⟩ := hI
    refine wpAny_execs_cons (wpAny_Return_some (Call_ (g_d2i S TB (PyProof.Rows.callWith_def (o := hz.zo_82 w.params) rfl (args_cons (e_loc S h3 (args_cons (e_loc S h2 (args_nil ⟨TB.get S (by decide) (by decide) (by kernel_rfl), ?_⟩)))))))))
    exact wpAny_mono (h L _ [(L + 2, OCell chv), (L + 1, OCell (some (.ref am)))] s' ac cv tw S h4) (fun v s q => q) fun _ _ q => q
end Mine
end
section
open PySem PySem.W PyProof.Rows
set_option Elab.async false
set_option maxRecDepth 100000
set_option maxHeartbeats 4000000
namespace Mine
theorem repl_lt (a b : Nat) : (List.replicate a 46 < List.replicate b 46) ↔ a < b := by
  induction a generalizing b with
  | zero =>
    cases b with
    | zero => simp
    | succ b => simp [List.replicate_succ]
  | succ a ih =>
    cases b with
    | zero => simp [List.replicate_succ]
    | succ b =>
      rw [List.replicate_succ, List.replicate_succ, List.cons_lt_cons_iff]
      simp [ih]
theorem CmpOf.dots_gt {w : World} {A : Around} {P : Nat → Value → Prop} (val : Nat → Int) (hn : ∀ i v, P i v → ∃ (k : Nat) (t : Tok), val i = k ∧ v = .str (dots k) t) :
    CmpOf PW w A .Gt P (fun i j => decide (val i > val j)) := fun i j vi vj s Q E hi hj h => by
  obtain ⟨k, t, e1, rfl⟩ := hn i vi hi
  obtain ⟨k', u, e2, rfl⟩ := hn j vj hj
  refine richCompare_gives (op := .Gt) (typeIs_str s _ t) (typeIs_str s _ u) F.slot_str_gt F.entry_str_gt (F.args_str_gt_2 _ _) (gives_str_gt _ _ t u) (fun x => nomatch x) ?_
  show Q (.bool _) s
  rw [show (decide ((dots k').cps.toList < (dots k).cps.toList)) = decide (val i > val j) from ?_]
  · exact h
  · rw [e1, e2, decide_eq_decide]
    show (List.replicate k' 46 < List.replicate k 46) ↔ _
    rw [repl_lt]; omega
section
variable {r : Shared} {B : Addr → Option Obj} {L : Addr} {m : List (Str × Value)} {l : List (Addr × Desc)} {s s' : Shared}
variable {w : World} {A : Around} {E : Value → Shared → Prop} {env : Env}
theorem c_maxDots {a : Addr} {vs : List Value} {hs : List Nat} {Q : Value → Shared → Prop} (S : St r B L m l s) (hh : A.handled = none) (hl : s.heap.IsList a vs.toArray) (hi : StrsAre vs (hs.map dots)) (hne : 0 < hs.length)
    (h : ∀ M t s', M ∈ hs → (∀ x ∈ hs, x ≤ M) → St r B L m l s' → Q (.str (dots M) t) s') : wpAny (model PW w) A (call (.builtin "max") [.ref a]) Q E s := by
  have hlen : vs.length = hs.length := by rw [hi.len_eq, List.length_map]
  have hlt : a < s.heap.objs.size := by obtain ⟨_, e, _⟩ := hl; exact Heap.lt_size e
  have hP : ∀ i v, vs.toArray[i]? = some v → ∃ (k : Nat) (t : Tok), (fun i => ((hs.getD i 0 : Nat) : Int)) i = k ∧ v = .str (dots k) t := fun i v e => by
    have e' : vs[i]? = some v := by simpa using e
    have hil : i < hs.length := by rw [← hlen]; exact (List.getElem?_eq_some_iff.mp e').1
    obtain ⟨t, ht⟩ := hi.at (j := i) (y := dots (hs.getD i 0)) (by rw [List.getElem?_map, List.getD_eq_getElem?_getD, List.getElem?_eq_getElem hil]; rfl)
    rw [ht] at e'; cases e'
    exact ⟨_, t, rfl, rfl⟩
  refine call_max_walk (wpAny_pyIter_list hl ?_)
  refine ⟨_, _, _, _, _, _, _, rfl, Walks.list (A := A.in1) hh _ a (Nat.ne_of_lt hlt) vs.toArray, ⟨⟨_, Heap.get?_push_size _ rfl, rfl, rfl⟩, hl.push _⟩, ?_, by simp; omega, CmpOf.dots_gt (fun i => ((hs.getD i 0 : Nat) : Int)) hP, fun v h' tk hv hk => ?_⟩
  · intro b hb
    show b < (s.heap.push _).objs.size
    rw [Heap.size_push]
    rcases List.mem_cons.mp hb with rfl | hb
    · exact Nat.lt_succ_self _
    · rcases List.mem_cons.mp hb with rfl | hb
      · exact Nat.lt_succ_of_lt hlt
      · cases hb
  · obtain ⟨h1, h2⟩ := argBest_gt (fun i => ((hs.getD i 0 : Nat) : Int)) (vs.toArray.size - 1)
    obtain ⟨k, t, e1, rfl⟩ := hP _ _ hv
    have hsz : vs.toArray.size = hs.length := by simp [hlen]
    rw [hsz] at h1 h2
    have hkm : k = hs.getD (argBest (fun i j => decide (((hs.getD i 0 : Nat) : Int) > ((hs.getD j 0 : Nat) : Int))) (hs.length - 1)) 0 := by
      rw [hsz] at e1
      exact (Int.ofNat_inj.mp e1).symm
    refine h k t _ ?_ ?_ ?_
    · rw [hkm]; exact getD_mem hs _ (by omega)
    · intro x hx
      obtain ⟨j, hj, rfl⟩ := List.getElem_of_mem hx
      have := h2 j (by omega)
      rw [← hkm] at this
      rw [List.getD_eq_getElem?_getD, List.getElem?_eq_getElem hj] at this
      have : ((hs[j] : Nat) : Int) ≤ k := this
      omega
    · refine S.ext (s' := { s with heap := h', toks := tk }) rfl rfl rfl fun b o e => hk b o (fun hm => ?_) (Heap.get?_push_of_some _ e)
      rcases List.mem_cons.mp hm with e1 | hm
      · exact absurd (e1 ▸ Heap.lt_size e) (Nat.lt_irrefl _)
      · cases hm
end
end Mine
end
section
open PySem PySem.W PyProof.Rows
open PySem.Builtin PySem.Builtin.Str
set_option Elab.async false
set_option maxRecDepth 100000
set_option maxHeartbeats 4000000
namespace Mine
def crlf : Str := ⟨⟨[13, 10]⟩⟩
theorem strs_values (l : List (Str × Tok)) : StrsAre (strValues l) (l.map (·.1)) := by
  induction l with
  | nil => exact .nil
  | cons p t ih => exact .cons _ _ ih
section
variable {r : Shared} {B : Addr → Option Obj} {L : Addr} {m : List (Str × Value)} {l : List (Addr × Desc)} {s s' : Shared}
variable {w : World} {A : Around} {E : Value → Shared → Prop} {env : Env}
theorem c_split {x y : Str} {t u : Tok} {Q : Value → Shared → Prop} (S : St r B L m l s) (hy : (y.length == 0) = false)
    (hsz : x.length ≤ sizeLine) (hsz2 : (partsBetween x (occurrences x y 0 x.length (x.length + 1)) y.length).length ≤ sizeLine)
    (h : ∀ D vs s', StrsAre vs (Txt.split x y) → St r B L m ((D, OList vs) :: l) s' → Q (.ref D) s') :
    wpAny (model PW w) A (call (.builtin "str.split") [.str x t, .str y u]) Q E s := by
  have mk : ∀ (lst : List (Str × Tok)) (k : Tok), lst.map (·.1) = Txt.split x y → Q (.ref s.heap.objs.size) { s with heap := s.heap.push { cls := .type "list", data := .seq (strValues lst).toArray }, toks := k } := fun lst k e => by
    have e2 := strs_values lst
    rw [e] at e2
    exact h _ (strValues lst) _ e2 ((S.alloc (o := { cls := .type "list", data := .seq (strValues lst).toArray }) rfl ⟨0, rfl⟩).toks k)
  cases h1 : (decide (x.length < y.length) || decide (PySem.Builtin.Str.strKind x < PySem.Builtin.Str.strKind y))
  · cases hf : (occurrences x y 0 x.length (x.length + 1)).isEmpty
    · refine call_meets F.slot_str_split (typeIs_str _ _ _) F.entry_str_split (F.args_str_split_2 _ _) (meets_str_split_sep x y t u h1 hy hf hsz hsz2) ?_
      show wants Q E _ { s with toks := _, heap := s.heap.push { cls := .type "list", data := .seq (strsFrom s.toks (partsBetween x (occurrences x y 0 x.length (x.length + 1)) y.length)).toArray } }
      rw [strsFrom_eq]
      exact mk (numbered s.toks _) _ ((numbered_texts _ _).trans ((if_neg (ne_true_of_eq_false h1)).trans (if_neg (ne_true_of_eq_false hf))).symm)
    · exact call_meets F.slot_str_split (typeIs_str _ _ _) F.entry_str_split (F.args_str_split_2 _ _) (meets_str_split_not_found x y t u h1 hy hf)
        (mk [(x, t)] s.toks ((if_neg (ne_true_of_eq_false h1)).trans (if_pos hf)).symm)
  · exact call_meets F.slot_str_split (typeIs_str _ _ _) F.entry_str_split (F.args_str_split_2 _ _) (meets_str_split_cannot_occur x y t u h1)
      (mk [(x, t)] s.toks (if_pos h1).symm)

def OSlice (vl vu vs : Value) : Desc := fun o => o.cls = .type "slice" ∧ o.data = .fields #[vl, vu, vs]
theorem e_sliceRev {p p1 p2 : Pos} {k1 : Nat} {Q : Value → Shared → Prop} (S : St r B L m l s) (h : ∀ t sl s', St r B L m ((sl, OSlice .none .none (.int (-1) t)) :: l) s' → Q (.ref sl) s') :
    wpAny (model PW w) A (eval (.Slice none none (some (.UnaryOp .USub (.Constant (.int 1) k1 p1) p2)) p) env) Q E s := by
  rw [arm_eval_Slice]
  refine wpAny_bind (wpAny_pure (wpAny_bind (wpAny_holding (wpAny_pure (wpAny_bind (wpAny_holding ?_))))))
  refine wpAny_UnaryOp (env := env) (pos := p2) (x := .Constant (.int 1) k1 p1) (e_int S fun _ _ S => u_neg S fun t _ S => ?_)
  exact wpAny_newObj_type (h t _ _ (S.alloc (o := { cls := .type "slice", data := .fields #[.none, .none, .int (-1) t] }) rfl ⟨rfl, rfl⟩))
theorem e_sliceRev0 {p p0 p1 p2 : Pos} {k0 k1 : Nat} {Q : Value → Shared → Prop} (S : St r B L m l s) (h : ∀ t u sl s', St r B L m ((sl, OSlice .none (.int 0 u) (.int (-1) t)) :: l) s' → Q (.ref sl) s') :
    wpAny (model PW w) A (eval (.Slice none (some (.Constant (.int 0) k0 p0)) (some (.UnaryOp .USub (.Constant (.int 1) k1 p1) p2)) p) env) Q E s := by
  rw [arm_eval_Slice]
  refine wpAny_bind (wpAny_pure (wpAny_bind (wpAny_holding ?_)))
  refine e_int (env := env) (pos := p0) (k := k0) S fun u _ S => ?_
  refine wpAny_bind (wpAny_holding ?_)
  refine wpAny_UnaryOp (env := env) (pos := p2) (x := .Constant (.int 1) k1 p1) (e_int S fun _ _ S => u_neg S fun t _ S => ?_)
  exact wpAny_newObj_type (h t u _ _ (S.alloc (o := { cls := .type "slice", data := .fields #[.none, .int 0 u, .int (-1) t] }) rfl ⟨rfl, rfl⟩))
theorem g_slice {a sl : Addr} {vs : List Value} {vl vu vk : Value} {lo hi st : Option Int} {Q : Value → Shared → Prop} (S : St r B L m ((sl, OSlice vl vu vk) :: l) s) (hl : s.heap.IsList a vs.toArray) (pl : IsPart vl lo) (pu : IsPart vu hi) (ps : IsPart vk st) (h0 : st ≠ some 0) (hsz : vs.length ≤ sizeLine)
    (h : ∀ D s', St r B L m ((D, OList (slicePick vs.toArray lo hi st).toList) :: l) s' → Q (.ref D) s') : wpAny (model PW w) A (getItem (.ref a) (.ref sl)) Q E s := by
  obtain ⟨o, e, hc, hd⟩ := S.get (.head _)
  refine wpAny_getItem_list_slice hl ⟨o, e, hc, hd⟩ pl pu ps h0 (h _ _ ?_) (by simpa using hsz)
  exact (S.drop1).alloc (o := { cls := .type "list", data := .seq (slicePick vs.toArray lo hi st) }) rfl ⟨0, rfl⟩
end
theorem pick_rev0 (vs : List Value) : (slicePick vs.toArray none (some 0) (some (-1))).toList = (vs.drop 1).reverse := by
  cases vs with
  | nil => rfl
  | cons x t =>
    unfold slicePick
    have hb : sliceBounds none (some 0) (some (-1)) (x :: t).toArray.size = (((t.length : Nat) : Int), 0, -1) := by
      unfold sliceBounds
      simp
      omega
    rw [hb]
    have hr : sliceRange ((t.length : Nat) : Int) 0 (-1) = (List.range t.length).reverse.map (1 + ·) := by
      unfold sliceRange
      have h1 : ¬ ((-1 : Int) > 0) := by decide
      simp only [h1, if_false]
      by_cases h : ((t.length : Nat) : Int) > 0
      · have e : (((t.length : Nat) : Int) - 0 - -1 - 1) / (- -1) = (t.length : Int) := by
          rw [show (- -1 : Int) = 1 by decide, Int.ediv_one]; omega
        rw [if_pos h, e, Int.toNat_natCast, ← krv_range, List.map_map]
        apply List.map_congr_left
        intro k hk
        have := List.mem_range.mp hk
        simp only [Function.comp]
        omega
      · have e : t.length = 0 := by omega
        rw [if_neg h, e]; rfl
    show (((sliceRange ((t.length : Nat) : Int) 0 (-1)).filterMap ((x :: t).toArray[·]?)).toArray).toList = _
    rw [hr, List.filterMap_map]
    show List.filterMap _ _ = t.reverse
    rw [List.filterMap_reverse]
    congr 1
    have := krv_all t.toArray
    simp only [List.size_toArray] at this
    refine Eq.trans ?_ this
    congr 1
    funext k
    simp [Nat.add_comm 1 k]
theorem pick_rev (vs : List Value) : (slicePick vs.toArray none none (some (-1))).toList = vs.reverse := by
  rw [krv_pick]
end Mine
end
section
open PySem PySem.W PyProof.Rows
set_option Elab.async false
set_option maxRecDepth 100000
set_option maxHeartbeats 4000000
namespace Mine
def Ready (w : World) (h : Heap) : Prop := TopH w h ∧ Full47 h ∧ Full54 h
theorem Ready.keep {w : World} {h h' : Heap} (R : Ready w h) (hk : ∀ b o, h.get? b = some o → h'.get? b = some o) : Ready w h' := ⟨fun a o h1 h2 e => hk a o (R.1 a o h1 h2 e), R.2.1.keep hk, R.2.2.keep hk⟩
theorem Kept.refl (s : Shared) : Kept s s := ⟨rfl, rfl, rfl, fun _ _ e => e⟩
def QuoteSpec (w : World) : Prop := ∀ (A : Around) (s : Shared) (Q E : Value → Shared → Prop) (h k : Nat) (e : Str) (t : Tok), Room 6 A → TopH w s.heap → endOk e → 1 ≤ k → k ≤ 4 → h ≤ 4 →
  (∀ s' t', Kept s s' → Q (.str (Txt.join crlf (List.replicate k (dots (h + 2)))) t') s') → wpAny (model PW w) A (call (.ref 97) [.str (Txt.join e (List.replicate k (dots (h + 1)))) t]) Q E s
theorem split_dots : ∀ k, k < 5 → 1 ≤ k → ∀ n, n < 7 → 1 ≤ n → Txt.split (Txt.join crlf (List.replicate k (dots n))) crlf = List.replicate k (dots n) := by decide +kernel
end Mine
end
section
open PySem PySem.W PyProof.Rows
set_option Elab.async false
set_option maxRecDepth 100000
set_option maxHeartbeats 4000000
namespace Mine
theorem foldl_max_ge {l : List Nat} {b : Nat} : b ≤ l.foldl max b ∧ ∀ x ∈ l, x ≤ l.foldl max b := by
  induction l generalizing b with
  | nil => exact ⟨Nat.le_refl _, fun _ h => nomatch h⟩
  | cons y t ih =>
    have := ih (b := max b y)
    refine ⟨Nat.le_trans (Nat.le_max_left _ _) this.1, fun x hx => ?_⟩
    rcases List.mem_cons.mp hx with rfl | hx
    · exact Nat.le_trans (Nat.le_max_right _ _) this.1
    · exact this.2 x hx
theorem tallest_ge {m : Nat} {hs : List Nat} {r : Nat} (h : r ∈ touched m) : hs.getD r 0 ≤ tallestH m hs := foldl_max_ge.2 _ (List.mem_map_of_mem h)
theorem max_tall {m : Nat} {hs : List Nat} {M : Nat} (h1 : M ∈ (touched m).map fun r => hs.getD r 0 + 1) (h2 : ∀ x ∈ (touched m).map (fun r => hs.getD r 0 + 1), x ≤ M) : M = tallestH m hs + 1 := by
  obtain ⟨r, hr, rfl⟩ := List.mem_map.mp h1
  have h3 := tallest_ge (hs := hs) hr
  have h4 : tallestH m hs ≤ hs.getD r 0 := by
    refine foldl_max_le (Nat.zero_le _) fun x hx => ?_
    obtain ⟨r', hr', rfl⟩ := List.mem_map.mp hx
    have := h2 _ (List.mem_map_of_mem hr')
    omega
  omega
theorem touched_lt {m r : Nat} (h : r ∈ touched m) : r < 4 := List.mem_range.mp (List.mem_filter.mp h).1
theorem touched_iff {m r : Nat} (h : r < 4) : r ∈ touched m ↔ m.testBit r = true := by
  unfold touched
  rw [List.mem_filter, List.mem_range]
  exact ⟨fun q => q.2, fun q => ⟨h, q⟩⟩
theorem touched_pos {m : Nat} (h : 1 ≤ m) (h2 : m ≤ 15) : 1 ≤ (touched m).length ∧ (touched m).length ≤ 4 := by
  have : ∀ m, m < 16 → 1 ≤ m → 1 ≤ (touched m).length ∧ (touched m).length ≤ 4 := by decide
  exact this m (by omega) h
def growJ (m : Nat) (hs : List Nat) (j : Nat) : List Nat := (List.range 4).map fun r => if r ∈ (touched m).take j then tallestH m hs + 1 else hs.getD r 0
theorem growJ_zero (m : Nat) (hs : List Nat) (h : hs.length = 4) : growJ m hs 0 = hs := by
  obtain ⟨a, b, c, d, rfl⟩ : ∃ a b c d, hs = [a, b, c, d] := by
    match hs, h with
    | [a, b, c, d], _ => exact ⟨a, b, c, d, rfl⟩
  rfl
theorem growJ_all (m : Nat) (hs : List Nat) : growJ m hs (touched m).length = dropH m hs := by
  unfold growJ dropH
  apply List.map_congr_left
  intro r hr
  rw [List.take_length]
  have := touched_iff (m := m) (List.mem_range.mp hr)
  by_cases h : m.testBit r = true
  · rw [if_pos (this.mpr h), if_pos h]
  · rw [if_neg fun q => h (this.mp q), if_neg h]
theorem growJ_step (m : Nat) (hs : List Nat) (j : Nat) (h : j < (touched m).length) : (growJ m hs j).set ((touched m).getD j 0) (tallestH m hs + 1) = growJ m hs (j + 1) := by
  have hm : (touched m).getD j 0 ∈ touched m := getD_mem _ _ h
  have hlt := touched_lt hm
  apply List.ext_getElem?
  intro i
  unfold growJ
  rw [List.getElem?_set, List.length_map, List.length_range]
  have e2 : (touched m).take (j + 1) = (touched m).take j ++ [(touched m).getD j 0] := by
    rw [List.take_add_one, List.getElem?_eq_getElem h, List.getD_eq_getElem?_getD, List.getElem?_eq_getElem h]; rfl
  by_cases q : (touched m).getD j 0 = i
  · rw [if_pos q, if_pos (q ▸ hlt), List.getElem?_map, List.getElem?_range (q ▸ hlt)]
    simp only [Option.map_some]
    rw [if_pos (by rw [e2, ← q]; simp)]
  · rw [if_neg q, List.getElem?_map, List.getElem?_map]
    by_cases hi : i < 4
    · rw [List.getElem?_range hi]
      simp only [Option.map_some]
      congr 1
      have : (i ∈ (touched m).take (j + 1)) ↔ (i ∈ (touched m).take j) := by
        rw [e2, List.mem_append, List.mem_singleton]
        exact ⟨fun x => x.elim id fun y => absurd y.symm q, .inl⟩
      by_cases hx : i ∈ (touched m).take j
      · rw [if_pos hx, if_pos (this.mpr hx)]
      · rw [if_neg hx, if_neg fun y => hx (this.mp y)]
    · rw [List.getElem?_eq_none (by simp; omega)]; rfl
theorem num_ge {ls : List Nat} (h : ∀ x ∈ ls, 1 ≤ x) (hne : ls ≠ []) : 64 ^ (ls.length - 1) ≤ num ls := by
  induction ls with
  | nil => exact absurd rfl hne
  | cons x t ih =>
    show 64 ^ (t.length + 1 - 1) ≤ x + 64 * num t
    rw [Nat.add_sub_cancel]
    cases t with
    | nil => have := h x (.head _); show 1 ≤ x + 64 * num []; omega
    | cons y u =>
      have := ih (fun z hz => h z (.tail _ hz)) (by simp)
      rw [List.length_cons, Nat.add_sub_cancel] at this
      rw [List.length_cons, Nat.pow_succ]
      omega
theorem nDig_num {ls : List Nat} (h1 : ∀ x ∈ ls, 1 ≤ x) (h2 : ∀ x ∈ ls, x < 64) : nDig 6 (num ls) = ls.length := by
  by_cases hne : ls = []
  · subst hne; exact nDig_zero 6 (by decide)
  · have hlo := num_ge h1 hne
    have hhi := num_lt ls h2
    have hl : 1 ≤ ls.length := by
      cases ls with
      | nil => exact absurd rfl hne
      | cons _ _ => simp
    have b1 : Builtin.Int.intBits ((num ls : Nat) : Int) ≤ 6 * ls.length := intBits_lt (by rw [Nat.pow_mul]; exact hhi)
    have b2 : ¬ Builtin.Int.intBits ((num ls : Nat) : Int) ≤ 6 * (ls.length - 1) := fun q => by
      have := intBits_le_iff.mp q
      rw [Int.natAbs_natCast, Nat.pow_mul] at this
      exact absurd hlo (Nat.not_le.mpr this)
    unfold nDig
    omega
theorem digsN_num {ls : List Nat} (h2 : ∀ x ∈ ls, x < 64) : digsN 6 ls.length (num ls) = ls := by
  induction ls with
  | nil => rfl
  | cons x t ih =>
    have hx := h2 x (.head _)
    have := digsN_split 6 1 t.length (num (x :: t))
    have e1 : num (x :: t) % 2 ^ (6 * 1) = x := by show (x + 64 * num t) % 64 = x; omega
    have e2 : num (x :: t) / 2 ^ (6 * 1) = num t := by show (x + 64 * num t) / 64 = num t; omega
    rw [e1, e2, digsN_one 6 x hx, ih fun y hy => h2 y (.tail _ hy)] at this
    rw [List.length_cons, Nat.add_comm, this]; rfl
end Mine
end
section
open PySem PySem.W PyProof.Rows
open PySem.Builtin PySem.Builtin.Str
set_option Elab.async false
set_option maxRecDepth 100000
set_option maxHeartbeats 4000000
namespace Mine
def DropSpec (w : World) : Prop := ∀ (A : Around) (s : Shared) (Q E : Value → Shared → Prop) (ar am : Addr) (rv mv : List Value) (k : Nat) (hs ms ls : List Nat) (d : Nat) (tp td te : Tok) (e : Str),
  Room 10 A → Ready w s.heap → s.heap.IsTuple ar rv.toArray → StrsAre rv (hs.map fun h => dots (h + 1)) → s.heap.IsList am mv.toArray → IntsAre mv (ms.map fun (x : Nat) => (x : Int)) → masksOk ms → d < ms.length → k ≤ 4 → PileOk k hs ls → endOk e →
  (∀ a ar' s' rv' t', Kept s s' → s'.heap.IsTuple a #[.ref ar', .int (num (dropL (ms.getD d 0) d hs ls) : Nat) t'] → s'.heap.IsTuple ar' rv'.toArray → StrsAre rv' ((dropH (ms.getD d 0) hs).map fun h => dots (h + 1)) → s.heap.get? a = none → s.heap.get? ar' = none → Q (.ref a) s') →
  wpAny (model PW w) A (call (.ref 114) [.ref ar, .int (num ls : Nat) tp, .ref am, .int d td, .str e te]) Q E s
theorem split_small : ∀ k, k < 5 → ∀ n, n < 7 → (Txt.join crlf (List.replicate k (dots n))).length ≤ sizeLine ∧ (partsBetween (Txt.join crlf (List.replicate k (dots n))) (occurrences (Txt.join crlf (List.replicate k (dots n))) crlf 0 (Txt.join crlf (List.replicate k (dots n))).length ((Txt.join crlf (List.replicate k (dots n))).length + 1)) crlf.length).length ≤ sizeLine := by decide +kernel
theorem join_small : ∀ k, k < 5 → ∀ n, n < 7 → ∀ m, m < 3 → ((List.replicate k (dots n)).map (·.length)).sum + (List.replicate k (dots n)).length * m ≤ 16777216 := by decide +kernel
theorem strs_set {vs : List Value} {ys : List Str} (h : StrsAre vs ys) (i : Nat) (y : Str) (t : Tok) : StrsAre (vs.set i (.str y t)) (ys.set i y) := by
  induction h generalizing i with
  | nil => exact .nil
  | cons z u r ih =>
    cases i with
    | zero => exact .cons _ _ r
    | succ i => exact .cons _ _ (ih i)
theorem dropL_eq (M d : Nat) (hs ls : List Nat) (h : tallestH M hs ≤ ls.length) : dropL M d hs ls = (if tallestH M hs = ls.length then ls ++ [0] else ls).set (tallestH M hs) ((if tallestH M hs = ls.length then ls ++ [0] else ls).getD (tallestH M hs) 0 + 2 ^ d) := by
  unfold dropL
  split
  · rename_i q
    rw [q, List.set_append_right _ _ (Nat.le_refl _), Nat.sub_self]
    simp
  · rfl
theorem ints_drop1 {vs : List Value} {ns : List Int} (h : IntsAre vs ns) : IntsAre (vs.drop 1) (ns.drop 1) := by
  cases h with
  | nil => exact .nil
  | cons _ _ r => exact r
theorem St.callLose {r : Shared} {B : Addr → Option Obj} {L : Addr} {m : List (Str × Value)} {l : List (Addr × Desc)} {s s' : Shared} {it : Addr} {D : Desc} (S : St r B L m ((it, D) :: l) s) (k : KeptBut it s s') : St r B L m l s' where
  gens := k.gens.trans S.gens
  drawn := k.drawn.trans S.drawn
  os := k.os.trans S.os
  ns := let ⟨o, es, ep, e, q⟩ := S.ns; ⟨o, es, ep, k.keep _ _ (Ne.symm (S.own _ (.head _)).2.1) e, q⟩
  base := fun b o e => k.keep b o (fun q => by have := (S.own _ (.head _)).2.2; rw [← q] at this; rw [this] at e; cases e) (S.base b o e)
  nL := S.nL
  own := fun p hp => by
    obtain ⟨⟨o, ho, hd⟩, h1, h2⟩ := S.own p (.tail _ hp)
    exact ⟨⟨o, k.keep _ _ (fun q => by have := (List.nodup_cons.mp S.nd).1; exact this (by show it ∈ l.map (·.1); rw [← q]; exact List.mem_map_of_mem hp)) ho, hd⟩, h1, h2⟩
  nd := (List.nodup_cons.mp S.nd).2
theorem end_len {e : Str} (h : endOk e) : e.length < 3 := by rcases h with rfl | rfl | rfl <;> decide
theorem drop_walk (w : World) (QS : QuoteSpec w) : DropSpec w := by
  intro A s Q E ar am rv mv k hs ms ls d tp td te e RA TR hr hri hm hmi hmo hd hk PO he h
  have T := TR.1
  have TB : TopB w (fun b => s.heap.get? b) := topB_of T
  have hmv : mv.length = ms.length := by rw [ints_len hmi, List.length_map]
  have hml : ms.length ≤ 4 := by rcases hmo.1 with q | q <;> omega
  have hd4 : d < 4 := by omega
  have hM := hmo.2 _ (getD_mem ms d hd)
  generalize hMd : ms.getD d 0 = M at h hM
  have hrl : rv.length = 4 := by rw [hri.len_eq, List.length_map, PO.four]
  have hh : ∀ env, (A.deeper env).handled = none := fun env => RA.handled
  refine wpAny_call (enterTopC (o := hz.zo_131 w.params) (oc := hz.zo_130 w.params) (fd := fd_drop w.params) (c := 113) (binds := [(n_rows, .ref ar), (n_pile, .int (num ls : Nat) tp), (n_masks, .ref am), (n_deed, .int d td), (n_end, .str e te)]) (mL := [(n_end, .str e te), (n_pile, .int (num ls : Nat) tp)]) (fun b => s.heap.get? b) [] (fun _ _ e => e) (fun p hp => nomatch hp) List.nodup_nil TB RA.lt (by kernel_rfl) rfl (by kernel_rfl) rfl rfl rfl rfl rfl rfl rfl rfl (kinds_of (by kernel_rfl)) (fun L => lookup2 n_end n_pile _ _) (fun L => of_decide_eq_true (by kernel_rfl)) rfl rfl rfl (fun L s₁ S => ?_))
  have S : St s (fun b => s.heap.get? b) L [(n_end, .str e te), (n_pile, .int (num ls : Nat) tp)] [(L + 4, OCell none), (L + 3, OCell (some (.int d td))), (L + 2, OCell (some (.ref am))), (L + 1, OCell (some (.ref ar)))] s₁ := S
  have R9 : Room 9 (A.deeper (callEnvC (fd_drop w.params) L 114)) := RA.deeper _
  have hmS : ∀ {L m l s'}, St s (fun b => s.heap.get? b) L m l s' → s'.heap.IsList am mv.toArray := fun S => kept_list S.kept hm
  have hrS : ∀ {L m l s'}, St s (fun b => s.heap.get? b) L m l s' → s'.heap.IsTuple ar rv.toArray := fun S => kept_tuple S.kept hr
  -- touched
  refine wpAny_execs_cons (e_assignComp (cl := [(n_masks, L + 2), (n_deed, L + 3)]) rfl rfl rfl rfl (Call_ (g_range S TB (PyProof.Rows.callWith_type1 (args_cons (e_int S fun _ _ S => args_nil (c_range (n := 4) S fun _ _ S => c_iterRange S (by decide) fun it _ S => ?_)))))))
  refine comp_goA (iter_range (hh _) it 4) (fun j ys l' => l' = [(L + 4, OCell none), (L + 3, OCell (some (.int d td))), (L + 2, OCell (some (.ref am))), (L + 1, OCell (some (.ref ar)))] ∧ IntsAre ys (((List.range j).filter fun r => M.testBit r).map fun (y : Nat) => (y : Int)) ∧ ys.length ≤ j) S ⟨rfl, .nil, Nat.le_refl _⟩ (fun _ _ _ _ _ _ _ _ _ => trivial) (fun j ys l' hj hI => by rw [sizeLine_eq]; omega)
      (fun C acc j v ys mC l' s' hj hv hI S => ?_) (fun at' ys l' s' hI S => ?_)
  · obtain ⟨tj, rfl⟩ := hv
    obtain ⟨rfl, hi1, hi2⟩ := hI
    obtain ⟨tx, hx⟩ := ints_cast_getD hmi (k := d) hd
    rw [hMd] at hx
    refine wpAny_tests_one (isTrue_plain (wpAny_BinOp (wpAny_BinOp (Subscript_ (e_cell S (.tail _ (.tail _ (.tail _ (.tail _ (.tail _ (.head _)))))) (e_cell S (.tail _ (.tail _ (.tail _ (.tail _ (.head _))))) (t_item (hmS S) (by omega) (by omega) hx (e_loc S rfl (b_shr S (Int.natCast_nonneg _) fun _ _ S => ?_)))))))))
    rw [shr_nat]
    refine e_int S fun _ _ S => b_and_nat (b := 1) S fun _ _ S => truthy_int ?_
    rw [bit_test]
    cases hb : M.testBit j with
    | false =>
      rw [if_neg Bool.false_ne_true]
      refine ⟨_, _, S, rfl, ?_, by omega⟩
      rw [List.range_succ, List.filter_append]
      simpa [hb] using hi1
    | true =>
      rw [if_pos rfl]
      refine e_loc S rfl ⟨_, _, S, rfl, ?_, by rw [List.length_append, List.length_singleton]; omega⟩
      rw [List.range_succ, List.filter_append, List.map_append]
      refine ints_append hi1 ?_
      simp only [List.filter_cons, hb, if_true, List.filter_nil, List.map_cons, List.map_nil]
      exact .cons _ _ .nil
  obtain ⟨rfl, hti, _⟩ := hI
  have hti : IntsAre ys ((touched M).map fun (y : Nat) => (y : Int)) := hti
  have htl := touched_pos hM.1 hM.2
  have hyl : ys.length = (touched M).length := by rw [ints_len hti, List.length_map]
  -- tallest
  refine wpAny_execs_cons (wpAny_Assign_Name (Call_ (g_max S TB (PyProof.Rows.callWith_builtin1 (args_cons (e_comp (cl := [(n_rows, L + 1)]) rfl rfl rfl (e_loc S rfl (e_iterList S (S.list (.head _)) fun it2 _ S => ?_))))))))
  refine comp_go (iter_list (hh _) it2 at' ys) (fun j zs l' => l' = [(at', OList ys), (L + 4, OCell none), (L + 3, OCell (some (.int d td))), (L + 2, OCell (some (.ref am))), (L + 1, OCell (some (.ref ar)))] ∧ StrsAre zs ((((touched M).take j).map fun r => hs.getD r 0 + 1).map dots) ∧ zs.length ≤ j) S ⟨rfl, .nil, Nat.le_refl _⟩ (fun j C mC acc zs l' s' hI S => ?_) (fun j ys l' hj hI => by rw [sizeLine_eq]; omega)
      (fun C acc j v zs mC l' s' hj hv hI S => ?_) (fun ax zs l' s' hI S => ?_)
  · obtain ⟨rfl, _⟩ := hI
    exact S.list (.tail _ (.tail _ (.tail _ (.head _))))
  · obtain ⟨rfl, hi1, hi2⟩ := hI
    obtain ⟨n, tn, hn, rfl⟩ := ints_get hti hv
    rw [List.getElem?_map] at hn
    cases hq : (touched M)[j]? with
    | none => rw [hq] at hn; cases hn
    | some q =>
      rw [hq] at hn
      obtain rfl : n = (q : Int) := (Option.some.inj hn).symm
      have hq4 : q < 4 := touched_lt (List.mem_of_getElem? hq)
      obtain ⟨tx, hx⟩ := hri.at (j := q) (y := dots (hs.getD q 0 + 1)) (by rw [List.getElem?_map, List.getD_eq_getElem?_getD, List.getElem?_eq_getElem (by rw [PO.four]; exact hq4)]; rfl)
      refine wpAny_tests_nil ?_
      rw [if_pos rfl]
      refine Subscript_ (e_cell S (.tail _ (.tail _ (.tail _ (.tail _ (.tail _ (.tail _ (.tail _ (.head _)))))))) (e_loc S rfl (item_tupleL (j := q) (hrS S) (by omega) (by omega) (by rw [seqIndex_of (by omega) (by rw [hrl]; omega)]; rfl) hx ⟨_, _, S, rfl, ?_, by rw [List.length_append, List.length_singleton]; omega⟩)))
      rw [List.take_add_one, hq, List.map_append, List.map_append]
      exact strsAre_append hi1 (.cons _ _ .nil)
  obtain ⟨rfl, hz1, hz2⟩ := hI
  rw [hyl, List.take_length] at hz1
  refine args_nil (c_maxDots S (hh _) (S.list (.head _)) hz1 (by rw [List.length_map]; omega) fun X tX _ hX1 hX2 S => ?_)
  have hX := max_tall hX1 hX2
  subst hX
  have hTle : tallestH M hs ≤ ls.length := tallest_le PO.below
  have hll : ls.length ≤ 4 := Nat.le_trans PO.len hk
  generalize hTT : tallestH M hs = T' at S hTle
  refine e_storeCell S.drop1 1 rfl fun s₂ S => ?_
  have S : St s (fun b => s.heap.get? b) L [(n_touched, .ref at'), (n_end, .str e te), (n_pile, .int (num ls : Nat) tp)] [(at', OList ys), (L + 4, OCell (some (.str (dots (T' + 1)) tX))), (L + 3, OCell (some (.int d td))), (L + 2, OCell (some (.ref am))), (L + 1, OCell (some (.ref ar)))] s₂ := S
  -- sent
  refine wpAny_execs_cons (wpAny_Assign_Name (MethodCall_ (Call_ (g_quote S TB (PyProof.Rows.callWith_def (o := hz.zo_114 w.params) rfl (args_cons (MethodCall_ (e_loc S rfl (GM.join (callWith_method1 (args_cons (e_comp (cl := [(n_tallest, L + 4)]) rfl rfl rfl (e_loc S rfl (e_iterList S (S.list (.head _)) fun it3 _ S => ?_))))))))))))))
  refine comp_go (iter_list (hh _) it3 at' ys) (fun j zs l' => l' = [(at', OList ys), (L + 4, OCell (some (.str (dots (T' + 1)) tX))), (L + 3, OCell (some (.int d td))), (L + 2, OCell (some (.ref am))), (L + 1, OCell (some (.ref ar)))] ∧ StrsAre zs (List.replicate j (dots (T' + 1))) ∧ zs.length ≤ j) S ⟨rfl, .nil, Nat.le_refl _⟩ (fun j C mC acc zs l' s' hI S => ?_) (fun j ys l' hj hI => by rw [sizeLine_eq]; omega)
      (fun C acc j v zs mC l' s' hj hv hI S => ?_) (fun ax zs l' s' hI S => ?_)
  · obtain ⟨rfl, _⟩ := hI
    exact S.list (.tail _ (.tail _ (.tail _ (.head _))))
  · obtain ⟨rfl, hi1, hi2⟩ := hI
    refine wpAny_tests_nil ?_
    rw [if_pos rfl]
    refine e_cell S (.tail _ (.tail _ (.tail _ (.tail _ (.head _))))) ⟨_, _, S, rfl, ?_, by rw [List.length_append, List.length_singleton]; omega⟩
    rw [List.replicate_succ']
    exact strsAre_append hi1 (.cons _ _ .nil)
  obtain ⟨rfl, hz3, hz4⟩ := hI
  rw [hyl] at hz3
  generalize hK : (touched M).length = K at hz3 htl hyl
  refine args_nil (join_list (S.list (.head _)) hz3 (Nat.le_trans (Nat.add_le_add_left (Nat.mul_le_mul_left _ (Nat.le_refl _)) _) (join_small K (by omega) (T' + 1) (by omega) _ (end_len he))) fun tq kq => ?_)
  have S := S.toks kq
  have QT : TopH w _ := fun x o h1 h2 e => S.base _ _ (TB.here x o h1 h2 e)
  refine args_nil ⟨TB.get S (by decide) (by decide) (by kernel_rfl), ?_⟩
  refine QS _ _ _ _ T' K e tq (R9.le (by omega)) QT he htl.1 htl.2 (by omega) fun s₃ tr KQ => ?_
  have S := S.call KQ
  refine GM.split (callWith_method1 (args_cons (e_str S fun tc _ S => args_nil ?_)))
  obtain ⟨sp1, sp2⟩ := split_small K (by omega) (T' + 2) (by omega)
  refine c_split S rfl sp1 sp2 fun asn sv s₄ hsv S => ?_
  have hsv : StrsAre sv (Txt.split (Txt.join crlf (List.replicate K (dots (T' + 2)))) crlf) := hsv
  rw [split_dots K (by omega) htl.1 (T' + 2) (by omega) (by omega)] at hsv
  refine e_store S.drop2 fun s₅ S => ?_
  -- grown
  refine wpAny_execs_cons (wpAny_Assign_Name (Call_ (g_list S TB (PyProof.Rows.callWith_type1 (args_cons (e_cell S (.tail _ (.tail _ (.tail _ (.tail _ (.tail _ (.head _)))))) (args_nil ?_)))))))
  refine c_listT S (hrS S) (fun ag _ S => ?_) (by rw [hrl]; decide)
  refine e_store S fun s₆ S => ?_
  refine wpAny_execs_cons (wpAny_For (Call_ (g_range S TB (PyProof.Rows.callWith_type1 (args_cons (Call_ (g_len S TB (PyProof.Rows.callWith_builtin1 (args_cons (e_loc S rfl (args_nil ?_)))))))))))
  refine c_lenL S (S.list (.tail _ (.tail _ (.head _)))) (by omega) fun _ _ S => args_nil ?_
  rw [hyl]
  refine c_range S fun _ _ S => ?_
  refine c_iterRange S (by omega) fun it4 _ S => ?_
  refine for_go (iter_range (hh _) it4 K) (fun i B' m' l' => B' = (fun b => s.heap.get? b) ∧ m'.lookup n_touched = some (.ref at') ∧ m'.lookup n_sent = some (.ref asn) ∧ m'.lookup n_grown = some (.ref ag) ∧ m'.lookup n_pile = some (.int (num ls : Nat) tp) ∧ ∃ gv, l' = [(ag, OList gv), (asn, OList sv), (at', OList ys), (L + 4, OCell (some (.str (dots (T' + 1)) tX))), (L + 3, OCell (some (.int d td))), (L + 2, OCell (some (.ref am))), (L + 1, OCell (some (.ref ar)))] ∧ StrsAre gv ((growJ M hs i).map fun h => dots (h + 1)))
    S ⟨rfl, rfl, rfl, rfl, rfl, rv, rfl, by rw [growJ_zero _ _ PO.four]; exact hri⟩ (fun _ _ _ _ _ _ _ => trivial) (fun i v B' m' l' s' hi hv hI S => ?_) (fun B' m' l' s' hI S => ?_)
  · obtain ⟨t, rfl⟩ := hv
    obtain ⟨rfl, h1, h2, h3, h4, gv, rfl, h5⟩ := hI
    have hgl : gv.length = 4 := by rw [h5.len_eq, List.length_map]; simp [growJ]
    obtain ⟨tx, hx⟩ := ints_cast_getD hti (k := i) (by omega)
    obtain ⟨ty, hy⟩ := hsv.at (j := i) (y := dots (T' + 2)) (by rw [List.getElem?_replicate, if_pos hi])
    have ht4 : (touched M).getD i 0 < 4 := touched_lt (getD_mem _ _ (by omega))
    refine wpAny_assign_Name (e_store S fun _ S => ?_)
    refine wpAny_execs_cons (wpAny_Assign_Subscript (Subscript_ (e_loc S h2 (e_loc S rfl (t_item (S.list (.tail _ (.tail _ (.head _)))) (by omega) (by omega) hy (e_loc S h3 (Subscript_ (e_loc S h1 (e_loc S rfl (t_item (S.list (.tail _ (.tail _ (.tail _ (.head _))))) (by omega) (by omega) hx ?_))))))))))
    refine e_setList S 1 rfl (by omega) (by omega) (by omega) fun _ S => ?_
    refine wpAny_execs_nil ⟨_, _, _, S, rfl, h1, h2, h3, h4, _, rfl, ?_⟩
    have h6 := strs_set h5 ((touched M).getD i 0) (dots (T' + 1 + 1)) ty
    rw [← hTT, ← List.map_set (f := fun h => dots (h + 1)) , growJ_step M hs i (by omega), hTT] at h6
    exact h6
  obtain ⟨rfl, h1, h2, h3, h4, gv, rfl, h5⟩ := hI
  rw [← hK, growJ_all] at h5
  -- levels
  have hlv1 : ∀ x ∈ ls, 1 ≤ x := fun x hx => (PO.levels x hx).1
  have hlv2 : ∀ x ∈ ls, x < 64 := fun x hx => by have := (PO.levels x hx).2; omega
  have hnd := nDig_num hlv1 hlv2
  have hbits : Builtin.Int.intBits ((num ls : Nat) : Int) ≤ 6 * ls.length := intBits_lt (by rw [Nat.pow_mul]; exact num_lt ls hlv2)
  refine wpAny_execs_cons (wpAny_Assign_Name (Call_ (g_i2d S TB (PyProof.Rows.callWith_def (o := hz.zo_75 w.params) rfl (args_cons (e_loc S h4 (args_cons (e_int S fun _ _ S => args_nil ⟨TB.get S (by decide) (by decide) (by kernel_rfl), ?_⟩))))))))
  refine i2d_hit w (num ls) 6 3 (by decide) (by decide) (by rw [hnd]; omega) (by rw [hnd]; omega) (by omega) _ _ _ _ (R9.le (by omega)) _ _ (fun x o h1 h2 e => S.base _ _ (TB.here x o h1 h2 e)) (TR.2.1.keep S.base) fun s₇ al lv K₇ hl hi hal => ?_
  rw [hnd, digsN_num hlv2] at hi
  have S := S.addL (S.call K₇) hal hl
  refine e_store S fun s₈ S => ?_
  have hlvl : lv.length = ls.length := by rw [ints_len hi, List.length_map]
  -- height
  obtain ⟨ty, hy⟩ := hsv.at (j := 0) (y := dots (T' + 2)) (by rw [List.getElem?_replicate, if_pos (show 0 < K from htl.1)])
  refine wpAny_execs_cons (wpAny_Assign_Name (wpAny_BinOp (Call_ (g_len S TB (PyProof.Rows.callWith_builtin1 (args_cons (Subscript_ (e_loc S h2 (e_int S fun _ _ S => t_item (S.list (.tail _ (.tail _ (.head _)))) (by omega) (by omega) hy (args_nil ?_))))))))))
  have hdl : (dots (T' + 2)).length = T' + 2 := by simp [dots, Str.length]
  refine c_lenS S (by rw [hdl]; omega) fun _ _ S => e_int S fun _ _ S => b_sub S fun th _ S => ?_
  rw [hdl, show (((T' + 2 : Nat) : Int) - 2) = (T' : Int) by omega]
  refine e_store S fun s₉ S => ?_
  refine wpAny_execs_cons (wpAny_mono (Q := fun f s' => f = .next ∧ ∃ lv', St s (fun b => s.heap.get? b) L ((n_height, .int T' th) :: (n_levels, .ref al) :: m') [(al, OList lv'), (ag, OList gv), (asn, OList sv), (at', OList ys), (L + 4, OCell (some (.str (dots (T' + 1)) tX))), (L + 3, OCell (some (.int d td))), (L + 2, OCell (some (.ref am))), (L + 1, OCell (some (.ref ar)))] s' ∧ IntsAre lv' ((if T' = ls.length then ls ++ [0] else ls).map fun (y : Nat) => (y : Int))) ?_ ?_ fun _ _ q => q)
  · refine wpAny_If (wpAny_isTrue_Compare1 (e_loc S rfl (Call_ (g_len S TB (PyProof.Rows.callWith_builtin1 (args_cons (e_loc S rfl (args_nil (c_lenL S (S.list (.head _)) (by omega) fun _ _ S => c_eq (wpAny_truthy_bool ?_))))))))))
    rw [hlvl]
    by_cases hc : T' = ls.length
    · rw [show ((T' : Int) == (ls.length : Int)) = true from by rw [hc]; simp]
      simp only [if_true]
      refine wpAny_execs_cons (wpAny_Expr_any (MethodCall_ (e_loc S rfl (e_mAppend S (.head _) (callWith_method1 (args_cons (e_int S fun t0 _ S => args_nil (e_append S 0 rfl (fun _ S => ?_) (by rw [sizeLine_eq]; omega)))))))))
      refine wpAny_execs_nil ⟨rfl, _, S, ?_⟩
      rw [if_pos hc, List.map_append]
      exact ints_append hi (.cons _ _ .nil)
    · rw [show ((T' : Int) == (ls.length : Int)) = false from by simp; omega]
      simp only [Bool.false_eq_true, if_false]
      refine wpAny_execs_nil ⟨rfl, _, S, ?_⟩
      rw [if_neg hc]
      exact hi
  rintro f s₁₀ ⟨rfl, lv', S, hi'⟩
  have hdropL := dropL_eq M d hs ls (by omega)
  rw [hTT] at hdropL
  generalize hl0 : (if T' = ls.length then ls ++ [0] else ls) = l0 at hi' hdropL
  have hl0l : T' < l0.length ∧ l0.length ≤ 5 := by rw [← hl0]; split <;> (try rw [List.length_append, List.length_singleton]) <;> omega
  have hlv'l : lv'.length = l0.length := by rw [ints_len hi', List.length_map]
  obtain ⟨tl, hx⟩ := ints_cast_getD hi' (k := T') hl0l.1
  refine wpAny_execs_cons (wpAny_AugAssign_SubscriptAny (e_loc S rfl (e_loc S rfl (g_item (S.list (.head _)) (by omega) (by omega) hx (wpAny_BinOp (e_int S fun _ _ S => e_cell S (.tail _ (.tail _ (.tail _ (.tail _ (.tail _ (.head _)))))) (b_pow S (by omega) (by omega) (by decide) fun _ _ S => i_add S fun tn _ S => ?_)))))))
  rw [show ((l0.getD T' 0 : Nat) : Int) + 2 ^ ((d : Int).toNat) = ((l0.getD T' 0 + 2 ^ d : Nat) : Int) by rw [Int.toNat_natCast]; simp]
  refine e_setList S 0 rfl (by omega) (by omega) (by omega) fun s₁₁ S => ?_
  have hi2 := ints_set hi' T' ((l0.getD T' 0 + 2 ^ d : Nat) : Int) tn
  rw [← List.map_set (f := fun (y : Nat) => (y : Int)), ← hdropL] at hi2
  have S : St s (fun b => s.heap.get? b) L ((n_height, .int T' th) :: (n_levels, .ref al) :: m') [(al, OList (lv'.set T' (.int ((l0.getD T' 0 + 2 ^ d : Nat) : Int) tn))), (ag, OList gv), (asn, OList sv), (at', OList ys), (L + 4, OCell (some (.str (dots (T' + 1)) tX))), (L + 3, OCell (some (.int d td))), (L + 2, OCell (some (.ref am))), (L + 1, OCell (some (.ref ar)))] s₁₁ := S
  generalize hw' : lv'.set T' (.int ((l0.getD T' 0 + 2 ^ d : Nat) : Int) tn) = wv at S hi2
  have PO2 : PileOk (k + 1) (dropH M hs) (dropL M d hs ls) := pileOk_step PO hd4
  have hLl : (dropL M d hs ls).length = l0.length := by rw [hdropL, List.length_set]
  generalize hLL : dropL M d hs ls = L2 at h hi2 PO2 hLl
  have hwl : wv.length = L2.length := by rw [ints_len hi2, List.length_map]
  -- tape
  refine wpAny_execs_cons (wpAny_Assign_Name (wpAny_BinOp (e_comp (cl := []) rfl rfl rfl (wpAny_Subscript_Slice_step slot_list_getitem.lookup (e_loc S rfl (e_sliceRev0 S fun _ _ sl _ S => ⟨(S.list (.tail _ (.head _))).typeIs, ?_⟩))))))
  refine g_slice S (S.list (.tail _ (.head _))) .none (.int _ _) (.int _ _) (by decide) (by rw [sizeLine_eq]; omega) fun asl _ S => ?_
  rw [pick_rev0] at S
  have hi3 := ints_reverse (ints_drop1 hi2)
  rw [← List.map_drop, ← List.map_reverse] at hi3
  have h1l : 1 ≤ L2.length := by omega
  obtain ⟨t00, hx0⟩ := ints_cast_getD hi2 (k := 0) (by omega)
  generalize hrv : (wv.drop 1).reverse = rvv at S hi3
  have hrvl : rvv.length = (L2.drop 1).reverse.length := by rw [ints_len hi3, List.length_map]
  have hrl2 : (L2.drop 1).reverse.length ≤ 5 := by rw [List.length_reverse, List.length_drop]; omega
  refine e_iterList S (S.list (.head _)) fun it5 s₁₂ S => ?_
  have S : St s (fun b => s.heap.get? b) L ((n_height, .int T' th) :: (n_levels, .ref al) :: m') [(it5, OListIter asl 0), (asl, OList rvv), (al, OList wv), (ag, OList gv), (asn, OList sv), (at', OList ys), (L + 4, OCell (some (.str (dots (T' + 1)) tX))), (L + 3, OCell (some (.int d td))), (L + 2, OCell (some (.ref am))), (L + 1, OCell (some (.ref ar)))] s₁₂ := S
  refine comp_go (iter_list (hh _) it5 asl rvv) (fun j zs l' => l' = [(asl, OList rvv), (al, OList wv), (ag, OList gv), (asn, OList sv), (at', OList ys), (L + 4, OCell (some (.str (dots (T' + 1)) tX))), (L + 3, OCell (some (.int d td))), (L + 2, OCell (some (.ref am))), (L + 1, OCell (some (.ref ar)))] ∧ IntsAre zs (((((L2.drop 1).reverse.take j).map (64 + ·)).map fun (y : Nat) => (y : Int))) ∧ zs.length ≤ j) S ⟨rfl, .nil, Nat.le_refl _⟩ (fun j C mC acc zs l' s' hI S => ?_) (fun j ys l' hj hI => by rw [sizeLine_eq]; omega)
      (fun C acc j v zs mC l' s' hj hv hI S => ?_) (fun ax zs l' s' hI S => ?_)
  · obtain ⟨rfl, _⟩ := hI
    exact S.list (.tail _ (.tail _ (.tail _ (.head _))))
  · obtain ⟨rfl, hi1, hi4⟩ := hI
    obtain ⟨n, tn, hn, rfl⟩ := ints_get hi3 hv
    rw [List.getElem?_map] at hn
    cases hq : (L2.drop 1).reverse[j]? with
    | none => rw [hq] at hn; cases hn
    | some q =>
      rw [hq] at hn
      obtain rfl : n = (q : Int) := (Option.some.inj hn).symm
      refine wpAny_tests_nil ?_
      rw [if_pos rfl]
      refine wpAny_BinOp (e_int S fun _ _ S => e_loc S rfl (b_add S fun tz _ S => ⟨_, _, S, rfl, ?_, by rw [List.length_append, List.length_singleton]; omega⟩))
      rw [List.take_add_one, hq, List.map_append, List.map_append, show (64 : Int) + (q : Int) = ((64 + q : Nat) : Int) by omega]
      exact ints_append hi1 (.cons _ _ .nil)
  obtain ⟨rfl, hz5, hz6⟩ := hI
  rw [hrvl, List.take_length] at hz5
  refine List_ (args_cons (Subscript_ (e_loc S rfl (e_int S fun _ _ S => t_item (S.list (.tail _ (.tail _ (.head _)))) (by omega) (by omega) hx0 (args_nil (e_newList S (fun a0 _ S => ?_) (by simp [sizeLine_eq])))))))
  refine b_addL S (S.list (.tail _ (.head _))) (S.list (.head _)) (fun ata _ S => ?_) (by rw [List.length_singleton, sizeLine_eq]; omega)
  refine e_store S.drop2.drop2 fun s₁₃ S => ?_
  have hti2 : IntsAre (zs ++ [.int (L2.getD 0 0 : Nat) t00]) ((tapeOf L2).map fun (x : Nat) => (x : Int)) := by
    unfold tapeOf
    rw [List.map_append]
    exact ints_append hz5 (.cons _ _ .nil)
  generalize hzz : zs ++ [.int (L2.getD 0 0 : Nat) t00] = tv at S hti2
  -- return
  have htvl : gv.length = 4 := by rw [h5.len_eq, List.length_map]; simp [dropH]
  refine wpAny_execs_cons (wpAny_Return_some (Tuple_ (args_cons (Call_ (g_tuple S TB (PyProof.Rows.callWith_type1 (args_cons (e_loc S h3 (args_nil ?_)))))))))
  refine c_tuple S (S.list (.tail _ (.tail _ (.tail _ (.head _))))) (fun atu _ S => ?_) (by rw [htvl]; decide)
  refine args_cons (Call_ (g_varint S TB (PyProof.Rows.callWith_def (o := hz.zo_103 w.params) rfl (args_cons (Call_ (g_iter S TB (PyProof.Rows.callWith_builtin1 (args_cons (e_loc S rfl (args_nil ?_))))))))))
  refine c_iter S (S.list (.tail _ (.head _))) fun it6 s₁₄ S => ?_
  refine args_nil ⟨TB.get S (by decide) (by decide) (by kernel_rfl), ?_⟩
  refine varint_walk w _ s₁₄ _ _ it6 ata tv L2 (R9.le (by omega)) (fun x o h1 h2 e => S.base _ _ (TB.here x o h1 h2 e)) (S.get (.head _)) (fun a o h1 h2 e => S.neB (.head _) (TB.here a o h1 h2 e)) (S.list (.tail _ (.tail _ (.head _)))) hti2 h1l (by omega) (fun x hx => by have := (PO2.levels x hx).2; omega) fun s₁₅ tr K => ?_
  have S := S.callLose K
  refine args_nil (e_newTuple S (fun atr s₁₆ S => ?_) (by simp [sizeLine_eq]))
  exact h atr atu s₁₆ gv tr S.kept (S.tuple (.head _)) (S.tuple (.tail _ (.head _))) h5 (S.own _ (.head _)).2.2 (S.own _ (.tail _ (.head _))).2.2
end Mine
end
section
open PySem PySem.W PyProof.Rows
set_option Elab.async false
set_option maxRecDepth 100000
set_option maxHeartbeats 4000000
namespace Mine
abbrev nRows : Str := ⟨⟨[114, 111, 119, 115]⟩⟩
abbrev nPile : Str := ⟨⟨[112, 105, 108, 101]⟩⟩
abbrev nMasks : Str := ⟨⟨[109, 97, 115, 107, 115]⟩⟩
abbrev nEnd : Str := ⟨⟨[101, 110, 100]⟩⟩
abbrev nWord : Str := ⟨⟨[119, 111, 114, 100]⟩⟩

theorem piled (w : World) (H : DropSpec w) (A : Around) (s : Shared) (Q E : Value → Shared → Prop) (aw am : Addr) (wv mv : List Value) (ms : List Nat) (ws : List Nat) (te : Tok) (e : Str)
    (RA : Room 11 A) (TR : Ready w s.heap) (hw : s.heap.IsList aw wv.toArray) (hwi : IntsAre wv (ws.map fun (d : Nat) => (d : Int))) (hm : s.heap.IsList am mv.toArray) (hmi : IntsAre mv (ms.map fun (x : Nat) => (x : Int))) (hmo : masksOk ms) (hwd : ∀ d ∈ ws, d < ms.length) (hwl : ws.length ≤ 5) (he : endOk e)
    (h : ∀ s' t', Kept s s' → Q (.int (num (pileRun ms ws).2 : Nat) t') s') :
    wpAny (model PW w) A (call (.ref 128) [.ref aw, .ref am, .str e te]) Q E s := by
  have T := TR.1
  refine wpAny_call (enterTop (o := hz.zo_145 w.params) (oc := hz.zo_144 w.params) (fd := fd_piled w.params) (c := 127) (binds := [(nWord, .ref aw), (nMasks, .ref am), (nEnd, .str e te)]) T RA.lt (by kernel_rfl) rfl (by kernel_rfl) rfl rfl rfl rfl rfl rfl rfl (by kernel_rfl) (by kernel_rfl) rfl rfl rfl (fun L s₁ S TB => ?_))
  have RD : Room 10 (A.deeper (callEnv (fd_piled w.params) L 128)) := RA.deeper _
  refine wpAny_execs_cons (wpAny_Assign_Name (Tuple_ (args_cons (e_str S fun t1 _ S => args_cons (e_str S fun t2 _ S => args_cons (e_str S fun t3 _ S => args_cons (e_str S fun t4 _ S => args_nil (e_newTuple S fun a1 _ S => e_store S fun _ S => ?_)))))))) 
  refine wpAny_execs_cons (wpAny_Assign_Name (e_int S fun _ _ S => e_store S fun _ S => ?_))
  have hwS : ∀ {L m l s'}, St s (fun b => s.heap.get? b) L m l s' → s'.heap.IsList aw wv.toArray := fun S => by obtain ⟨o, ho, q⟩ := hw; exact ⟨o, S.base _ _ ho, q⟩
  refine wpAny_execs_cons (wpAny_For (e_loc S rfl (e_iterList S (hwS S) fun it s2 S => ?_)))
  have hlen : wv.length = ws.length := by rw [ints_len hwi]; simp
  refine for_list (its := wv) (P := fun i m' l' => m'.lookup nWord = some (.ref aw) ∧ m'.lookup nMasks = some (.ref am) ∧ m'.lookup nEnd = some (.str e te) ∧
      ∃ ar rv t, m'.lookup nRows = some (.ref ar) ∧ m'.lookup nPile = some (.int (num (pileRun ms (ws.take i)).2 : Nat) t) ∧ l' = [(ar, OTuple rv)] ∧ StrsAre rv ((pileRun ms (ws.take i)).1.map fun h => dots (h + 1))) RD.handled S
    ⟨rfl, rfl, rfl, _, _, _, rfl, rfl, rfl, strs_start t1 t2 t3 t4⟩ (fun i m' l' s' _ S' => ?_) (fun i v m' l' s' hv hP S' => ?_) (fun m' l' s' hP S' => ?_)
  · exact hwS S'
  · obtain ⟨h1, h2, h3, ar, rv, t, h4, h5, rfl, h6⟩ := hP
    obtain ⟨n, tn, hn, rfl⟩ := ints_get hwi hv
    rw [List.getElem?_map] at hn
    cases hd : ws[i]? with
    | none => rw [hd] at hn; cases hn
    | some d =>
      rw [hd] at hn
      cases hn
      have hi : i < ws.length := (List.getElem?_eq_some_iff.mp hd).1
      have hdm : d ∈ ws := List.mem_of_getElem? hd
      have etake : ws.take (i + 1) = ws.take i ++ [d] := by rw [List.take_add_one, hd]; rfl
      have PO := pileOk_run ms hmo (ws.take i) (fun x hx => hwd x (List.mem_of_mem_take hx))
      refine wpAny_execs_cons (Assign_Tuple (Call_ (g_drop S' TB (callWith_def (o := hz.zo_131 w.params) rfl (args_cons (e_loc S' h4 (args_cons (e_loc S' h5 (args_cons (e_loc S' h2 (args_cons (e_loc S' rfl (args_cons (e_loc S' h3 (args_nil ⟨TB.get S' (by decide) (by decide) (by kernel_rfl), ?_⟩)))))))))))))))
      refine H _ s' _ _ ar am rv mv (ws.take i).length _ ms _ d t tn te e RD (TR.keep S'.base) ?_ h6 ?_ hmi hmo (hwd d hdm) ?_ PO he ?_
      · exact S'.tuple (.tail _ (.head _))
      · obtain ⟨o, ho, q⟩ := hm; exact ⟨o, S'.base _ _ ho, q⟩
      · rw [List.length_take]; omega
      · intro a ar' s3 rv' t' K ha har hrv na nar
        refine e_unpack2 (S'.addT (S'.call K) nar har).swap.drop3 RD.handled ha fun s4 S4 => ?_
        refine wpAny_execs_nil ⟨_, _, S4, h1, h2, h3, ar', rv', t', rfl, ?_, rfl, ?_⟩
        · rw [etake, pileRun_snoc]; rfl
        · rw [etake, pileRun_snoc]; exact hrv
  · obtain ⟨h1, h2, h3, ar, rv, t, h4, h5, rfl, h6⟩ := hP
    refine wpAny_execs_cons (wpAny_Return_some (e_loc S' h5 ?_))
    rw [hlen, List.take_length]
    exact h _ _ S'.kept
end Mine
end
section
open PySem PySem.W PyProof.Rows
set_option Elab.async false
set_option maxRecDepth 100000
set_option maxHeartbeats 4000000
namespace Mine
theorem plainAttrs_pat : PlainAttrs "re.Pattern" :=
  ⟨⟨"object.__getattribute__", by rw [typeLookup_type, builtinLookup_eq_fast]; kernel_rfl, by decide +kernel⟩, by rw [typeLookup_type, builtinLookup_eq_fast]; kernel_rfl⟩
theorem slot_pat_sub : Slot "re.Pattern" "sub" "re.Pattern.sub" :=
  .of (owner := "re.Pattern") (n := "sub") (by rw [typeLookup_type, builtinLookup_eq_fast]; kernel_rfl) (by decide +kernel) (by decide +kernel) (by decide +kernel)
    (by first | exact .inl (by decide +kernel) | exact .inr (by decide +kernel)) (by rw [isSubtype_type]; kernel_rfl)
theorem type_pat_sub : typeOf (.builtin "re.Pattern.sub") = pure (.type "method_descriptor") := by show builtinType _ = _; rw [builtinType_eq_fast]; kernel_rfl
theorem entry_pat_sub : entryFor table "re.Pattern.sub" = some Builtin.«re.Pattern.sub» := entryFor_of_tree (by kernel_rfl)
theorem entry_pat_loop : entryFor table "re.Pattern.sub.loop" = some Builtin.«re.Pattern.sub.loop» := entryFor_of_tree (by kernel_rfl)
theorem plain_pat_loop : plainId "re.Pattern.sub.loop" = true := by decide +kernel
theorem owner_pat : Manifest.owners.lookup (String.ofList ['n', 'r', 'e', 't', 't', 'a', 'P', '.', 'e', 'r'].reverse) = some Manifest.sig_re_Pattern := by kernel_rfl
theorem args_pat_sub (a b c : Value) : argsOk "re.Pattern.sub" ⟨[a, b, c], []⟩ := by
  unfold argsOk; rw [signature?_of (id := "re.Pattern.sub") (n := ['b', 'u', 's']) (o := ['n', 'r', 'e', 't', 't', 'a', 'P', '.', 'e', 'r']) (by kernel_rfl) owner_pat]; kernel_rfl
end Mine
end
section
open PySem PySem.W PyProof.Rows
open PySem.Builtin PySem.Builtin.Re
set_option Elab.async false
set_option maxRecDepth 100000
set_option maxHeartbeats 4000000
namespace Mine
def driveN : Nat → Sre.M → Option Sre.M
  | 0, _ => none
  | n + 1, m => if (m.runFor 4).outcome.isSome then some (m.runFor 4) else driveN n (m.runFor 4)
section
variable {M : Model} {A : Around} {E : Value → Shared → Prop} {s : Shared}
theorem w_drive : ∀ (n turns : Nat) (m m' : Sre.M) {Q : Sre.M → Shared → Prop}, n ≤ turns → driveN n m = some m' → Q m' s → wpAny M A (reDrive turns m) Q E s := by
  intro n
  induction n with
  | zero => intro turns m m' Q _ h _; cases h
  | succ n ih =>
    intro turns m m' Q hn h hq
    obtain ⟨t, rfl⟩ : ∃ t, turns = t + 1 := ⟨turns - 1, by omega⟩
    unfold driveN at h
    show wpAny M A (if (m.runFor 4).outcome.isSome then pure (m.runFor 4) else do rule "sre.turn"; reDrive t (m.runFor 4)) Q E s
    split at h
    · rename_i hs
      rw [if_pos hs]
      cases h
      exact wpAny_pure hq
    · rename_i hs
      rw [if_neg hs]
      exact wpAny_bind (wpAny_rule (ih t _ m' (by omega) h hq))
theorem w_rules (c : Nat → Bool) (tg : Nat → String) {Q : PUnit → Shared → Prop} (h : Q PUnit.unit s) : ∀ l : List Nat, wpAny M A (forIn l PUnit.unit fun i _ => if c i = true then do rule (tg i); pure (ForInStep.yield PUnit.unit) else pure (ForInStep.yield PUnit.unit)) Q E s := by
  intro l
  induction l with
  | nil => exact wpAny_pure h
  | cons x t ih =>
    rw [List.forIn_cons]
    refine wpAny_bind ?_
    split
    · exact wpAny_bind (wpAny_rule (wpAny_pure ih))
    · exact wpAny_pure ih
theorem w_runToEnd {n : Nat} {m m' : Sre.M} {Q : Option Sre.M → Shared → Prop} (hn : n ≤ 1000) (hd : driveN n m = some m') (h : (m'.outcome = some .matched ∧ Q (some m') s) ∨ (m'.outcome = some .failed ∧ Q none s)) : wpAny M A (reRunToEnd m) Q E s := by
  unfold reRunToEnd
  refine wpAny_bind (w_drive n (2 ^ 64) m m' (Nat.le_trans hn (by decide)) hd ?_)
  refine wpAny_bind (w_rules (fun i => m'.seen.has i) (fun i => Sre.names.getD i "") ?_ _)
  rcases h with ⟨e, q⟩ | ⟨e, q⟩
  · rw [e]; exact wpAny_pure q
  · rw [e]; exact wpAny_pure q
end
end Mine
end
section
open PySem PySem.W PyProof.Rows
open PySem.Builtin PySem.Builtin.Re
set_option Elab.async false
set_option maxRecDepth 100000
set_option maxHeartbeats 4000000
namespace Mine
def isMatched (m : Sre.M) : Bool := match m.outcome with
  | some .matched => true
  | _ => false
def isFailed (m : Sre.M) : Bool := match m.outcome with
  | some .failed => true
  | _ => false
/-- what sub gathers -/
def subGo (code text : Array Nat) (repl : Str) : Nat → Nat → Nat → Bool → Option (List Str)
  | 0, _, _, _ => none
  | fuel + 1, done, start, must => match driveN 100 (Sre.forSearch code text 0 start text.size must) with
    | none => none
    | some m =>
      if isMatched m then (subGo code text repl fuel m.handed m.handed (m.handed == m.start)).map fun rest => (if done < m.start then [⟨text.extract done m.start⟩] else []) ++ repl :: rest
      else if isFailed m then some (if done < text.size then [⟨text.extract done text.size⟩] else [])
      else none
def PatOk (h : Heap) (P : Addr) (code : List Nat) : Prop := ∃ o c oc p0 v1 v3 v4 n, h.get? P = some o ∧ o.cls = .type "re.Pattern" ∧ o.dict = none ∧ o.data = .fields #[p0, v1, .int 0 0, v3, v4, .ref c, .int 0 0] ∧ h.get? c = some oc ∧ oc.cls = .type "tuple" ∧ oc.data = .seq (code.map fun (k : Nat) => Value.int k 0).toArray n
theorem PatOk.keep {h h' : Heap} {P : Addr} {code : List Nat} (x : PatOk h P code) (a : Addr) (ha : ∃ vs, h.PlainList a vs) (hk : ∀ b o, b ≠ a → h.get? b = some o → h'.get? b = some o) : PatOk h' P code := by
  obtain ⟨o, c, oc, p0, v1, v3, v4, n, e1, e2, e3, e4, e5, e6, e7⟩ := x
  obtain ⟨vs, k, el⟩ := ha
  have h1 : P ≠ a := fun q => by rw [q, el] at e1; cases e1; exact absurd (Value.type.inj e2) (by decide)
  have h2 : c ≠ a := fun q => by rw [q, el] at e5; cases e5; exact absurd (Value.type.inj e6) (by decide)
  exact ⟨o, c, oc, p0, v1, v3, v4, n, hk _ _ h1 e1, e2, e3, e4, hk _ _ h2 e5, e6, e7⟩
theorem codes_nat (code : List Nat) : Array.map (fun (x : Int) => x.toNat) (Array.map reRawOf (code.map fun (k : Nat) => Value.int k 0).toArray) = code.toArray := by
  rw [List.map_toArray, List.map_toArray, List.map_map, List.map_map]
  congr 1
  exact (List.map_congr_left fun k _ => rfl).trans (List.map_id code)
theorem w_whole {M : Model} {A : Around} {E : Value → Shared → Prop} {s : Shared} {P : Addr} {code : List Nat} {x : Str} {tx : Tok} {Q : ReTarget → Shared → Prop} (PO : PatOk s.heap P code)
    (hq : Q { pattern := .ref P, string := .str x tx, code := code.toArray, text := x.cps, kind := 0, groups := 0, pos := 0, lim := x.cps.size } s) : wpAny M A (reWholeTarget (.ref P) (.str x tx)) Q E s := by
  obtain ⟨o, c, oc, p0, v1, v3, v4, n, e1, e2, e3, e4, e5, e6, e7⟩ := PO
  unfold reWholeTarget
  refine wpAny_bind ?_
  show wpAny _ _ (load P >>= _) _ _ _
  refine wpAny_bind (wpAny_load e1 ?_)
  rw [e4]
  refine wpAny_pure ?_
  refine wpAny_bind (wpAny_bind (wpAny_pure (wpAny_pure ?_)))
  show wpAny _ _ (reNoCollectionInside (.str x tx) 0 >>= _) _ _ _
  refine wpAny_bind (wpAny_pure ?_)
  refine wpAny_bind ?_
  unfold reRawItems
  refine wpAny_bind ?_
  show wpAny _ _ (load c >>= _) _ _ _
  refine wpAny_bind (wpAny_load e5 ?_)
  rw [e7]
  refine wpAny_pure (wpAny_pure (wpAny_pure ?_))
  show Q { pattern := .ref P, string := .str x tx, code := Array.map (fun (x : Int) => x.toNat) (Array.map reRawOf (code.map fun (k : Nat) => Value.int k 0).toArray), text := x.cps, kind := 0, groups := 0, pos := 0, lim := x.cps.size } s
  rw [codes_nat]
  exact hq
theorem KeptBut.trans {P : Addr} {s s' s'' : Shared} (a : KeptBut P s s') (b : KeptBut P s' s'') : KeptBut P s s'' := ⟨b.gens.trans a.gens, b.drawn.trans a.drawn, b.os.trans a.os, fun x o hx e => b.keep x o hx (a.keep x o hx e)⟩
theorem w_push {M : Model} {A : Around} {E : Value → Shared → Prop} {s : Shared} {a : Addr} {pv : List Value} {v : Value} {Q : Unit → Shared → Prop} (hl : s.heap.PlainList a pv.toArray) (hz : pv.length ≤ 10000)
    (h : ∀ s', KeptBut a s s' → s'.heap.PlainList a (pv ++ [v]).toArray → Q () s') : wpAny M A (updateSeq a fun x => x.push v) Q E s := by
  obtain ⟨n, e⟩ := hl
  have e2 : ∃ n', Obj.mapSeq (fun x => x.push v) { cls := .type "list", dict := none, data := .seq pv.toArray n, slots := #[] } = { cls := .type "list", dict := none, data := .seq (pv ++ [v]).toArray n', slots := #[] } := by
    simp [Obj.mapSeq]
  obtain ⟨n', en⟩ := e2
  have e3 := Heap.get?_update_self (h := s.heap) (a := a) (Obj.mapSeq fun x => x.push v) e (by rw [en]; rfl)
  rw [en] at e3
  exact wpAny_updateSeq e rfl (h _ ⟨rfl, rfl, rfl, fun b o hb eb => ((Heap.SameBut.update ..).2 b hb).trans eb⟩ ⟨n', e3⟩) (by rw [sizeLine_eq]; simp; omega) (by rw [sizeLine_eq]; simp; omega)
theorem sub_loop (w : World) (P : Addr) (code : List Nat) (x rp : Str) (tx tr : Tok) (hx : x.length ≤ sizeLine) (E : Value → Shared → Prop) :
    ∀ (fuel : Nat) (A : Around) (s : Shared) (Q : Value → Shared → Prop) (a : Addr) (n done start : Nat) (must : Bool) (pv : List Value) (pcs out : List Str), subGo code.toArray x.cps rp fuel done start must = some out →
      PatOk s.heap P code → s.heap.PlainList a pv.toArray → StrsAre pv pcs → ((pcs ++ out).map (·.length)).sum ≤ 1000 → pcs ++ out ≠ [] → (pcs ++ out).length ≤ 1000 → (∀ s' t', KeptBut a s s' → Q (.str (Txt.join ⟨#[]⟩ (pcs ++ out)) t') s') →
      codeAny (model PW w) A (.builtin "re.Pattern.sub.loop" ⟨[.ref P, .str x tx, .str rp tr, rawInt 0, rawInt 0, rawInt n, rawInt done, rawInt start, .bool must, .ref a, .bool false], []⟩) (wants Q E) s := by
  intro fuel
  induction fuel with
  | zero => intro A s Q a n done start must pv pcs out h; cases h
  | succ fuel ih =>
    intro A s Q a n done start must pv pcs out hgo PO hl hs hsum hne hlen hq
    refine codeAny_builtin entry_pat_loop ?_
    unfold Builtin.«re.Pattern.sub.loop»
    show wpAny _ _ (reWholeTarget _ _ >>= _) _ _ _
    refine wpAny_bind (w_whole PO ?_)
    show wpAny _ _ (reLiteralCannotBeTurned _ >>= _) _ _ _
    refine wpAny_bind (wpAny_bind (wpAny_pure (wpAny_pure ?_)))
    show wpAny _ _ (reNextFound _ _ _ >>= _) _ _ _
    unfold subGo at hgo
    cases hd : driveN 100 (Sre.forSearch code.toArray x.cps 0 start x.cps.size must) with
    | none => rw [hd] at hgo; cases hgo
    | some m =>
      rw [hd] at hgo
      have hd' := hd
      obtain ⟨h, g, d, tk, os⟩ := s
      by_cases hm : isMatched m
      · simp only [hm, if_true] at hgo
        refine wpAny_bind (w_runToEnd (n := 100) (m' := m) (by decide) hd' (.inl ⟨?_, ?_⟩))
        · unfold isMatched at hm
          split at hm
          · assumption
          · cases hm
        simp only [Int.toNat_natCast]
        have push2 : ∀ (s₁ : Shared) (pv' : List Value) (pcs' : List Str), KeptBut a ⟨h, g, d, tk, os⟩ s₁ → s₁.heap.PlainList a pv'.toArray → StrsAre pv' pcs' → pcs' = pcs ++ (if done < m.start then [⟨x.cps.extract done m.start⟩] else []) → 
          wpAny (model PW w) (A.under (.builtin "re.Pattern.sub.loop" ⟨[.ref P, .str x tx, .str rp tr, rawInt 0, rawInt 0, rawInt n, rawInt done, rawInt start, .bool must, .ref a, .bool false], []⟩)) (do
            updateSeq a fun x => x.push (.str rp tr)
            again (.builtin "re.Pattern.sub.loop" ⟨[.ref P, .str x tx, .str rp tr, rawInt 0, rawInt 0, rawInt (n + 1), rawInt m.handed, rawInt m.handed, .bool (m.handed == m.start), .ref a, .bool false], []⟩))
            (fun fin s' => match fin with | .done f => wants Q E (.ok f) s' | .again c' => c'.quiet = true ∧ codeAny (model PW w) A c' (wants Q E) s') (fun e s' => wants Q E (.error e) s') s₁ := by
          intro s₁ pv' pcs' K hl' hs' e
          refine wpAny_bind (w_push hl' (by rw [hs'.len_eq, e, List.length_append]; rw [List.length_append] at hlen; split <;> simp <;> omega) fun s₂ K₂ hl₂ => wpAny_pure ⟨plainId_quiet plain_pat_loop _, ?_⟩)
          cases hr : subGo code.toArray x.cps rp fuel m.handed m.handed (m.handed == m.start) with
          | none => rw [hr] at hgo; cases hgo
          | some rest =>
            rw [hr] at hgo
            have eo : out = (if done < m.start then [⟨x.cps.extract done m.start⟩] else []) ++ rp :: rest := (Option.some.inj hgo).symm
            have e3 : pcs ++ out = (pcs' ++ [rp]) ++ rest := by rw [eo, e]; simp
            rw [e3] at hsum hne hlen hq
            exact ih A s₂ Q a (n + 1) m.handed m.handed _ (pv' ++ [.str rp tr]) (pcs' ++ [rp]) rest hr (PO.keep a ⟨_, hl⟩ (K.trans K₂).keep) hl₂ (strsAre_append hs' (.cons _ _ .nil)) hsum hne hlen fun s' t' K3 => hq s' t' ((K.trans K₂).trans K3)
        refine wpAny_ite_split (fun hc => ?_) (fun hc => ?_)
        · have hr : subGo code.toArray x.cps rp fuel m.handed m.handed (m.handed == m.start) ≠ none := fun q => by rw [q] at hgo; cases hgo
          refine wpAny_bind ?_
          show wpAny _ _ (mkStr ⟨x.cps.extract done m.start⟩) _ _ _
          refine wpAny_mkStr ?_ (by show (x.cps.extract done m.start).size ≤ _; have : x.cps.size ≤ sizeLine := hx; rw [Array.size_extract]; omega)
          refine wpAny_bind (w_push hl (by rw [hs.len_eq]; rw [List.length_append] at hlen; omega) fun s₂ K₂ hl₂ => ?_)
          exact push2 _ (pv ++ [_]) (pcs ++ [⟨x.cps.extract done m.start⟩]) ⟨K₂.gens, K₂.drawn, K₂.os, K₂.keep⟩ hl₂ (strsAre_append hs (.cons _ _ .nil)) (by rw [if_pos hc])
        · exact push2 _ pv pcs ⟨rfl, rfl, rfl, fun _ _ _ e => e⟩ hl hs (by rw [if_neg hc, List.append_nil])
      · simp only [hm, if_false, Bool.false_eq_true] at hgo
        by_cases hf : isFailed m
        · simp only [hf, if_true] at hgo
          refine wpAny_bind (w_runToEnd (n := 100) (m' := m) (by decide) hd' (.inr ⟨?_, ?_⟩))
          · unfold isFailed at hf
            split at hf
            · assumption
            · cases hf
          have eo := (Option.some.inj hgo).symm
          simp only [Int.toNat_natCast]
          have joinIt : ∀ (s₁ : Shared) (pv' : List Value), KeptBut a ⟨h, g, d, tk, os⟩ s₁ → s₁.heap.PlainList a pv'.toArray → StrsAre pv' (pcs ++ out) →
            wpAny (model PW w) (A.under (.builtin "re.Pattern.sub.loop" ⟨[.ref P, .str x tx, .str rp tr, rawInt 0, rawInt 0, rawInt n, rawInt done, rawInt start, .bool must, .ref a, .bool false], []⟩)) (do
              let joiner ← reSlice x.cps 0 0 0
              let text ← if ((← seqItems? (.ref a)).getD #[]).isEmpty then pure joiner else call (.builtin (if 0 == 0 then "str.join" else "bytes.join")) [joiner, .ref a]
              if false = true then ret (← holding [text] do newTuple [text, ← mkInt n]) else ret text)
              (fun fin s' => match fin with | .done f => wants Q E (.ok f) s' | .again c' => c'.quiet = true ∧ codeAny (model PW w) A c' (wants Q E) s') (fun e s' => wants Q E (.error e) s') s₁ := by
            intro s₁ pv' K hl' hs'
            obtain ⟨nl, el⟩ := id hl'
            refine wpAny_bind ?_
            show wpAny _ _ (mkStr ⟨x.cps.extract 0 0⟩) _ _ _
            refine wpAny_mkStr ?_ (by show (x.cps.extract 0 0).size ≤ _; rw [Array.size_extract]; omega)
            have e0 : x.cps.extract 0 0 = #[] := Array.extract_zero
            rw [e0]
            refine wpAny_bind ?_
            show wpAny _ _ (load a >>= _) _ _ _
            refine wpAny_bind (wpAny_load el (wpAny_pure ?_))
            have hpe : (pv'.toArray).isEmpty = false := by
              cases pv' with
              | nil => have := hs'.len_eq; rw [List.length_nil] at this; exact absurd (List.length_eq_zero_iff.mp this.symm) hne
              | cons _ _ => rfl
            refine wpAny_ite_split (fun hc => absurd (hpe.symm.trans hc) Bool.false_ne_true) fun _ => ?_
            refine wpAny_bind (join_list (x := ⟨#[]⟩) hl'.isList hs' (Nat.le_trans (Nat.add_le_add hsum (Nat.le_refl _)) (by show 1000 + (pcs ++ out).length * 0 ≤ _; omega)) fun t' k => ?_)
            exact wpAny_pure (hq _ t' ⟨K.gens, K.drawn, K.os, K.keep⟩)
          refine wpAny_ite_split (fun hc => ?_) (fun hc => ?_)
          · refine wpAny_bind ?_
            show wpAny _ _ (mkStr ⟨x.cps.extract done x.cps.size⟩) _ _ _
            refine wpAny_mkStr ?_ (by show (x.cps.extract done x.cps.size).size ≤ _; have : x.cps.size ≤ sizeLine := hx; rw [Array.size_extract]; omega)
            refine wpAny_bind (w_push hl (by rw [hs.len_eq]; rw [List.length_append] at hlen; omega) fun s₂ K₂ hl₂ => ?_)
            exact joinIt _ (pv ++ [_]) ⟨K₂.gens, K₂.drawn, K₂.os, K₂.keep⟩ hl₂ (by rw [eo, if_pos hc]; exact strsAre_append hs (.cons _ _ .nil))
          · exact joinIt _ pv ⟨rfl, rfl, rfl, fun _ _ _ e => e⟩ hl (by rw [eo, if_neg hc, List.append_nil]; exact hs)
        · simp only [hf, if_false, Bool.false_eq_true] at hgo
          cases hgo
end Mine
end
section
open PySem PySem.W PyProof.Rows
open PySem.Builtin PySem.Builtin.Re
set_option Elab.async false
set_option maxRecDepth 100000
set_option maxHeartbeats 4000000
namespace Mine
theorem str_nocall : typeLookup (.type "str") "__call__" = pure none := by rw [typeLookup_type, builtinLookup_eq_fast]; kernel_rfl
theorem pat_sub (w : World) (A : Around) (s : Shared) (Q E : Value → Shared → Prop) (P : Addr) (code : List Nat) (x rp : Str) (tx tr : Tok) (out : List Str) (fuel : Nat)
    (PO : PatOk s.heap P code) (hx : x.length ≤ sizeLine) (hrp : rp.cps.contains 92 = false) (hgo : subGo code.toArray x.cps rp fuel 0 0 false = some out) (hsum : (out.map (·.length)).sum ≤ 1000) (hne : out ≠ []) (hlen : out.length ≤ 1000)
    (h : ∀ s' t', Kept s s' → Q (.str (Txt.join ⟨#[]⟩ out) t') s') : wpAny (model PW w) A (call (.builtin "re.Pattern.sub") [.ref P, .str rp tr, .str x tx]) Q E s := by
  have PO' := PO
  obtain ⟨o, c, oc, p0, v1, v3, v4, n, e1, e2, e3, e4, e5, e6, e7⟩ := PO'
  have hT : s.TypeIs (.ref P) "re.Pattern" := ⟨o, e1, e2⟩
  refine wpAny_call (codeAny_call_builtin slot_pat_sub.plain entry_pat_sub (slot_pat_sub.check _ _ _ _ _ _ _ _ hT (args_pat_sub _ _ _) ?_))
  unfold Builtin.«re.Pattern.sub» reSubstitute
  refine wpAny_bind (m := reNamed _ _ _ _ _ _) (wpAny_of_eq (a := [some (.str rp tr), some (.str x tx), none]) (by first | rfl | kernel_rfl) ?_)
  show wpAny _ _ ((pure (0 : Int)) >>= _) _ _ _
  refine wpAny_bind (wpAny_pure ?_)
  show wpAny _ _ (specialOf (.str rp tr) "__call__" >>= _) _ _ _
  refine wpAny_bind (wpAny_specialOf (typeIs_str _ _ _) str_nocall ?_)
  refine wpAny_ite_split (fun q => nomatch q) fun _ => ?_
  refine wpAny_bind (wpAny_pure ?_)
  refine wpAny_bind (wpAny_pure ?_)
  refine wpAny_ite_split (fun q => nomatch q) fun _ => ?_
  refine wpAny_ite_split (fun _ => ?_) (fun q => absurd (by rw [hrp]; rfl) q)
  refine wpAny_bind (wpAny_pure ?_)
  refine wpAny_bind (wpAny_holding (w_whole PO ?_))
  refine wpAny_ite_split (fun q => nomatch q) fun _ => ?_
  refine wpAny_bind ?_
  refine wpAny_newObj_type (wpAny_pure ⟨plainId_quiet plain_pat_loop _, ?_⟩)
  have keep : ∀ b o, s.heap.get? b = some o → (s.heap.push { cls := .type "list", data := .seq ([] : List Value).toArray }).get? b = some o := fun b o e => Heap.get?_push_of_some _ e
  refine sub_loop w P code x rp tx tr hx E fuel A _ Q s.heap.objs.size 0 0 0 false [] [] out hgo ⟨o, c, oc, p0, v1, v3, v4, n, keep _ _ e1, e2, e3, e4, keep _ _ e5, e6, e7⟩ ⟨0, Heap.get?_push_size _ rfl⟩ .nil hsum hne hlen fun s' t' K => ?_
  exact h s' t' ⟨K.gens, K.drawn, K.os, fun b o e => K.keep b o (Nat.ne_of_lt (Heap.lt_size e)) (keep b o e)⟩
def code1 : List Nat := [14, 4, 0, 1, 1, 6, 1, 16, 46, 1]
def code2 : List Nat := [14, 9, 4, 1, 2, 16, 10, 16, 13, 0, 7, 7, 16, 13, 16, 10, 15, 18, 5, 16, 10, 15, 13, 11, 16, 13, 5, 5, 0, 16, 10, 1, 15, 2, 0, 1]
theorem pat1_ok {w : World} {h : Heap} (T : TopH w h) : PatOk h 85 code1 := ⟨_, 84, _, _, _, _, _, _, T 85 (hz.zo_105 w.params) (by decide) (by decide) (by kernel_rfl), rfl, rfl, rfl, T 84 (hz.zo_104 w.params) (by decide) (by decide) (by kernel_rfl), rfl, rfl⟩
theorem pat2_ok {w : World} {h : Heap} (T : TopH w h) : PatOk h 90 code2 := ⟨_, 89, _, _, _, _, _, _, T 90 (hz.zo_107 w.params) (by decide) (by decide) (by kernel_rfl), rfl, rfl, rfl, T 89 (hz.zo_106 w.params) (by decide) (by decide) (by kernel_rfl), rfl, rfl⟩
def dd : Str := ⟨⟨[46, 46]⟩⟩
def subOk (code : List Nat) (rp x y : Str) : Bool := match subGo code.toArray x.cps rp 20 0 0 false with
  | some out => decide ((out.map (·.length)).sum ≤ 1000) && !out.isEmpty && decide (out.length ≤ 1000) && (Txt.join ⟨#[]⟩ out == y)
  | none => false
def ends3 : List Str := [⟨⟨[10]⟩⟩, ⟨⟨[13]⟩⟩, ⟨⟨[13, 10]⟩⟩]
def subEnd (e : Str) : Bool := (List.range 5).all fun k => (List.range 5).all fun n => (k == 0) || (subOk code2 crlf (Txt.join e (List.replicate k (dots (n + 1)))) (Txt.join crlf (List.replicate k (dots (n + 1)))) && subOk code1 dd (Txt.join crlf (List.replicate k (dots (n + 1)))) (Txt.join crlf (List.replicate k (dots (n + 2)))))
theorem sub_lf : subEnd ⟨⟨[10]⟩⟩ = true := by decide +kernel
theorem sub_cr : subEnd ⟨⟨[13]⟩⟩ = true := by decide +kernel
theorem sub_crlf : subEnd ⟨⟨[13, 10]⟩⟩ = true := by decide +kernel
theorem sub_all : (ends3.all fun e => (List.range 5).all fun k => (List.range 5).all fun n => (k == 0) || (subOk code2 crlf (Txt.join e (List.replicate k (dots (n + 1)))) (Txt.join crlf (List.replicate k (dots (n + 1)))) && subOk code1 dd (Txt.join crlf (List.replicate k (dots (n + 1)))) (Txt.join crlf (List.replicate k (dots (n + 2)))))) = true := by
  show (ends3.all subEnd) = true
  rw [ends3, List.all_cons, List.all_cons, List.all_cons, List.all_nil, sub_lf, sub_cr, sub_crlf]; rfl
end Mine
end
section
open PySem PySem.W PyProof.Rows
open PySem.Builtin PySem.Builtin.Re
set_option Elab.async false
set_option maxRecDepth 100000
set_option maxHeartbeats 4000000
namespace Mine
theorem subOk_out {code : List Nat} {rp x y : Str} (h : subOk code rp x y = true) : ∃ out, subGo code.toArray x.cps rp 20 0 0 false = some out ∧ (out.map (·.length)).sum ≤ 1000 ∧ out ≠ [] ∧ out.length ≤ 1000 ∧ Txt.join ⟨#[]⟩ out = y := by
  unfold subOk at h
  split at h
  · rename_i out e
    simp only [Bool.and_eq_true, decide_eq_true_eq, beq_iff_eq, Bool.not_eq_true', List.isEmpty_eq_false_iff] at h
    exact ⟨out, e, h.1.1.1, h.1.1.2, h.1.2, h.2⟩
  · cases h
theorem sub_each {e : Str} (he : endOk e) {k n : Nat} (h1 : 1 ≤ k) (h2 : k ≤ 4) (h3 : n ≤ 4) : subOk code2 crlf (Txt.join e (List.replicate k (dots (n + 1)))) (Txt.join crlf (List.replicate k (dots (n + 1)))) = true ∧ subOk code1 dd (Txt.join crlf (List.replicate k (dots (n + 1)))) (Txt.join crlf (List.replicate k (dots (n + 2)))) = true := by
  have he' : e ∈ ends3 := by rcases he with rfl | rfl | rfl <;> simp [ends3]
  have := List.all_eq_true.mp (List.all_eq_true.mp (List.all_eq_true.mp sub_all e he') k (List.mem_range.mpr (by omega))) n (List.mem_range.mpr (by omega))
  rw [show (k == 0) = false from beq_eq_false_iff_ne.mpr (by omega), Bool.false_or, Bool.and_eq_true] at this
  exact this
theorem joinLen : (ends3.all fun e => (List.range 5).all fun k => (List.range 5).all fun n => decide ((Txt.join e (List.replicate k (dots (n + 1)))).length ≤ sizeLine)) = true := by decide +kernel
theorem join_len {e : Str} (he : endOk e) {k n : Nat} (h2 : k ≤ 4) (h3 : n ≤ 4) : (Txt.join e (List.replicate k (dots (n + 1)))).length ≤ sizeLine := by
  have he' : e ∈ ends3 := by rcases he with rfl | rfl | rfl <;> simp [ends3]
  have := List.all_eq_true.mp (List.all_eq_true.mp (List.all_eq_true.mp joinLen e he') k (List.mem_range.mpr (by omega))) n (List.mem_range.mpr (by omega))
  exact of_decide_eq_true this
section
variable {r : Shared} {B : Addr → Option Obj} {L : Addr} {m : List (Str × Value)} {l : List (Addr × Desc)} {s : Shared} {w : World} {A : Around} {E : Value → Shared → Prop} {env : Env} {pos : Pos} {Q : Value → Shared → Prop}
theorem g_re1 (S : St r B L m l s) (T : TopB w B) (h : Q (.ref 85) s)
    (hk : env.scope.kind = .function := by rfl) (hl : env.kindOf (Str.mk ⟨[95, 116, 119, 105, 110, 95, 114, 101, 95, 49]⟩) = some .globalImplicit := by rfl) (hg : env.globals = 3 := by rfl) :
    wpAny (model PW w) A (eval (.Name (Str.mk ⟨[95, 116, 119, 105, 110, 95, 114, 101, 95, 49]⟩) pos) env) Q E s := e_glob S T (by kernel_rfl) h hk hl hg (by decide)
theorem g_re2 (S : St r B L m l s) (T : TopB w B) (h : Q (.ref 90) s)
    (hk : env.scope.kind = .function := by rfl) (hl : env.kindOf (Str.mk ⟨[95, 116, 119, 105, 110, 95, 114, 101, 95, 50]⟩) = some .globalImplicit := by rfl) (hg : env.globals = 3 := by rfl) :
    wpAny (model PW w) A (eval (.Name (Str.mk ⟨[95, 116, 119, 105, 110, 95, 114, 101, 95, 50]⟩) pos) env) Q E s := e_glob S T (by kernel_rfl) h hk hl hg (by decide)
theorem g_crlf (S : St r B L m l s) (T : TopB w B) (h : Q (.str crlf 435) s)
    (hk : env.scope.kind = .function := by rfl) (hl : env.kindOf (Str.mk ⟨[67, 82, 76, 70]⟩) = some .globalImplicit := by rfl) (hg : env.globals = 3 := by rfl) :
    wpAny (model PW w) A (eval (.Name (Str.mk ⟨[67, 82, 76, 70]⟩) pos) env) Q E s := e_glob S T (by kernel_rfl) h hk hl hg (by decide)
theorem m_sub {P : Addr} {code : List Nat} {pl : Sem Bool} {Q : Value × List Value → Shared → Prop} (PO : PatOk s.heap P code) (h : Q (.builtin "re.Pattern.sub", [.ref P]) s) : wpAny (model PW w) A (getMethod (.ref P) "sub" pl) Q E s := by
  obtain ⟨o, c, oc, p0, v1, v3, v4, n, e1, e2, e3, e4, e5, e6, e7⟩ := PO
  exact getMethod_builtin ⟨o, e1, e2⟩ plainAttrs_pat slot_pat_sub type_pat_sub (fun a q => by cases q; exact ⟨o, e1, e3⟩) h
end
theorem quote_walk (w : World) : QuoteSpec w := by
  intro A s Q E h k e t RA T he h1 h2 h3 hq
  obtain ⟨q1, q2⟩ := sub_each he h1 h2 h3
  obtain ⟨o1, a1, a2, a3, a4, a5⟩ := subOk_out q1
  obtain ⟨o2, b1, b2, b3, b4, b5⟩ := subOk_out q2
  refine wpAny_call (enterTop (o := hz.zo_114 w.params) (oc := hz.zo_113 w.params) (fd := fd_quote w.params) (c := 96) (binds := [(⟨⟨[100, 97, 116, 97]⟩⟩, .str (Txt.join e (List.replicate k (dots (h + 1)))) t)]) T RA.lt (by kernel_rfl) rfl (by kernel_rfl) rfl rfl rfl rfl rfl rfl rfl (by kernel_rfl) (by kernel_rfl) rfl rfl rfl (fun L s₁ S TB => ?_))
  refine wpAny_execs_cons (wpAny_Return_some (MethodCall_ (g_re1 S TB (m_sub (pat1_ok (T.keep S.kept)) (callWith_method1 (args_cons (e_str S fun _ _ S => args_cons (MethodCall_ (g_re2 S TB (m_sub (pat2_ok (T.keep S.kept)) (callWith_method1 (args_cons (g_crlf S TB (args_cons (e_loc S rfl (args_nil ?_))))))))))))))))
  refine pat_sub w _ _ _ _ 90 code2 _ crlf _ _ o1 20 (pat2_ok (T.keep S.kept)) (join_len he h2 h3) (by decide +kernel) a1 a2 a3 a4 fun s₂ t₂ K₂ => args_nil ?_
  have S := S.call K₂
  rw [a5]
  refine pat_sub w _ _ _ _ 85 code1 _ dd _ _ o2 20 (pat1_ok (T.keep S.kept)) (join_len (.inr (.inr rfl)) h2 h3) (by decide +kernel) b1 b2 b3 b4 fun s₃ t₃ K₃ => ?_
  have S := S.call K₃
  rw [b5]
  exact hq _ _ S.kept
theorem drop_spec (w : World) : DropSpec w := drop_walk w (quote_walk w)
end Mine
end
section
open PySem PySem.W PyProof.Rows
set_option Elab.async false
set_option maxRecDepth 100000
set_option maxHeartbeats 4000000
namespace Mine
abbrev IK (w : World) := PySem.intKind PW w
def ODict (w : World) (kvs : List (Int × Value)) : Desc := fun o => o.IsDictOf (IK w) kvs
def OItemsView (d : Addr) : Desc := fun o => o.cls = .type "dict_items" ∧ o.data = .fields #[.ref d]
def OItemIter (d : Addr) (n ep i : Nat) : Desc := fun o => ∃ ok ov, o = { cls := .type "dict_itemiterator", dict := none, data := .fields #[.none, .bool false, .ref d, .int i 0, .int n 0, .int ep 0, ok, ov], slots := #[] }
theorem isInt_key {k : Int} {key : Value} (h : Value.isInt k key = true) : ∃ t, key = .int k t := by
  cases key with
  | int j t => exact ⟨t, by rw [show j = k from beq_iff_eq.mp h]⟩
  | _ => cases h
section
variable {r : Shared} {B : Addr → Option Obj} {L : Addr} {m : List (Str × Value)} {l : List (Addr × Desc)} {s s' : Shared}
variable {w : World} {A : Around} {E : Value → Shared → Prop} {env : Env}
theorem St.dictOf {d : Addr} {kvs : List (Int × Value)} (S : St r B L m l s) (h : (d, ODict w kvs) ∈ l) : s.heap.DictOf (IK w) d kvs := Heap.dictOf_iff.mpr (S.get h)
/-- an own thing settled: it is of the base from now on -/
theorem St.settle {a : Addr} {D : Desc} (S : St r B L m ((a, D) :: l) s) : ∃ o, D o ∧ B a = none ∧ s.heap.get? a = some o ∧ St r (fun b => if b = a then some o else B b) L m l s := by
  obtain ⟨⟨o, e, d⟩, h1, h2⟩ := S.own _ (.head _)
  refine ⟨o, d, h2, e, S.gens, S.drawn, S.os, S.ns, fun b o' e' => ?_, ?_, fun p hp => ?_, (List.nodup_cons.mp S.nd).2⟩
  · split at e'
    · rename_i q
      cases e'; rw [q]; exact e
    · exact S.base b o' e'
  · show (if L = a then some o else B L) = none
    rw [if_neg (Ne.symm h1), S.nL]
  · obtain ⟨q1, q2, q3⟩ := S.own p (.tail _ hp)
    refine ⟨q1, q2, ?_⟩
    show (if p.1 = a then some o else B p.1) = none
    rw [if_neg (fun q => (List.nodup_cons.mp S.nd).1 (by show a ∈ l.map (·.1); rw [← q]; exact List.mem_map_of_mem hp)), q3]
def ExtB (B B' : Addr → Option Obj) : Prop := ∀ b o, B b = some o → B' b = some o
theorem ExtB.refl (B : Addr → Option Obj) : ExtB B B := fun _ _ e => e
theorem ExtB.trans {B B' B'' : Addr → Option Obj} (x : ExtB B B') (y : ExtB B' B'') : ExtB B B'' := fun b o e => y b o (x b o e)
theorem ExtB.put {B : Addr → Option Obj} {a : Addr} {o : Obj} (h : B a = none) : ExtB B (fun b => if b = a then some o else B b) := fun b o' e => by
  show (if b = a then some o else B b) = some o'
  rw [if_neg (fun q => by rw [q, h] at e; cases e)]; exact e
theorem TopB.ext {B B' : Addr → Option Obj} (T : TopB w B) (x : ExtB B B') : TopB w B' := ⟨fun a o h1 h2 e => x a o (T.here a o h1 h2 e)⟩
theorem St.keptX (S : St r B L m l s) (h : ∀ b o, r.heap.get? b = some o → B b = some o) : Kept r s := ⟨S.gens, S.drawn, S.os, fun b o e => S.base b o (h b o e)⟩
theorem e_setDict {d : Addr} {kvs : List (Int × Value)} {k : Int} {t : Tok} {v : Value} {Q : Unit → Shared → Prop} (S : St r B L m l s) (i : Nat) (hi : l[i]? = some (d, ODict w kvs)) (hsz : kvs.length ≤ sizeLine)
    (h : ∀ s', St r B L m (l.set i (d, ODict w (stored kvs k v))) s' → Q () s') : wpAny (model PW w) A (setItem (.ref d) (.int k t) v) Q E s := by
  refine wpAny_setItem_pairs (knd := IK w) (hsz := hsz) (intKind_is _ _ k t) (S.dictOf (List.mem_of_getElem? hi)) fun h' hmm hs => ?_
  obtain ⟨o', ho', hd'⟩ := Heap.dictOf_iff.mp hmm
  exact h _ (S.change (s' := { s with heap := h', toks := s.toks + 1 }) i hi rfl rfl rfl (fun b o hb e => (hs.2 b hb).trans e) ho' hd')
theorem newDictOf (w : World) : ODict w [] { cls := .type "dict", data := .dict #[] } := by
  obtain ⟨o, ho, hd⟩ := Heap.dictOf_iff.mp (Heap.DictOf.new (knd := IK w) (default : Heap))
  rw [Heap.get?_push_size _ rfl] at ho
  cases ho
  exact hd
theorem e_dict0 {pos : Pos} {Q : Value → Shared → Prop} (S : St r B L m l s) (h : ∀ d s', St r B L m ((d, ODict w []) :: l) s' → Q (.ref d) s') : wpAny (model PW w) A (eval (.Dict [] [] pos) env) Q E s :=
  wpAny_Dict_empty (h _ _ (S.alloc (o := { cls := .type "dict", data := .dict #[] }) rfl (newDictOf w)))
theorem e_dict1 {ke ve : PySem.Expr} {pos : Pos} {Q : Value → Shared → Prop} (S : St r B L m l s)
    (h : ∀ d s', St r B L m ((d, ODict w []) :: l) s' → wpAny (model PW w) A (eval ke env) (fun kv s₁ => wpAny (model PW w) A (eval ve env) (fun vv s₂ => ∃ (k : Int) (t : Tok), kv = .int k t ∧ ∃ B' m' l', St r B' L m' ((d, ODict w []) :: l') s₂ ∧ ∀ s₃, St r B' L m' ((d, ODict w [(k, vv)]) :: l') s₃ → Q (.ref d) s₃) (fun _ _ => False) s₁) (fun _ _ => False) s') :
    wpAny (model PW w) A (eval (.Dict [some ke] [ve] pos) env) Q E s := by
  refine wpAny_Dict_pairs (knd := IK w) (pairs := [(eval ke env, do let x ← eval ve env; standAt pos; pure x)]) rfl (by simp) (by simp) (evalPairs_cons ?_)
  have S₁ := S.alloc (o := { cls := .type "dict", data := .dict #[] }) rfl (newDictOf w)
  refine w_noE (wpAny_mono (h _ _ S₁) (fun kv s₁ h₁ => ?_) fun _ _ q => q)
  refine wpAny_bind (w_noE (wpAny_mono h₁ (fun vv s₂ h₂ => ?_) fun _ _ q => q))
  refine wpAny_bind (wpAny_standAt (wpAny_pure (evalPairs_nil ?_)))
  obtain ⟨k, t, rfl, B', m', l', S₂, h₃⟩ := h₂
  refine ⟨[(k, vv)], ⟨intKind_is _ _ k t, rfl, trivial⟩, S₂.dictOf (.head _), fun h' hm hs => ?_⟩
  obtain ⟨o', ho', hd'⟩ := Heap.dictOf_iff.mp hm
  exact h₃ _ (S₂.change (s' := { s₂ with heap := h', toks := _ }) 0 rfl rfl rfl rfl (fun b o hb e => (hs.2 b hb).trans e) ho' hd')
theorem e_dict1' {t : Sem Value} {ke ve : PySem.Expr} {pos : Pos} {Q : Value → Shared → Prop} (ht : eval (.Dict [some ke] [ve] pos) env = t) (S : St r B L m l s)
    (h : ∀ d s', St r B L m ((d, ODict w []) :: l) s' → wpAny (model PW w) A (eval ke env) (fun kv s₁ => wpAny (model PW w) A (eval ve env) (fun vv s₂ => ∃ (k : Int) (t : Tok), kv = .int k t ∧ ∃ B' m' l', St r B' L m' ((d, ODict w []) :: l') s₂ ∧ ∀ s₃, St r B' L m' ((d, ODict w [(k, vv)]) :: l') s₃ → Q (.ref d) s₃) (fun _ _ => False) s₁) (fun _ _ => False) s') :
    wpAny (model PW w) A t Q E s := by
  rw [← ht]
  exact e_dict1 S h
theorem m_items {d : Addr} {kvs : List (Int × Value)} {pl : Sem Bool} {Q : Value × List Value → Shared → Prop} (hd : s.heap.DictOf (IK w) d kvs) (h : Q (.builtin "dict.items", [.ref d]) s) : wpAny (model PW w) A (getMethod (.ref d) "items" pl) Q E s :=
  getMethod_builtin hd.typeIs F.plainAttrs_dict F.slot_dict_items F.type_dict_items hd.mapOf.noDict h
theorem c_items {d : Addr} {kvs : List (Int × Value)} {Q : Value → Shared → Prop} (S : St r B L m l s) (hd : s.heap.DictOf (IK w) d kvs) (lo : (d == sysModules) = false) (h : ∀ v s', St r B L m ((v, OItemsView d) :: l) s' → Q (.ref v) s') :
    wpAny (model PW w) A (call (.builtin "dict.items") [.ref d]) Q E s :=
  call_meetsIn F.slot_dict_items hd.typeIs F.entry_dict_items (F.args_dict_items_1 _) (meets_dict_items (IK w) d lo) ⟨⟨kvs, hd⟩, h _ _ (S.alloc (o := { cls := .type "dict_items", data := .fields #[.ref d] }) rfl ⟨rfl, rfl⟩)⟩
theorem e_iterItems {v d : Addr} {kvs : List (Int × Value)} {ep : Nat} {Q : Value → Shared → Prop} (S : St r B L m ((v, OItemsView d) :: l) s) (hd : s.heap.DictAt (IK w) d kvs ep) (h : ∀ it s', St r B L m ((it, OItemIter d kvs.length ep 0) :: l) s' → Q (.ref it) s') :
    wpAny (model PW w) A (pyIter (.ref v)) Q E s :=
  wpAny_pyIter_items (knd := IK w) (S.get (.head _)) hd (h _ _ ((S.drop1).alloc (o := { cls := .type "dict_itemiterator", data := .fields #[.none, .bool false, .ref d, .int 0 0, .int kvs.length 0, .int ep 0, .none, .none] }) rfl ⟨_, _, rfl⟩))
theorem c_lenD {d : Addr} {kvs : List (Int × Value)} {Q : Value → Shared → Prop} (S : St r B L m l s) (hd : s.heap.DictOf (IK w) d kvs) (lo : (d == sysModules) = false) (hn : kvs.length ≤ 1000) (h : ∀ t s', St r B L m l s' → Q (.int kvs.length t) s') :
    wpAny (model PW w) A (call (.builtin "len") [.ref d]) Q E s := call_len_dict lo hd (by omega) (h _ _ (S.toks _))
theorem for_items {R : Result → Shared → Prop} {x y : Str} {px py pt : Pos} {kk : Nat} {body : List Stmt} {it d : Addr} {kvs : List (Int × Value)} {ep : Nat} (hh : A.handled = none)
    (I : Nat → (Addr → Option Obj) → List (Str × Value) → List (Addr × Desc) → Prop)
    (S : St r B env.locals m ((it, OItemIter d kvs.length ep 0) :: l) s) (start : I 0 B m l)
    (hG : ∀ i B m l s, I i B m l → St r B env.locals m ((it, OItemIter d kvs.length ep i) :: l) s → s.heap.DictAt (IK w) d kvs ep)
    (turn : ∀ i k v t B m l s, kvs[i]? = some (k, v) → I i B m l → St r B env.locals ((y, v) :: (x, .int k t) :: m) ((it, OItemIter d kvs.length ep (i + 1)) :: l) s →
      wpAny (model PW w) A (execs body env) (fun f s₃ => match f with
        | .next | .cont => ∃ B' m' l', St r B' env.locals m' ((it, OItemIter d kvs.length ep (i + 1)) :: l') s₃ ∧ I (i + 1) B' m' l'
        | .brk => R (.ok .next) s₃
        | .ret v => R (.ok (.ret v)) s₃) (fun _ _ => False) s)
    (fin : ∀ B m l s, I kvs.length B m l → St r B env.locals m l s → R (.ok .next) s)
    (hx : env.kindOf x = some .local := by rfl) (hy : env.kindOf y = some .local := by rfl) (hp : (env.scope.kind == .class || (env.scope.kind == .module && env.locals != env.globals)) = false := by rfl) :
    codeAny (model PW w) A (.forLoop (.Tuple [.Name x px, .Name y py] kk pt) (.ref it) body [] env) R s := by
  refine codeAny_forLoop_any (fun k s' => ∃ i B m l, k = kvs.length - i ∧ i ≤ kvs.length ∧ St r B env.locals m ((it, OItemIter d kvs.length ep i) :: l) s' ∧ I i B m l) ?_ (kvs.length - 0) ⟨0, B, m, l, rfl, Nat.zero_le _, S, start⟩
  rintro k s' ⟨i, B, m, l, rfl, hi, S', hI⟩
  obtain ⟨oi, eoi, ok, ov, rfl⟩ := S'.get (.head _)
  have hD := hG i B m l s' hI S'
  cases hv : kvs[i]? with
  | none =>
    have he : i = kvs.length := by have := List.getElem?_eq_none_iff.mp hv; omega
    subst he
    refine wpAny_pyNext_items_end (knd := IK w) hh eoi hD hv fun h' hx' => ?_
    exact wpAny_execs_nil (fin B m l _ hI (S'.nextEnd hx'))
  | some kv =>
    obtain ⟨k, v⟩ := kv
    have hlt : i < kvs.length := (List.getElem?_eq_some_iff.mp hv).1
    refine wpAny_pyNext_items_item (knd := IK w) eoi hD hv fun key h' hkey hit ht hsz hk => ?_
    obtain ⟨t, rfl⟩ := isInt_key hkey
    have hil : it < s'.heap.objs.size := Heap.lt_size eoi
    refine wpAny_letOwnedTupleGo_items hit fun h₂ hit₂ hs₂ => ?_
    have keep2 : ∀ b o, b ≠ it → s'.heap.get? b = some o → h₂.get? b = some o := fun b o hb e => (hs₂.2 b hb).trans (hk b o hb e)
    have S2 : St r B env.locals m ((it, OItemIter d kvs.length ep (i + 1)) :: l) { s' with heap := h₂ } :=
      S'.change (s' := { s' with heap := h₂ }) 0 rfl rfl rfl rfl keep2 hit₂ ⟨_, _, rfl⟩
    have ht2 : h₂.IsTuple s'.heap.objs.size #[.int k t, v] := ⟨_, (hs₂.2 _ (Nat.ne_of_gt hil)).trans ht, rfl, 0, rfl⟩
    refine w_noE (e_unpack2 S2 hh ht2 (fun s₃ S3 => ?_) hx hy hp)
    refine w_noE (wpAny_mono (turn i k v t B m l s₃ hv hI S3) (fun f s₄ h₄ => ?_) fun _ _ q => q.elim)
    cases f with
    | next => obtain ⟨B', m', l', S4, I4⟩ := h₄; exact ⟨kvs.length - (i + 1), by omega, i + 1, B', m', l', rfl, hlt, S4, I4⟩
    | cont => obtain ⟨B', m', l', S4, I4⟩ := h₄; exact ⟨kvs.length - (i + 1), by omega, i + 1, B', m', l', rfl, hlt, S4, I4⟩
    | brk => exact h₄
    | ret v => exact h₄
end
end Mine
end
section
open PySem PySem.W PyProof.Rows
set_option Elab.async false
set_option maxRecDepth 100000
set_option maxHeartbeats 4000000
namespace Mine
abbrev Ent := List Nat × List Nat
def keyE (e : Ent) : Nat := num e.2
def putE (es : List Ent) (e : Ent) : List Ent := if es.any (fun x => keyE x == keyE e) then es.map (fun x => if keyE x = keyE e then e else x) else es ++ [e]
def stepAll (ms : List Nat) (acc : List Ent) (e : Ent) : List Ent := (List.range ms.length).foldl (fun acc d => putE acc (pileStep ms e d)) acc
def roundN (ms : List Nat) : Nat → List Ent
  | 0 => [([0, 0, 0, 0], [])]
  | n + 1 => (roundN ms n).foldl (stepAll ms) []
theorem putE_len (es : List Ent) (e : Ent) : (putE es e).length ≤ es.length + 1 := by unfold putE; split <;> simp
theorem putE_mem {es : List Ent} {e x : Ent} (h : x ∈ putE es e) : x = e ∨ x ∈ es := by
  unfold putE at h
  split at h
  · obtain ⟨y, hy, rfl⟩ := List.mem_map.mp h
    split
    · exact .inl rfl
    · exact .inr hy
  · rcases List.mem_append.mp h with h | h
    · exact .inr h
    · exact .inl (List.mem_singleton.mp h)
theorem steps_len (f : Nat → Ent) (l : List Nat) (acc : List Ent) : (l.foldl (fun acc d => putE acc (f d)) acc).length ≤ acc.length + l.length := by
  induction l generalizing acc with
  | nil => simp
  | cons x t ih =>
    rw [List.foldl_cons, List.length_cons]
    have := ih (putE acc (f x))
    have := putE_len acc (f x)
    omega
theorem steps_mem (f : Nat → Ent) (l : List Nat) (acc : List Ent) {x : Ent} (h : x ∈ l.foldl (fun acc d => putE acc (f d)) acc) : x ∈ acc ∨ ∃ d ∈ l, x = f d := by
  induction l generalizing acc with
  | nil => exact .inl h
  | cons y t ih =>
    rw [List.foldl_cons] at h
    rcases ih _ h with q | ⟨d, hd, e⟩
    · rcases putE_mem q with rfl | q
      · exact .inr ⟨y, .head _, rfl⟩
      · exact .inl q
    · exact .inr ⟨d, .tail _ hd, e⟩
theorem stepsAll_len (ms : List Nat) (h : ms.length ≤ 4) (es acc : List Ent) : (es.foldl (stepAll ms) acc).length ≤ acc.length + 4 * es.length := by
  induction es generalizing acc with
  | nil => simp
  | cons e t ih =>
    rw [List.foldl_cons, List.length_cons]
    have h1 := ih (stepAll ms acc e)
    have h2 : (stepAll ms acc e).length ≤ acc.length + ms.length := by
      have := steps_len (fun d => pileStep ms e d) (List.range ms.length) acc
      rw [List.length_range] at this
      exact this
    omega
theorem stepsAll_mem (ms : List Nat) (es acc : List Ent) {x : Ent} (h : x ∈ es.foldl (stepAll ms) acc) : x ∈ acc ∨ ∃ e ∈ es, ∃ d, d < ms.length ∧ x = pileStep ms e d := by
  induction es generalizing acc with
  | nil => exact .inl h
  | cons e t ih =>
    rw [List.foldl_cons] at h
    rcases ih _ h with q | ⟨e', he, q⟩
    · rcases steps_mem (fun d => pileStep ms e d) _ acc q with q | ⟨d, hd, q⟩
      · exact .inl q
      · exact .inr ⟨e, .head _, d, List.mem_range.mp hd, q⟩
    · exact .inr ⟨e', .tail _ he, q⟩
theorem round_len (ms : List Nat) (h : ms.length ≤ 4) : ∀ n, (roundN ms n).length ≤ 4 ^ n
  | 0 => by simp [roundN]
  | n + 1 => by
    have h1 := stepsAll_len ms h (roundN ms n) []
    have h2 := round_len ms h n
    rw [Nat.pow_succ]
    show ((roundN ms n).foldl (stepAll ms) []).length ≤ _
    rw [List.length_nil] at h1
    omega
theorem round_ok (ms : List Nat) (hm : masksOk ms) : ∀ n, ∀ e ∈ roundN ms n, PileOk n e.1 e.2
  | 0 => fun e he => by rw [List.mem_singleton.mp he]; exact pileOk_start
  | n + 1 => fun e he => by
    rcases stepsAll_mem ms (roundN ms n) [] he with q | ⟨e', he', d, hd, rfl⟩
    · cases q
    · exact pileOk_step (round_ok ms hm n e' he') (by rcases hm.1 with e | e <;> omega)
/-- rows of a pile: a tuple of the base -/
def RowsAt (B : Addr → Option Obj) (v : Value) (hs : List Nat) : Prop := ∃ a o rv n, v = .ref a ∧ B a = some o ∧ o.cls = .type "tuple" ∧ o.data = .seq rv n ∧ StrsAre rv.toList (hs.map fun h => dots (h + 1))
inductive EntsAre (B : Addr → Option Obj) : List (Int × Value) → List Ent → Prop
  | nil : EntsAre B [] []
  | cons {v e kvs es} : RowsAt B v e.1 → EntsAre B kvs es → EntsAre B (((keyE e : Nat), v) :: kvs) (e :: es)
theorem RowsAt.ext {B B' : Addr → Option Obj} {v hs} (h : RowsAt B v hs) (x : ExtB B B') : RowsAt B' v hs := let ⟨a, o, rv, n, e, b, r⟩ := h; ⟨a, o, rv, n, e, x _ _ b, r⟩
theorem EntsAre.ext {B B' : Addr → Option Obj} {kvs es} (h : EntsAre B kvs es) (x : ExtB B B') : EntsAre B' kvs es := by
  induction h with
  | nil => exact .nil
  | cons r _ ih => exact .cons (r.ext x) ih
theorem EntsAre.len {B : Addr → Option Obj} {kvs es} (h : EntsAre B kvs es) : kvs.length = es.length := by
  induction h with
  | nil => rfl
  | cons _ _ ih => simp [ih]
theorem EntsAre.keys {B : Addr → Option Obj} {kvs es} (h : EntsAre B kvs es) : kvs.map (·.1) = es.map fun e => ((keyE e : Nat) : Int) := by
  induction h with
  | nil => rfl
  | cons _ _ ih => simp [ih]
theorem EntsAre.get {B : Addr → Option Obj} {kvs es} (h : EntsAre B kvs es) : ∀ {i : Nat} {k : Int} {v : Value}, kvs[i]? = some (k, v) → ∃ e, es[i]? = some e ∧ k = (keyE e : Nat) ∧ RowsAt B v e.1 := by
  induction h with
  | nil => intro i k v q; simp at q
  | cons r _ ih =>
    intro i k v q
    cases i with
    | zero => simp at q; obtain ⟨rfl, rfl⟩ := q; exact ⟨_, by simp, rfl, r⟩
    | succ i => simp at q; obtain ⟨e, a, b⟩ := ih q; exact ⟨e, by simpa using a, b⟩
theorem EntsAre.app {B : Addr → Option Obj} {kvs es v e} (h : EntsAre B kvs es) (r : RowsAt B v e.1) : EntsAre B (kvs ++ [(((keyE e : Nat) : Int), v)]) (es ++ [e]) := by
  induction h with
  | nil => exact .cons r .nil
  | cons r' _ ih => exact .cons r' ih
theorem EntsAre.put {B : Addr → Option Obj} {kvs es v e} (h : EntsAre B kvs es) (r : RowsAt B v e.1) : EntsAre B (stored kvs ((keyE e : Nat) : Int) v) (putE es e) := by
  have hany : (kvs.any fun kv => decide (kv.1 = ((keyE e : Nat) : Int))) = es.any fun x => keyE x == keyE e := by
    induction h with
    | nil => rfl
    | cons _ _ ih =>
      rw [List.any_cons, List.any_cons, ih]
      congr 1
      rw [Bool.eq_iff_iff, decide_eq_true_iff, beq_iff_eq]
      exact ⟨fun q => Int.ofNat_inj.mp q, fun q => congrArg _ q⟩
  unfold stored putE
  rw [hany]
  split
  · rename_i hc
    clear hany hc
    induction h with
    | nil => exact .nil
    | @cons v' e' kvs es r' _ ih =>
      rw [List.map_cons, List.map_cons]
      by_cases q : keyE e' = keyE e
      · rw [if_pos q, if_pos (congrArg _ q)]
        show EntsAre B ((((keyE e' : Nat) : Int), v) :: _) _
        rw [q]
        exact .cons r ih
      · rw [if_neg q, if_neg (fun c => q (Int.ofNat_inj.mp c))]
        exact .cons r' ih
  · exact h.app r
end Mine
end
section
open PySem PySem.W PyProof.Rows
set_option Elab.async false
set_option maxRecDepth 100000
set_option maxHeartbeats 1000000
namespace Mine
def DictAtB (w : World) (B0 B : Addr → Option Obj) (v : Value) (es : List Ent) : Prop := ∃ d o kvs, v = .ref d ∧ B d = some o ∧ o.IsDictOf (IK w) kvs ∧ EntsAre B kvs es ∧ B0 d = none ∧ (d == sysModules) = false
theorem DictAtB.ext {w : World} {B0 B B' : Addr → Option Obj} {v : Value} {es : List Ent} (h : DictAtB w B0 B v es) (x : ExtB B B') : DictAtB w B0 B' v es :=
  let ⟨d, o, kvs, e, b, i, n, z, y⟩ := h; ⟨d, o, kvs, e, x _ _ b, i, n.ext x, z, y⟩
theorem not_modules {r : Shared} {B : Addr → Option Obj} {L : Addr} {m : List (Str × Value)} {l : List (Addr × Desc)} {s : Shared} {w : World} (T : TopB w B) (S : St r B L m l s) {p : Addr × Desc} (hp : p ∈ l) : (p.1 == sysModules) = false := by
  have h1 : B 1 = some (hz.zo_40 w.params) := T.here 1 _ (by decide) (by decide) (by kernel_rfl)
  exact beq_eq_false_iff_ne.mpr (S.neB hp h1).symm
theorem rounds_walk (w : World) (A : Around) (s : Shared) (Q E : Value → Shared → Prop) (am : Addr) (mv : List Value) (ms : List Nat) (te : Tok) (e : Str)
    (RA : Room 11 A) (TR : Ready w s.heap) (hm : s.heap.IsList am mv.toArray) (hmi : IntsAre mv (ms.map fun (x : Nat) => (x : Int))) (hmo : masksOk ms) (he : endOk e)
    (h : ∀ a s' (rl : List Value), Kept s s' → s.heap.get? a = none → s'.heap.IsList a rl.toArray → rl.length = 4 → (∀ j, j < 4 → ∃ v, rl[j]? = some v ∧ DictAtB w (fun b => s.heap.get? b) (fun b => s'.heap.get? b) v (roundN ms j)) → Q (.ref a) s') :
    wpAny (model PW w) A (call (.ref 121) [.ref am, .str e te]) Q E s := by
  have T := TR.1
  have hml : ms.length ≤ 4 := by rcases hmo.1 with q | q <;> omega
  have hmv : mv.length = ms.length := by rw [ints_len hmi, List.length_map]
  refine wpAny_call (enterTop (o := hz.zo_138 w.params) (oc := hz.zo_137 w.params) (fd := fd_rounds w.params) (c := 120) (binds := [(n_masks, .ref am), (n_end, .str e te)]) T RA.lt (by kernel_rfl) rfl (by kernel_rfl) rfl rfl rfl rfl rfl rfl rfl (by kernel_rfl) (by kernel_rfl) rfl rfl rfl (fun L s₁ S TB => ?_))
  have RD : Room 10 (A.deeper (callEnv (fd_rounds w.params) L 121)) := RA.deeper _
  have hh : (A.deeper (callEnv (fd_rounds w.params) L 121)).handled = none := RD.handled
  have hmS : ∀ {B' L m l s'}, St s B' L m l s' → ExtB (fun b => s.heap.get? b) B' → s'.heap.IsList am mv.toArray := fun S x => by obtain ⟨o, ho, q⟩ := hm; exact ⟨o, S.base _ _ (x _ _ ho), q⟩
  refine wpAny_execs_cons ?_
  refine wpAny_Assign_Name ?_
  refine List_ ?_
  refine args_cons ?_
  refine (e_dict1 S ?_ :)
  intro d0 s₂ S
  refine e_int S fun tk _ S => ?_
  refine Tuple_ (args_cons (e_str S fun t1 _ S => args_cons (e_str S fun t2 _ S => args_cons (e_str S fun t3 _ S => args_cons (e_str S fun t4 _ S => args_nil (e_newTuple S fun a1 s₃ S => ?_))))))
  obtain ⟨o1, ⟨hc1, n1, hd1⟩, hb1, hg1, S⟩ := S.settle
  refine ⟨0, tk, rfl, _, _, [], S, fun s₄ S => ?_⟩
  have x1 : ExtB (fun b => s.heap.get? b) (fun b => if b = a1 then some o1 else s.heap.get? b) := ExtB.put hb1
  have hsm := not_modules (TB.ext x1) S (.head _)
  obtain ⟨o2, hd2, hb2, hg2, S⟩ := S.settle
  refine args_nil (e_newList S (fun ard s₅ S => ?_) (by simp [sizeLine_eq]))
  refine e_store S fun s₆ S => ?_
  have x2 : ExtB (fun b => if b = a1 then some o1 else s.heap.get? b) (fun b => if b = d0 then some o2 else if b = a1 then some o1 else s.heap.get? b) := ExtB.put hb2
  have hd00 : s.heap.get? d0 = none := by
    have : (if d0 = a1 then some o1 else s.heap.get? d0) = none := hb2
    split at this
    · cases this
    · exact this
  have first : DictAtB w (fun b => s.heap.get? b) (fun b => if b = d0 then some o2 else if b = a1 then some o1 else s.heap.get? b) (.ref d0) (roundN ms 0) := by
    refine ⟨d0, o2, _, rfl, if_pos rfl, hd2, .cons (e := ([0, 0, 0, 0], [])) ⟨a1, o1, _, n1, rfl, x2 _ _ (if_pos rfl), hc1, hd1, strs_start t1 t2 t3 t4⟩ .nil, hd00, hsm⟩
  generalize (fun b => if b = d0 then some o2 else if b = a1 then some o1 else s.heap.get? b) = B2 at S x2 first
  have x2 := x1.trans x2
  clear hb1 hb2 hg1 hg2 x1 hd2 hd1 hc1
  have first' : ∀ j, j ≤ 0 → ∃ v, [Value.ref d0][j]? = some v ∧ DictAtB w (fun b => s.heap.get? b) B2 v (roundN ms j) := fun j hj => by
    obtain rfl : j = 0 := Nat.le_zero.mp hj
    exact ⟨_, rfl, first⟩
  -- rounds
  refine wpAny_execs_cons (wpAny_For (Call_ (g_range S (TB.ext x2) (PyProof.Rows.callWith_type1 (args_cons (e_int S fun _ _ S => args_nil (c_range (n := 3) S fun _ _ S => c_iterRange S (by decide) fun it0 _ S => ?_)))))))
  refine for_go (iter_range hh it0 3) (fun i B' m' l' => ExtB B2 B' ∧ m'.lookup n_masks = some (.ref am) ∧ m'.lookup n_end = some (.str e te) ∧ m'.lookup n_rounds = some (.ref ard) ∧ ∃ rl : List Value, l' = [(ard, OList rl)] ∧ rl.length = i + 1 ∧ ∀ j, j ≤ i → ∃ v, rl[j]? = some v ∧ DictAtB w (fun b => s.heap.get? b) B' v (roundN ms j))
    S ⟨.refl _, rfl, rfl, rfl, _, rfl, rfl, first'⟩ (fun _ _ _ _ _ _ _ => trivial) (fun i v B3 m3 l3 s7 hi hv hI S => ?_) (fun B3 m3 l3 s7 hI S => ?_)
  · obtain ⟨t0, rfl⟩ := hv
    obtain ⟨x3, h1, h2, h3, rl, rfl, h4, h5⟩ := hI
    have TB3 := TB.ext (x2.trans x3)
    refine wpAny_assign_Name (e_store S fun _ S => ?_)
    refine wpAny_execs_cons (wpAny_Assign_Name ?_)
    refine (e_dict0 S ?_ :)
    intro df s8 S
    refine e_store S fun s9 S => ?_
    obtain ⟨v, hv1, hv2⟩ := h5 i (Nat.le_refl _)
    obtain ⟨d, od, kvs, rfl, hdB, hdI, hdE, hd0, hdm⟩ := id hv2
    have hdI' := hdI
    obtain ⟨es, ep, q1, q2, q3, q4, q5⟩ := hdI'
    have DOf : ∀ {B' L m l s'}, St s B' L m l s' → ExtB B3 B' → s'.heap.DictOf (IK w) d kvs := fun S x => Heap.dictOf_iff.mpr ⟨od, S.base _ _ (x _ _ hdB), hdI⟩
    have DAt : ∀ {B' L m l s'}, St s B' L m l s' → ExtB B3 B' → s'.heap.DictAt (IK w) d kvs ep := fun S x => ⟨od, es, S.base _ _ (x _ _ hdB), q1, q2, q3, q4, q5⟩
    have hkl : kvs.length ≤ 64 := by
      have := round_len ms hml i
      have h9 : 4 ^ i ≤ 4 ^ 3 := Nat.pow_le_pow_right (by decide) (by omega)
      rw [hdE.len]; omega
    refine wpAny_execs_cons (wpAny_For (MethodCall_ (Subscript_ (e_loc S h3 (wpAny_UnaryOp (e_int S fun _ _ S => u_neg S fun _ _ S => ?_))))))
    refine kde_neg (j := i) (S.list (.tail _ (.tail _ (.head _)))) (by decide) (by decide) (by rw [seqIndex_neg (by decide) (by omega)]; congr 1; omega) hv1 ?_
    refine m_items (DOf S (.refl _)) (PyProof.Rows.callWith_method0 (c_items S (DOf S (.refl _)) hdm fun vw _ S => e_iterItems S (DAt S (.refl _)) fun itp s10 S => ?_))
    refine for_items hh (fun p B' m' l' => ExtB B3 B' ∧ m'.lookup n_masks = some (.ref am) ∧ m'.lookup n_end = some (.str e te) ∧ m'.lookup n_rounds = some (.ref ard) ∧ m'.lookup n_following = some (.ref df) ∧ ∃ kvf, l' = [(df, ODict w kvf), (it0, ORangeIter 3 (i + 1)), (ard, OList rl)] ∧ EntsAre B' kvf (((roundN ms i).take p).foldl (stepAll ms) []))
      S ⟨.refl _, h1, h2, h3, rfl, _, rfl, .nil⟩ (fun p B' m' l' s' hI S => DAt S hI.1) (fun p k v tk' B4 m4 l4 s11 hp hI S => ?_) (fun B4 m4 l4 s11 hI S => ?_)
    · obtain ⟨x4, k1, k2, k3, k4, kvf, rfl, k5⟩ := hI
      obtain ⟨en, hen, rfl, a0, o0, rv0, n0, rfl, g1, g2, g3, g4⟩ := (hdE.ext x4).get hp
      have hmem : en ∈ roundN ms i := List.mem_of_getElem? hen
      have hplt : p < (roundN ms i).length := (List.getElem?_eq_some_iff.mp hen).1
      have PO := round_ok ms hmo i en hmem
      have hrl : (roundN ms i).length ≤ 64 := by rw [← hdE.len]; exact hkl
      have TB4 := TB3.ext x4
      refine wpAny_execs_cons (wpAny_For (Call_ (g_range S TB4 (PyProof.Rows.callWith_type1 (args_cons (Call_ (g_len S TB4 (PyProof.Rows.callWith_builtin1 (args_cons (e_loc S k1 (args_nil ?_)))))))))))
      refine c_lenL S (hmS S ((x2.trans x3).trans x4)) (by omega) fun _ _ S => args_nil ?_
      rw [hmv]
      refine c_range S fun _ _ S => ?_
      refine c_iterRange S (by omega) fun itq _ S => ?_
      refine for_go (iter_range hh itq ms.length) (fun q B' m' l' => ExtB B4 B' ∧ m'.lookup n_masks = some (.ref am) ∧ m'.lookup n_end = some (.str e te) ∧ m'.lookup n_rounds = some (.ref ard) ∧ m'.lookup n_following = some (.ref df) ∧ m'.lookup n_rows = some (.ref a0) ∧ m'.lookup n_pile = some (.int (keyE en : Nat) tk') ∧ ∃ kvf, l' = [(itp, OItemIter d kvs.length ep (p + 1)), (df, ODict w kvf), (it0, ORangeIter 3 (i + 1)), (ard, OList rl)] ∧ EntsAre B' kvf ((List.range q).foldl (fun acc d => putE acc (pileStep ms en d)) (((roundN ms i).take p).foldl (stepAll ms) [])))
        S ⟨.refl _, k1, k2, k3, k4, rfl, rfl, _, rfl, k5⟩ (fun _ _ _ _ _ _ _ => trivial) (fun q vq B5 m5 l5 s12 hq hvq hI S => ?_) (fun B5 m5 l5 s12 hI S => ?_)
      · obtain ⟨tq, rfl⟩ := hvq
        obtain ⟨x5, j1, j2, j3, j4, j5, j6, kvf', rfl, j7⟩ := hI
        have TB5 := TB4.ext x5
        have xa := ((x2.trans x3).trans x4).trans x5
        refine wpAny_assign_Name (e_store S fun s13 S => ?_)
        refine wpAny_execs_cons (Assign_Tuple (Call_ (g_drop S TB5 (PyProof.Rows.callWith_def (o := hz.zo_131 w.params) rfl (args_cons (e_loc S j5 (args_cons (e_loc S j6 (args_cons (e_loc S j1 (args_cons (e_loc S rfl (args_cons (e_loc S j2 (args_nil ⟨TB5.get S (by decide) (by decide) (by kernel_rfl), ?_⟩)))))))))))))))
        refine drop_spec w _ s13 _ _ a0 am rv0.toList mv i en.1 ms en.2 q tk' tq te e RD (TR.keep fun b o eb => S.base _ _ (xa b o eb)) ⟨o0, S.base _ _ (x5 _ _ g1), g2, n0, by rw [Array.toArray_toList]; exact g3⟩ g4 (hmS S xa) hmi hmo hq (by omega) PO he fun ap ar' s14 rv' t' K ha har hrv na nar => ?_
        refine e_unpack2 (S.addT (S.call K) nar har) hh ha fun s15 S => ?_
        refine wpAny_execs_cons (wpAny_Assign_Subscript (e_loc S rfl (e_loc S j4 (e_loc S rfl ?_))))
        refine e_setDict S 3 rfl ?_ fun s16 S => ?_
        · have h8 := steps_len (fun d => pileStep ms en d) (List.range q) (((roundN ms i).take p).foldl (stepAll ms) [])
          have h9 := stepsAll_len ms hml ((roundN ms i).take p) []
          rw [j7.len, sizeLine_eq]
          rw [List.length_range] at h8
          rw [List.length_take, List.length_nil] at h9
          omega
        obtain ⟨o6, ⟨hc6, n6, hd6⟩, hb6, hg6, S⟩ := S.settle
        refine wpAny_execs_nil ⟨_, _, _, S, x5.trans (ExtB.put hb6), j1, j2, j3, j4, j5, j6, _, rfl, ?_⟩
        rw [List.range_succ, List.foldl_append]
        exact (j7.ext (ExtB.put hb6)).put (e := pileStep ms en q) ⟨ar', o6, _, n6, rfl, if_pos rfl, hc6, hd6, hrv⟩
      · obtain ⟨x5, j1, j2, j3, j4, j5, j6, kvf', rfl, j7⟩ := hI
        refine wpAny_execs_nil ⟨_, _, _, S, x4.trans x5, j1, j2, j3, j4, _, rfl, ?_⟩
        rw [List.take_add_one, hen, Option.toList_some, List.foldl_append]
        exact j7
    · obtain ⟨x4, k1, k2, k3, k4, kvf, rfl, k5⟩ := hI
      rw [hdE.len, List.take_length] at k5
      refine wpAny_execs_cons (wpAny_Expr_any (MethodCall_ (e_loc S k3 (e_mAppend S (.tail _ (.tail _ (.head _))) (callWith_method1 (args_cons (e_loc S k4 (args_nil ?_))))))))
      refine e_append S 2 rfl (fun s12 S => ?_) (by rw [h4, sizeLine_eq]; omega)
      have hdfm := not_modules (TB3.ext x4) S (.head _)
      obtain ⟨o6, hd6, hb6, hg6, S⟩ := S.settle
      have xa := ((x2.trans x3).trans x4)
      refine wpAny_execs_nil ⟨_, _, _, S, (x3.trans x4).trans (ExtB.put hb6), k1, k2, k3, _, rfl, by rw [List.length_append, h4]; rfl, fun j hj => ?_⟩
      by_cases hji : j ≤ i
      · obtain ⟨v, e1, e2⟩ := h5 j hji
        exact ⟨v, by rw [List.getElem?_append_left (by omega)]; exact e1, (e2.ext x4).ext (ExtB.put hb6)⟩
      · obtain rfl : j = i + 1 := by omega
        refine ⟨_, by rw [List.getElem?_append_right (by omega), h4, Nat.sub_self]; rfl, df, o6, kvf, rfl, if_pos rfl, hd6, k5.ext (ExtB.put hb6), ?_, hdfm⟩
        show s.heap.get? df = none
        cases q : s.heap.get? df with
        | none => rfl
        | some o => have := xa _ _ q; rw [hb6] at this; cases this
  · obtain ⟨x3, h1, h2, h3, rl, rfl, h4, h5⟩ := hI
    refine wpAny_execs_cons (wpAny_Return_some (e_loc S h3 ?_))
    have xs := x2.trans x3
    refine h ard s7 rl (S.keptX xs) ?_ (S.list (.head _)) h4 fun j hj => ?_
    · cases q : s.heap.get? ard with
      | none => rfl
      | some o => have := xs _ _ q; rw [(S.own _ (.head _)).2.2] at this; cases this
    · obtain ⟨v, e1, e2⟩ := h5 j (by omega)
      exact ⟨v, e1, e2.ext S.base⟩
end Mine
end
section
open PySem PySem.W PyProof.Rows
set_option Elab.async false
set_option maxRecDepth 100000
set_option maxHeartbeats 4000000
namespace Mine
/-- the number of a dropped pile -/
theorem num_app (ls : List Nat) (x : Nat) : num (ls ++ [x]) = num ls + x * 64 ^ ls.length := by
  induction ls with
  | nil => simp [num]
  | cons y t ih =>
    show y + 64 * num (t ++ [x]) = (y + 64 * num t) + x * 64 ^ (t.length + 1)
    rw [ih, Nat.pow_succ, Nat.mul_add, ← Nat.add_assoc]
    congr 1
    simp [Nat.mul_comm, Nat.mul_left_comm]
theorem num_set (ls : List Nat) : ∀ (T x : Nat), T < ls.length → num (ls.set T (ls.getD T 0 + x)) = num ls + x * 64 ^ T := by
  induction ls with
  | nil => intro T x h; simp at h
  | cons y t ih =>
    intro T x h
    cases T with
    | zero =>
      show (y + x) + 64 * num t = (y + 64 * num t) + x * 64 ^ 0
      omega
    | succ T =>
      have := ih T x (by simpa using h)
      show y + 64 * num (t.set T (t.getD T 0 + x)) = (y + 64 * num t) + x * 64 ^ (T + 1)
      rw [this, Nat.pow_succ, Nat.mul_add, ← Nat.add_assoc]
      congr 1
      simp [Nat.mul_comm, Nat.mul_left_comm]
theorem num_dropL (m d : Nat) (hs ls : List Nat) (h : tallestH m hs ≤ ls.length) : num (dropL m d hs ls) = num ls + 2 ^ d * 64 ^ tallestH m hs := by
  unfold dropL
  split
  · rename_i q
    rw [num_app, q]
  · exact num_set ls _ _ (by omega)
theorem tallestH_le_iff {m : Nat} {hs : List Nat} {n : Nat} : tallestH m hs ≤ n ↔ ∀ r, r < 4 → m.testBit r = true → hs.getD r 0 ≤ n := by
  constructor
  · intro h r hr hb
    exact Nat.le_trans (tallest_ge ((touched_iff hr).mpr hb)) h
  · intro h
    refine foldl_max_le (Nat.zero_le _) fun x hx => ?_
    obtain ⟨r, hr, rfl⟩ := List.mem_map.mp hx
    exact h r (touched_lt hr) ((touched_iff (touched_lt hr)).mp hr)
theorem dropH_get {m : Nat} {hs : List Nat} {r : Nat} (hr : r < 4) : (dropH m hs).getD r 0 = if m.testBit r then tallestH m hs + 1 else hs.getD r 0 := by
  unfold dropH
  rw [List.getD_eq_getElem?_getD, List.getElem?_map, List.getElem?_range hr]; rfl
theorem bit_and {a b r : Nat} (ha : a.testBit r = true) (hb : b.testBit r = true) : a &&& b ≠ 0 := fun q => by
  have : (a &&& b).testBit r = true := by rw [Nat.testBit_and, ha, hb]; rfl
  rw [q] at this; simp at this
/-- the top of e after d is dropped -/
theorem tallest_drop {md me : Nat} {hs : List Nat} (hle : me ≤ 15) : tallestH me (dropH md hs) = if me &&& md ≠ 0 then max (tallestH me hs) (tallestH md hs + 1) else tallestH me hs := by
  apply Nat.le_antisymm
  · rw [tallestH_le_iff]
    intro r hr hb
    rw [dropH_get hr]
    have h1 : hs.getD r 0 ≤ tallestH me hs := tallest_ge ((touched_iff hr).mpr hb)
    by_cases q : md.testBit r = true
    · rw [if_pos q, if_pos (bit_and hb q)]; exact Nat.le_max_right _ _
    · rw [if_neg q]
      split
      · exact Nat.le_trans h1 (Nat.le_max_left _ _)
      · exact h1
  · have low : tallestH me hs ≤ tallestH me (dropH md hs) := by
      rw [tallestH_le_iff]
      intro r hr hb
      have h2 : (dropH md hs).getD r 0 ≤ tallestH me (dropH md hs) := tallest_ge ((touched_iff hr).mpr hb)
      rw [dropH_get hr] at h2
      by_cases q : md.testBit r = true
      · rw [if_pos q] at h2
        have h3 : hs.getD r 0 ≤ tallestH md hs := tallest_ge ((touched_iff hr).mpr q)
        omega
      · rw [if_neg q] at h2; exact h2
    split
    · rename_i q
      refine Nat.max_le.mpr ⟨low, ?_⟩
      obtain ⟨r, hr⟩ := Nat.exists_testBit_of_ne_zero q
      rw [Nat.testBit_and, Bool.and_eq_true] at hr
      have hr4 : r < 4 := by
        rcases Nat.lt_or_ge r 4 with h | h
        · exact h
        · have : me < 2 ^ r := Nat.lt_of_lt_of_le (show me < 2 ^ 4 by omega) (Nat.pow_le_pow_right (by decide) h)
          rw [Nat.testBit_lt_two_pow this] at hr
          exact absurd hr.1 Bool.false_ne_true
      have h2 : (dropH md hs).getD r 0 ≤ tallestH me (dropH md hs) := tallest_ge ((touched_iff hr4).mpr hr.1)
      rw [dropH_get hr4, if_pos hr.2] at h2
      exact h2
    · exact low
end Mine
end
section
open PySem PySem.W PyProof.Rows
set_option Elab.async false
set_option maxRecDepth 100000
set_option maxHeartbeats 4000000
namespace Mine
abbrev AEnt := List Nat × Nat
def dmOf (ms : List Nat) : List (List Bool) := ms.map fun md => ms.map fun me => (me &&& md) != 0
def aStep (dm : List (List Bool)) (x : AEnt) (d : Nat) : AEnt := (List.zipWith (fun b t => if b then max t (x.1.getD d 0 + 1) else t) (dm.getD d []) x.1, x.2 + 2 ^ d * 64 ^ x.1.getD d 0)
def aPut (es : List AEnt) (x : AEnt) : List AEnt := if es.any (fun y => y.2 == x.2) then es.map (fun y => if y.2 = x.2 then x else y) else es ++ [x]
def aAll (dm : List (List Bool)) (c : Nat) (acc : List AEnt) (x : AEnt) : List AEnt := (List.range c).foldl (fun acc d => aPut acc (aStep dm x d)) acc
def aRound (dm : List (List Bool)) (c : Nat) : Nat → List AEnt
  | 0 => [(List.replicate c 0, 0)]
  | n + 1 => (aRound dm c n).foldl (aAll dm c) []
def phi (ms : List Nat) (e : Ent) : AEnt := (ms.map fun m => tallestH m e.1, num e.2)
theorem map_getD (ms : List Nat) (f : Nat → Nat) (d : Nat) (h : d < ms.length) : (ms.map f).getD d 0 = f (ms.getD d 0) := by
  rw [List.getD_eq_getElem?_getD, List.getElem?_map, List.getD_eq_getElem?_getD, List.getElem?_eq_getElem h]; rfl
theorem dm_getD (ms : List Nat) (d : Nat) (h : d < ms.length) : (dmOf ms).getD d [] = ms.map fun me => (me &&& ms.getD d 0) != 0 := by
  unfold dmOf
  rw [List.getD_eq_getElem?_getD, List.getElem?_map, List.getD_eq_getElem?_getD, List.getElem?_eq_getElem h]; rfl
theorem phi_step (ms : List Nat) (hm : masksOk ms) (k : Nat) (e : Ent) (hP : PileOk k e.1 e.2) (d : Nat) (hd : d < ms.length) : phi ms (pileStep ms e d) = aStep (dmOf ms) (phi ms e) d := by
  unfold phi aStep pileStep
  dsimp only
  rw [map_getD ms _ d hd, dm_getD ms d hd, num_dropL _ _ _ _ (tallest_le hP.below), List.zipWith_map, List.zipWith_self]
  congr 1
  apply List.map_congr_left
  intro me hme
  rw [tallest_drop (hm.2 me hme).2]
  by_cases q : me &&& ms.getD d 0 = 0
  · simp [q]
  · simp [q]
theorem phi_put (ms : List Nat) (es : List Ent) (e : Ent) : (putE es e).map (phi ms) = aPut (es.map (phi ms)) (phi ms e) := by
  unfold putE aPut
  rw [List.any_map]
  show List.map _ (if (es.any fun x => keyE x == keyE e) = true then _ else _) = (if (es.any fun x => keyE x == keyE e) = true then _ else _)
  split
  · rw [List.map_map, List.map_map]
    apply List.map_congr_left
    intro x _
    show phi ms (if keyE x = keyE e then e else x) = if keyE x = keyE e then phi ms e else phi ms x
    split <;> rfl
  · rw [List.map_append]; rfl
theorem phi_steps (ms : List Nat) (f : Nat → Ent) (g : Nat → AEnt) (l : List Nat) (h : ∀ d ∈ l, phi ms (f d) = g d) (acc : List Ent) : (l.foldl (fun acc d => putE acc (f d)) acc).map (phi ms) = l.foldl (fun acc d => aPut acc (g d)) (acc.map (phi ms)) := by
  induction l generalizing acc with
  | nil => rfl
  | cons x t ih =>
    rw [List.foldl_cons, List.foldl_cons, ih (fun d hd => h d (.tail _ hd)), phi_put, h x (.head _)]
theorem phi_all (ms : List Nat) (hm : masksOk ms) (k : Nat) (es : List Ent) (hes : ∀ e ∈ es, PileOk k e.1 e.2) (acc : List Ent) : (es.foldl (stepAll ms) acc).map (phi ms) = (es.map (phi ms)).foldl (aAll (dmOf ms) ms.length) (acc.map (phi ms)) := by
  induction es generalizing acc with
  | nil => rfl
  | cons e t ih =>
    rw [List.foldl_cons, List.map_cons, List.foldl_cons, ih (fun x hx => hes x (.tail _ hx))]
    congr 1
    exact phi_steps ms (fun d => pileStep ms e d) (fun d => aStep (dmOf ms) (phi ms e) d) (List.range ms.length) (fun d hd => phi_step ms hm k e (hes e (.head _)) d (List.mem_range.mp hd)) acc
theorem tallest_zero (m : Nat) : tallestH m [0, 0, 0, 0] = 0 := by
  refine Nat.le_zero.mp (foldl_max_le (Nat.le_refl _) fun x hx => ?_)
  obtain ⟨r, hr, rfl⟩ := List.mem_map.mp hx
  have := touched_lt hr
  have : r = 0 ∨ r = 1 ∨ r = 2 ∨ r = 3 := by omega
  rcases this with rfl | rfl | rfl | rfl <;> decide
theorem phi_round (ms : List Nat) (hm : masksOk ms) : ∀ n, (roundN ms n).map (phi ms) = aRound (dmOf ms) ms.length n
  | 0 => by
    show [phi ms ([0, 0, 0, 0], [])] = [(List.replicate ms.length 0, 0)]
    unfold phi
    congr 2
    dsimp only
    rw [List.eq_replicate_iff]
    refine ⟨by rw [List.length_map], fun b hb => ?_⟩
    obtain ⟨m, _, rfl⟩ := List.mem_map.mp hb
    exact tallest_zero m
  | n + 1 => by
    show ((roundN ms n).foldl (stepAll ms) []).map (phi ms) = (aRound (dmOf ms) ms.length n).foldl (aAll (dmOf ms) ms.length) []
    rw [phi_all ms hm n _ (round_ok ms hm n), phi_round ms hm n]; rfl
theorem round_keys (ms : List Nat) (hm : masksOk ms) (n : Nat) : (roundN ms n).map keyE = (aRound (dmOf ms) ms.length n).map (·.2) := by
  rw [← phi_round ms hm n, List.map_map]; rfl
end Mine
end
section
open PySem PySem.W PyProof.Rows
set_option Elab.async false
set_option maxRecDepth 100000
set_option maxHeartbeats 4000000
namespace Mine
def memD (c ch : Nat) : List Nat := (List.range c).filter fun d => ch.testBit d
def indep (dm : List (List Bool)) (l : List Nat) : Bool := l.all fun i => l.all fun j => i == j || !((dm.getD j []).getD i false)
def aSgnStep (dm : List (List Bool)) (c among : Nat) (cv : List Int) (ch : Nat) : List Int :=
  if ch &&& among = ch ∧ indep dm (memD c ch) = true then cv.set (4 - (memD c ch).length) (cv.getD (4 - (memD c ch).length) 0 + (-1) ^ (memD c ch).length) else cv
def aSgn (dm : List (List Bool)) (c among : Nat) : List Int := (List.range (2 ^ c)).foldl (aSgnStep dm c among) [0, 0, 0, 0, 0]
theorem or_add_and (a b : Nat) : (a ||| b) + (a &&& b) = a + b := by
  induction a using Nat.strongRecOn generalizing b with
  | ind a ih =>
    rcases Nat.eq_zero_or_pos a with rfl | ha
    · simp
    · have h := ih (a / 2) (by omega) (b / 2)
      rw [← Nat.or_div_two, ← Nat.and_div_two] at h
      have h1 := Nat.div_add_mod (a ||| b) 2
      have h2 := Nat.div_add_mod (a &&& b) 2
      have h3 : (a ||| b) % 2 + (a &&& b) % 2 = a % 2 + b % 2 := by
        have e1 : (a ||| b) % 2 = (a % 2) ||| (b % 2) := Nat.or_mod_two_pow (n := 1)
        have e2 : (a &&& b) % 2 = (a % 2) &&& (b % 2) := Nat.and_mod_two_pow (n := 1)
        rw [e1, e2]
        have q1 : a % 2 = 0 ∨ a % 2 = 1 := by omega
        have q2 : b % 2 = 0 ∨ b % 2 = 1 := by omega
        rcases q1 with q1 | q1 <;> rcases q2 with q2 | q2 <;> rw [q1, q2] <;> decide
      omega
theorem or_le_sum (l : List Nat) : ∀ b, l.foldl (· ||| ·) b ≤ b + l.sum := by
  induction l with
  | nil => intro b; simp
  | cons x t ih =>
    intro b
    rw [List.foldl_cons, List.sum_cons]
    have h1 := ih (b ||| x)
    have h2 := or_add_and b x
    omega
theorem sum_eq_or (l : List Nat) : ∀ b, b + l.sum = l.foldl (· ||| ·) b ↔ (∀ x ∈ l, b &&& x = 0) ∧ l.Pairwise fun x y => x &&& y = 0 := by
  induction l with
  | nil => intro b; simp
  | cons x t ih =>
    intro b
    rw [List.foldl_cons, List.sum_cons]
    have h1 := or_le_sum t (b ||| x)
    have h2 := or_add_and b x
    have h3 := ih (b ||| x)
    constructor
    · intro h
      have e1 : b &&& x = 0 := by omega
      have e2 : (b ||| x) + t.sum = t.foldl (· ||| ·) (b ||| x) := by omega
      obtain ⟨p, q⟩ := h3.mp e2
      have sp : ∀ y ∈ t, b &&& y = 0 ∧ x &&& y = 0 := fun y hy => by
        have := p y hy
        rw [Nat.and_or_distrib_right] at this
        exact Nat.or_eq_zero_iff.mp this
      refine ⟨fun y hy => ?_, List.pairwise_cons.mpr ⟨fun y hy => (sp y hy).2, q⟩⟩
      rcases List.mem_cons.mp hy with rfl | hy
      · exact e1
      · exact (sp y hy).1
    · rintro ⟨p, q⟩
      have e1 := p x (.head _)
      obtain ⟨q1, q2⟩ := List.pairwise_cons.mp q
      have e2 := h3.mpr ⟨fun y hy => by rw [Nat.and_or_distrib_right, p y (.tail _ hy), q1 y hy]; rfl, q2⟩
      omega
theorem indep_iff (ms : List Nat) (l : List Nat) (hl : ∀ i ∈ l, i < ms.length) (hn : l.Nodup) : indep (dmOf ms) l = true ↔ (l.map fun d => ms.getD d 0).Pairwise fun x y => x &&& y = 0 := by
  rw [List.pairwise_map]
  have key : ∀ i ∈ l, ∀ j ∈ l, (((dmOf ms).getD j []).getD i false = ((ms.getD i 0 &&& ms.getD j 0) != 0)) := fun i hi j hj => by
    rw [dm_getD ms j (hl j hj), List.getD_eq_getElem?_getD, List.getElem?_map, List.getElem?_eq_getElem (hl i hi), List.getD_eq_getElem?_getD (l := ms) (i := i), List.getElem?_eq_getElem (hl i hi)]; rfl
  constructor
  · intro h
    have h' : ∀ i ∈ l, ∀ j ∈ l, i ≠ j → ms.getD i 0 &&& ms.getD j 0 = 0 := fun i hi j hj hij => by
      have := List.all_eq_true.mp (List.all_eq_true.mp h i hi) j hj
      rw [key i hi j hj, beq_eq_false_iff_ne.mpr hij, Bool.false_or] at this
      simpa using this
    exact List.Pairwise.imp_of_mem (fun hi hj hij => h' _ hi _ hj hij) hn
  · intro h
    have h2 : ∀ i ∈ l, ∀ j ∈ l, i ≠ j → ms.getD i 0 &&& ms.getD j 0 = 0 := by
      intro i hi j hj hij
      obtain ⟨a, ha, rfl⟩ := List.getElem_of_mem hi
      obtain ⟨b, hb, rfl⟩ := List.getElem_of_mem hj
      have hp := List.pairwise_iff_getElem.mp h
      rcases Nat.lt_trichotomy a b with q | q | q
      · exact hp a b ha hb q
      · subst q; exact absurd rfl hij
      · rw [Nat.and_comm]; exact hp b a hb ha q
    refine List.all_eq_true.mpr fun i hi => List.all_eq_true.mpr fun j hj => ?_
    rw [key i hi j hj]
    by_cases q : i = j
    · simp [q]
    · rw [h2 i hi j hj q]; simp
theorem memD_nodup (c ch : Nat) : (memD c ch).Nodup := List.Nodup.sublist List.filter_sublist List.nodup_range
theorem sgnStep_eq (ms : List Nat) (among : Nat) (cv : List Int) (ch : Nat) : sgnStep ms among cv ch = aSgnStep (dmOf ms) ms.length among cv ch := by
  have hmem : membN ms ch = (memD ms.length ch).map fun d => ms.getD d 0 := rfl
  have hlen : (membN ms ch).length = (memD ms.length ch).length := by rw [hmem, List.length_map]
  have hc : ((membN ms ch).sum = orN (membN ms ch)) ↔ indep (dmOf ms) (memD ms.length ch) = true := by
    rw [indep_iff ms (memD ms.length ch) (fun i hi => List.mem_range.mp (List.mem_filter.mp hi).1) (memD_nodup _ _), ← hmem]
    have := sum_eq_or (membN ms ch) 0
    rw [Nat.zero_add] at this
    exact this.trans ⟨fun h => h.2, fun h => ⟨fun x _ => Nat.zero_and x, h⟩⟩
  unfold sgnStep aSgnStep
  rw [hlen]
  by_cases q : ch &&& among = ch ∧ indep (dmOf ms) (memD ms.length ch) = true
  · rw [if_pos q, if_pos ⟨q.1, hc.mpr q.2⟩]
  · rw [if_neg q, if_neg fun x => q ⟨x.1, hc.mp x.2⟩]
theorem sgn_eq (ms : List Nat) (among : Nat) : sgn ms among = aSgn (dmOf ms) ms.length among := by
  unfold sgn aSgn
  have : sgnStep ms among = aSgnStep (dmOf ms) ms.length among := by funext cv ch; exact sgnStep_eq ms among cv ch
  rw [this]
def gcount (D : Nat) (ks : List Nat) : Nat := (ks.filter fun p => p &&& 63 &&& D == p &&& 63).length
def keysA (dm : List (List Bool)) (c n : Nat) : List Nat := (aRound dm c n).map (·.2)
def chkQ (dm : List (List Bool)) (c : Nat) (V : Int) (W among b0 b1 b2 b3 : Nat) : Bool :=
  let N := valN W (aSgn dm c among)
  decide (0 ≤ N) && (N.toNat * 2 ^ (3 * W) / V.toNat == b3 + 2 ^ W * (b2 + 2 ^ W * (b1 + 2 ^ W * b0)))
def chkG (dm : List (List Bool)) (c : Nat) : Bool :=
  let k1 := keysA dm c 1
  let k2 := keysA dm c 2
  let k3 := keysA dm c 3
  (List.range 9).all fun i => 
    let V := valN (12 + i) (aSgn dm c (2 ^ c - 1))
    decide (0 < V) && chkQ dm c V (12 + i) 0 1 k1.length k2.length k3.length && (List.range (2 ^ c)).all fun D => chkQ dm c V (12 + i) (2 ^ c - 1 - D) 1 (gcount D k1) (gcount D k2) (gcount D k3)
def dm3 (a b c : Bool) : List (List Bool) := [[true, a, b], [a, true, c], [b, c, true]]
def dm4 (a b c d e f : Bool) : List (List Bool) := [[true, a, b, c], [a, true, d, e], [b, d, true, f], [c, e, f, true]]
def bools : List Bool := [false, true]
theorem chk3 : (bools.all fun a => bools.all fun b => bools.all fun c => chkG (dm3 a b c) 3) = true := by decide +kernel
end Mine
end
section
open PySem PySem.W PyProof.Rows
set_option Elab.async false
set_option maxRecDepth 100000
set_option maxHeartbeats 4000000
namespace Mine
theorem chk4_fff : (bools.all fun d => bools.all fun e => bools.all fun f => chkG (dm4 false false false d e f) 4) = true := by decide +kernel
theorem chk4_fft : (bools.all fun d => bools.all fun e => bools.all fun f => chkG (dm4 false false true d e f) 4) = true := by decide +kernel
theorem chk4_ftf : (bools.all fun d => bools.all fun e => bools.all fun f => chkG (dm4 false true false d e f) 4) = true := by decide +kernel
theorem chk4_ftt : (bools.all fun d => bools.all fun e => bools.all fun f => chkG (dm4 false true true d e f) 4) = true := by decide +kernel
theorem chk4_tff : (bools.all fun d => bools.all fun e => bools.all fun f => chkG (dm4 true false false d e f) 4) = true := by decide +kernel
theorem chk4_tft : (bools.all fun d => bools.all fun e => bools.all fun f => chkG (dm4 true false true d e f) 4) = true := by decide +kernel
theorem chk4_ttf : (bools.all fun d => bools.all fun e => bools.all fun f => chkG (dm4 true true false d e f) 4) = true := by decide +kernel
theorem chk4_ttt : (bools.all fun d => bools.all fun e => bools.all fun f => chkG (dm4 true true true d e f) 4) = true := by decide +kernel
theorem bool_mem (b : Bool) : b ∈ bools := by cases b <;> simp [bools]
theorem all3 {p : Bool → Bool → Bool → Bool} (h : (bools.all fun d => bools.all fun e => bools.all fun f => p d e f) = true) (d e f : Bool) : p d e f = true :=
  List.all_eq_true.mp (List.all_eq_true.mp (List.all_eq_true.mp h _ (bool_mem d)) _ (bool_mem e)) _ (bool_mem f)
theorem chk4 : ∀ a b c d e f : Bool, chkG (dm4 a b c d e f) 4 = true
  | false, false, false, d, e, f => all3 chk4_fff d e f
  | false, false, true, d, e, f => all3 chk4_fft d e f
  | false, true, false, d, e, f => all3 chk4_ftf d e f
  | false, true, true, d, e, f => all3 chk4_ftt d e f
  | true, false, false, d, e, f => all3 chk4_tff d e f
  | true, false, true, d, e, f => all3 chk4_tft d e f
  | true, true, false, d, e, f => all3 chk4_ttf d e f
  | true, true, true, d, e, f => all3 chk4_ttt d e f
end Mine
end
section
open PySem PySem.W PyProof.Rows
set_option Elab.async false
set_option maxRecDepth 100000
set_option maxHeartbeats 4000000
namespace Mine
theorem self_and {x : Nat} (h : 1 ≤ x) : ((x &&& x) != 0) = true := by rw [Nat.and_self]; simp; omega
theorem chk_all (ms : List Nat) (hm : masksOk ms) : chkG (dmOf ms) ms.length = true := by
  obtain ⟨hl, hx⟩ := hm
  rcases hl with hl | hl
  · match ms, hl with
    | [a, b, c], _ =>
      have ha := (hx a (by simp)).1
      have hb := (hx b (by simp)).1
      have hc := (hx c (by simp)).1
      have e : dmOf [a, b, c] = dm3 ((b &&& a) != 0) ((c &&& a) != 0) ((c &&& b) != 0) := by
        simp only [dmOf, dm3, List.map_cons, List.map_nil, self_and ha, self_and hb, self_and hc, Nat.and_comm a b, Nat.and_comm a c, Nat.and_comm b c]
      rw [e]
      exact List.all_eq_true.mp (List.all_eq_true.mp (List.all_eq_true.mp chk3 _ (bool_mem _)) _ (bool_mem _)) _ (bool_mem _)
  · match ms, hl with
    | [a, b, c, d], _ =>
      have ha := (hx a (by simp)).1
      have hb := (hx b (by simp)).1
      have hc := (hx c (by simp)).1
      have hd := (hx d (by simp)).1
      have e : dmOf [a, b, c, d] = dm4 ((b &&& a) != 0) ((c &&& a) != 0) ((d &&& a) != 0) ((c &&& b) != 0) ((d &&& b) != 0) ((d &&& c) != 0) := by
        simp only [dmOf, dm4, List.map_cons, List.map_nil, self_and ha, self_and hb, self_and hc, self_and hd, Nat.and_comm a b, Nat.and_comm a c, Nat.and_comm b c, Nat.and_comm a d, Nat.and_comm b d, Nat.and_comm c d]
      rw [e]
      exact chk4 _ _ _ _ _ _
/-- the piles of a round, as the program has them -/
def keysR (ms : List Nat) (n : Nat) : List Nat := (roundN ms n).map keyE
theorem keysR_eq (ms : List Nat) (hm : masksOk ms) (n : Nat) : keysR ms n = keysA (dmOf ms) ms.length n := round_keys ms hm n
def quot (ms : List Nat) (W among : Nat) : Nat := (valN W (sgn ms among)).toNat * 2 ^ (3 * W) / (valN W (sgn ms (2 ^ ms.length - 1))).toNat
theorem counts_law (ms : List Nat) (hm : masksOk ms) (W : Nat) (h1 : 12 ≤ W) (h2 : W ≤ 20) (D : Nat) (hD : D < 2 ^ ms.length) :
    0 < valN W (sgn ms (2 ^ ms.length - 1)) ∧ 0 ≤ valN W (sgn ms 0) ∧ 0 ≤ valN W (sgn ms (2 ^ ms.length - 1 - D)) ∧
    quot ms W 0 = (keysR ms 3).length + 2 ^ W * ((keysR ms 2).length + 2 ^ W * ((keysR ms 1).length + 2 ^ W * 1)) ∧
    quot ms W (2 ^ ms.length - 1 - D) = gcount D (keysR ms 3) + 2 ^ W * (gcount D (keysR ms 2) + 2 ^ W * (gcount D (keysR ms 1) + 2 ^ W * 1)) := by
  have h := List.all_eq_true.mp (chk_all ms hm) (W - 12) (List.mem_range.mpr (by omega))
  rw [show 12 + (W - 12) = W by omega] at h
  simp only [Bool.and_eq_true, decide_eq_true_eq] at h
  obtain ⟨⟨a1, a2⟩, a3⟩ := h
  have a4 := List.all_eq_true.mp a3 D (List.mem_range.mpr hD)
  unfold chkQ at a2 a4
  simp only [Bool.and_eq_true, decide_eq_true_eq, beq_iff_eq] at a2 a4
  unfold quot
  rw [keysR_eq ms hm, keysR_eq ms hm, keysR_eq ms hm]
  simp only [sgn_eq]
  exact ⟨a1, a2.1, a4.1, a2.2, a4.2⟩
theorem keys_len (ms : List Nat) (hm : masksOk ms) (n : Nat) (hn : n ≤ 3) : (keysR ms n).length ≤ 64 := by
  unfold keysR
  rw [List.length_map]
  have := round_len ms (by rcases hm.1 with q | q <;> omega) n
  have h9 : 4 ^ n ≤ 4 ^ 3 := Nat.pow_le_pow_right (by decide) hn
  omega
theorem gcount_le (D : Nat) (ks : List Nat) : gcount D ks ≤ ks.length := List.length_filter_le _ _
theorem digs_cons (W n a y : Nat) (h : a < 2 ^ W) : digsN W (n + 1) (a + 2 ^ W * y) = a :: digsN W n y := by
  have := digsN_split W 1 n (a + 2 ^ W * y)
  rw [Nat.mul_one] at this
  have e1 : (a + 2 ^ W * y) % 2 ^ W = a := by rw [Nat.add_mul_mod_self_left, Nat.mod_eq_of_lt h]
  have e2 : (a + 2 ^ W * y) / 2 ^ W = y := by rw [Nat.add_mul_div_left _ _ (Nat.two_pow_pos W), Nat.div_eq_of_lt h, Nat.zero_add]
  rw [e1, e2, digsN_one W a h] at this
  rw [Nat.add_comm n 1, this]; rfl
theorem four_digits (W : Nat) (h1 : 12 ≤ W) (a b c : Nat) (ha : a ≤ 64) (hb : b ≤ 64) (hc : c ≤ 64) : nDig W (a + 2 ^ W * (b + 2 ^ W * (c + 2 ^ W * 1))) = 4 ∧ digsN W 4 (a + 2 ^ W * (b + 2 ^ W * (c + 2 ^ W * 1))) = [a, b, c, 1] := by
  have hX : 4096 ≤ 2 ^ W := Nat.le_trans (by decide) (Nat.pow_le_pow_right (by decide) h1 : 2 ^ 12 ≤ 2 ^ W)
  constructor
  · have e3 : 2 ^ (W * 3) = 2 ^ W * (2 ^ W * 2 ^ W) := by rw [Nat.pow_mul, Nat.pow_succ, Nat.pow_succ, Nat.pow_one, Nat.mul_assoc]
    have e4 : 2 ^ (W * 4) = 2 ^ W * (2 ^ W * (2 ^ W * 2 ^ W)) := by rw [Nat.pow_mul, Nat.pow_succ, Nat.pow_succ, Nat.pow_succ, Nat.pow_one, Nat.mul_assoc, Nat.mul_assoc]
    generalize 2 ^ W = X at hX e3 e4 ⊢
    have i1 : c + X * 1 < X * X := by have := Nat.mul_le_mul hX (Nat.le_refl X); omega
    have i2 : b + X * (c + X * 1) < X * (X * X) := by
      have h5 : X * (c + X * 1 + 1) ≤ X * (X * X) := Nat.mul_le_mul_left X i1
      rw [Nat.mul_add] at h5
      omega
    have i3 : a + X * (b + X * (c + X * 1)) < X * (X * (X * X)) := by
      have h5 : X * (b + X * (c + X * 1) + 1) ≤ X * (X * (X * X)) := Nat.mul_le_mul_left X i2
      rw [Nat.mul_add] at h5
      omega
    have j1 : X * (X * X) ≤ a + X * (b + X * (c + X * 1)) := by
      have h6 : X * (X * X) ≤ X * (b + X * (c + X * 1)) := Nat.mul_le_mul_left X (Nat.le_trans (Nat.mul_le_mul_left X (by omega)) (Nat.le_add_left _ b))
      omega
    generalize a + X * (b + X * (c + X * 1)) = q at i3 j1 ⊢
    have b1 : Builtin.Int.intBits ((q : Nat) : Int) ≤ W * 4 := intBits_le_iff.mpr (by rw [Int.natAbs_natCast, e4]; exact i3)
    have b2 : ¬ Builtin.Int.intBits ((q : Nat) : Int) ≤ W * 3 := fun h => by
      have := intBits_le_iff.mp h
      rw [Int.natAbs_natCast, e3] at this
      omega
    unfold nDig
    exact Nat.div_eq_of_lt_le (by omega) (by omega)
  · rw [digs_cons W 3 a _ (by omega), digs_cons W 2 b _ (by omega), digs_cons W 1 c _ (by omega), digsN_one W 1 (by omega)]
end Mine
end
section
open PySem PySem.W PyProof.Rows
set_option Elab.async false
set_option maxRecDepth 100000
set_option maxHeartbeats 4000000
namespace Mine
def proj (ms : List Nat) (r : Nat) (ws : List Nat) : List Nat := ws.filter fun d => (ms.getD d 0).testBit r
def stepP (ms : List Nat) (st : List Nat × Nat) (d : Nat) : List Nat × Nat := (dropH (ms.getD d 0) st.1, st.2 + 2 ^ d * 64 ^ tallestH (ms.getD d 0) st.1)
def runP (ms ws : List Nat) : List Nat × Nat := ws.foldl (stepP ms) ([0, 0, 0, 0], 0)
theorem runP_snoc (ms ws : List Nat) (d : Nat) : runP ms (ws ++ [d]) = stepP ms (runP ms ws) d := by simp [runP]
theorem runP_eq (ms : List Nat) (hm : masksOk ms) (ws : List Nat) : (∀ d ∈ ws, d < ms.length) → ((pileRun ms ws).1, num (pileRun ms ws).2) = runP ms ws := by
  induction ws using snocInd with
  | nil => intro _; rfl
  | snoc ws d ih =>
    intro h
    have hw : ∀ x ∈ ws, x < ms.length := fun x hx => h x (by simp [hx])
    rw [runP_snoc, pileRun_snoc, ← ih hw]
    show (dropH _ _, num (dropL _ _ _ _)) = _
    rw [num_dropL _ _ _ _ (tallest_le (pileOk_run ms hm ws hw).below)]; rfl
theorem mask_le (ms : List Nat) (hm : masksOk ms) {d : Nat} (h : d < ms.length) : 1 ≤ ms.getD d 0 ∧ ms.getD d 0 ≤ 15 := hm.2 _ (getD_mem ms d h)
theorem bit4 {x r : Nat} (h : x ≤ 15) (hb : x.testBit r = true) : r < 4 := by
  rcases Nat.lt_or_ge r 4 with q | q
  · exact q
  · rw [Nat.testBit_lt_two_pow (Nat.lt_of_lt_of_le (show x < 2 ^ 4 by omega) (Nat.pow_le_pow_right (by decide) q))] at hb
    exact absurd hb Bool.false_ne_true
theorem dropH_comm {a b : Nat} {hs : List Nat} (ha : a ≤ 15) (hb : b ≤ 15) (h : a &&& b = 0) : dropH a (dropH b hs) = dropH b (dropH a hs) := by
  have h' : b &&& a = 0 := by rw [Nat.and_comm]; exact h
  have e1 : tallestH a (dropH b hs) = tallestH a hs := by rw [tallest_drop ha, if_neg (by simp [h])]
  have e2 : tallestH b (dropH a hs) = tallestH b hs := by rw [tallest_drop hb, if_neg (by simp [h'])]
  unfold dropH at *
  apply List.map_congr_left
  intro r hr
  have hr4 := List.mem_range.mp hr
  have g1 := dropH_get (m := b) (hs := hs) hr4
  have g2 := dropH_get (m := a) (hs := hs) hr4
  unfold dropH at g1 g2
  rw [e1, e2, g1, g2]
  by_cases qa : a.testBit r = true
  · have qb : b.testBit r = false := by
      cases q : b.testBit r with
      | false => rfl
      | true => exact absurd h (bit_and qa q)
    simp [qa, qb]
  · simp [qa]
theorem stepP_comm (ms : List Nat) (hm : masksOk ms) {a b : Nat} (ha : a < ms.length) (hb : b < ms.length) (h : ms.getD a 0 &&& ms.getD b 0 = 0) (st : List Nat × Nat) : stepP ms (stepP ms st a) b = stepP ms (stepP ms st b) a := by
  have la := (mask_le ms hm ha).2
  have lb := (mask_le ms hm hb).2
  have h' : ms.getD b 0 &&& ms.getD a 0 = 0 := by rw [Nat.and_comm]; exact h
  unfold stepP
  dsimp only
  rw [tallest_drop lb, if_neg (fun q => q h'), tallest_drop la, if_neg (fun q => q h), dropH_comm lb la h', Nat.add_right_comm]
theorem move (ms : List Nat) (hm : masksOk ms) {d : Nat} (hd : d < ms.length) : ∀ (u : List Nat) (st : List Nat × Nat), (∀ x ∈ u, x < ms.length) → (∀ x ∈ u, ms.getD d 0 &&& ms.getD x 0 = 0) → (d :: u).foldl (stepP ms) st = (u ++ [d]).foldl (stepP ms) st
  | [], _, _, _ => rfl
  | x :: t, st, h1, h2 => by
    have := move ms hm hd t (stepP ms st x) (fun y hy => h1 y (.tail _ hy)) (fun y hy => h2 y (.tail _ hy))
    rw [List.cons_append, List.foldl_cons, List.foldl_cons, List.foldl_cons, ← this, List.foldl_cons, stepP_comm ms hm hd (h1 x (.head _)) (h2 x (.head _))]
theorem last_split {d : Nat} {v : List Nat} (h : d ∈ v) : ∃ v1 v2, v = v1 ++ d :: v2 ∧ d ∉ v2 := by
  induction v with
  | nil => cases h
  | cons x t ih =>
    by_cases q : d ∈ t
    · obtain ⟨v1, v2, e, n⟩ := ih q
      exact ⟨x :: v1, v2, by rw [e]; rfl, n⟩
    · rcases List.mem_cons.mp h with rfl | h
      · exact ⟨[], t, rfl, q⟩
      · exact absurd h q
theorem tail_nil {d : Nat} {X Y Z : List Nat} (h : X ++ d :: Y = Z ++ [d]) (n : d ∉ Y) : Y = [] ∧ X = Z := by
  have hY : Y = [] := by
    cases hr : Y.reverse with
    | nil => exact List.reverse_eq_nil_iff.mp hr
    | cons y t =>
      have e := congrArg List.reverse h
      rw [List.reverse_append, List.reverse_append, List.reverse_cons, hr] at e
      have : y = d := by simpa using congrArg List.head? e
      exact absurd (by rw [← this]; exact List.mem_reverse.mp (by rw [hr]; exact .head _)) n
  subst hY
  exact ⟨rfl, List.append_cancel_right h⟩
theorem has_row (ms : List Nat) (hm : masksOk ms) {d : Nat} (hd : d < ms.length) : ∃ r, r < 4 ∧ (ms.getD d 0).testBit r = true := by
  obtain ⟨r, hr⟩ := Nat.exists_testBit_of_ne_zero (show ms.getD d 0 ≠ 0 by have := (mask_le ms hm hd).1; omega)
  exact ⟨r, bit4 (mask_le ms hm hd).2 hr, hr⟩
theorem alike_runs (ms : List Nat) (hm : masksOk ms) (u : List Nat) : ∀ v, (∀ d ∈ u, d < ms.length) → (∀ d ∈ v, d < ms.length) → (∀ r, r < 4 → proj ms r u = proj ms r v) → runP ms u = runP ms v := by
  induction u using snocInd with
  | nil =>
    intro v _ hv h
    cases v with
    | nil => rfl
    | cons x t =>
      obtain ⟨r, hr, hb⟩ := has_row ms hm (hv x (.head _))
      have := h r hr
      unfold proj at this
      rw [List.filter_cons_of_pos (by exact hb)] at this
      cases this
  | snoc u d ih =>
    intro v hu hv h
    have hd : d < ms.length := hu d (by simp)
    obtain ⟨r0, hr0, hb0⟩ := has_row ms hm hd
    have hsn : ∀ r, (ms.getD d 0).testBit r = true → proj ms r (u ++ [d]) = proj ms r u ++ [d] := fun r hb => by
      unfold proj
      rw [List.filter_append, List.filter_cons_of_pos (by exact hb)]; rfl
    have hdv : d ∈ v := by
      have e := h r0 hr0
      rw [hsn r0 hb0] at e
      have : d ∈ proj ms r0 v := by rw [← e]; simp
      exact (List.mem_filter.mp this).1
    obtain ⟨v1, v2, rfl, hn⟩ := last_split hdv
    have hp : ∀ r, r < 4 → (ms.getD d 0).testBit r = true → proj ms r v2 = [] ∧ proj ms r v1 = proj ms r u := fun r hr hb => by
      have e := h r hr
      rw [hsn r hb] at e
      have e2 : proj ms r (v1 ++ d :: v2) = proj ms r v1 ++ d :: proj ms r v2 := by
        unfold proj
        rw [List.filter_append, List.filter_cons_of_pos (by exact hb)]
      rw [e2] at e
      exact tail_nil e.symm fun q => hn (List.mem_filter.mp q).1
    have hdis : ∀ x ∈ v2, ms.getD d 0 &&& ms.getD x 0 = 0 := fun x hx => by
      refine Classical.byContradiction fun q => ?_
      obtain ⟨r, hr⟩ := Nat.exists_testBit_of_ne_zero q
      rw [Nat.testBit_and, Bool.and_eq_true] at hr
      have hr4 := bit4 (mask_le ms hm hd).2 hr.1
      have hm2 : x ∈ proj ms r v2 := List.mem_filter.mpr ⟨hx, hr.2⟩
      rw [(hp r hr4 hr.1).1] at hm2
      cases hm2
    have hv2 : ∀ x ∈ v2, x < ms.length := fun x hx => hv x (by simp [hx])
    have e1 : runP ms (v1 ++ d :: v2) = runP ms ((v1 ++ v2) ++ [d]) := by
      unfold runP
      rw [List.foldl_append, move ms hm hd v2 _ hv2 hdis, ← List.foldl_append, List.append_assoc]
    rw [e1, runP_snoc, runP_snoc]
    congr 1
    refine ih (v1 ++ v2) (fun x hx => hu x (by simp [hx])) (fun x hx => hv x (by rcases List.mem_append.mp hx with q | q <;> simp [q])) fun r hr => ?_
    by_cases hb : (ms.getD d 0).testBit r = true
    · obtain ⟨q1, q2⟩ := hp r hr hb
      unfold proj at *
      rw [List.filter_append, q1, q2, List.append_nil]
    · have e := h r hr
      unfold proj at *
      rw [List.filter_append, List.filter_append, List.filter_cons_of_neg (by exact hb), List.filter_cons_of_neg (by exact hb), List.filter_nil, List.append_nil] at e
      rw [List.filter_append]; exact e
end Mine
end
section
open PySem PySem.W PyProof.Rows
set_option Elab.async false
set_option maxRecDepth 100000
set_option maxHeartbeats 4000000
namespace Mine
def atL (ms : List Nat) (r x : Nat) : List Nat := (List.range ms.length).filter fun d => x.testBit d && (ms.getD d 0).testBit r
def lev (ms : List Nat) (r : Nat) (ls : List Nat) : List Nat := ls.flatMap (atL ms r)
structure Low (ms : List Nat) (hs ls : List Nat) : Prop where
  low : ∀ j d r, d < ms.length → r < 4 → (ls.getD j 0).testBit d = true → (ms.getD d 0).testBit r = true → j < hs.getD r 0
theorem atL_zero (ms : List Nat) (r : Nat) : atL ms r 0 = [] := by unfold atL; simp
theorem lev_app (ms : List Nat) (r : Nat) (a b : List Nat) : lev ms r (a ++ b) = lev ms r a ++ lev ms r b := by unfold lev; rw [List.flatMap_append]
theorem lev_none (ms : List Nat) (r : Nat) (ls : List Nat) (h : ∀ x ∈ ls, atL ms r x = []) : lev ms r ls = [] := by
  unfold lev
  rw [List.flatMap_eq_nil_iff]; exact h
theorem bit_add {x d : Nat} (h : x.testBit d = false) : x + 2 ^ d = x ||| 2 ^ d := by
  have h1 := or_add_and' x (2 ^ d)
  have h2 : x &&& 2 ^ d = 0 := by
    apply Nat.eq_of_testBit_eq
    intro i
    rw [Nat.testBit_and, Nat.testBit_two_pow, Nat.zero_testBit]
    by_cases q : d = i
    · subst q; simp [h]
    · simp [q]
  omega
where
  or_add_and' (a b : Nat) : (a ||| b) + (a &&& b) = a + b := by
    induction a using Nat.strongRecOn generalizing b with
    | ind a ih =>
      rcases Nat.eq_zero_or_pos a with rfl | ha
      · simp
      · have h := ih (a / 2) (by omega) (b / 2)
        rw [← Nat.or_div_two, ← Nat.and_div_two] at h
        have h1 := Nat.div_add_mod (a ||| b) 2
        have h2 := Nat.div_add_mod (a &&& b) 2
        have h3 : (a ||| b) % 2 + (a &&& b) % 2 = a % 2 + b % 2 := by
          have e1 : (a ||| b) % 2 = (a % 2) ||| (b % 2) := Nat.or_mod_two_pow (n := 1)
          have e2 : (a &&& b) % 2 = (a % 2) &&& (b % 2) := Nat.and_mod_two_pow (n := 1)
          rw [e1, e2]
          have q1 : a % 2 = 0 ∨ a % 2 = 1 := by omega
          have q2 : b % 2 = 0 ∨ b % 2 = 1 := by omega
          rcases q1 with q1 | q1 <;> rcases q2 with q2 | q2 <;> rw [q1, q2] <;> decide
        omega
theorem filter_one {c d : Nat} (h : d < c) : ((List.range c).filter fun x => x == d) = [d] := by
  induction c with
  | zero => omega
  | succ c ih =>
    rw [List.range_succ, List.filter_append]
    by_cases q : d = c
    · subst q
      rw [List.filter_eq_nil_iff.mpr fun x hx => by have := List.mem_range.mp hx; simp; omega]
      simp
    · rw [ih (by omega), List.filter_cons_of_neg (by simp; omega)]; rfl
theorem dropL_lev (ms : List Nat) (hm : masksOk ms) (d : Nat) (hd : d < ms.length) (hs ls : List Nat) (hT : tallestH (ms.getD d 0) hs ≤ ls.length) (LO : Low ms hs ls) :
    Low ms (dropH (ms.getD d 0) hs) (dropL (ms.getD d 0) d hs ls) ∧ ∀ r, r < 4 → lev ms r (dropL (ms.getD d 0) d hs ls) = lev ms r ls ++ (if (ms.getD d 0).testBit r then [d] else []) := by
  have e0 := dropL_eq (ms.getD d 0) d hs ls hT
  generalize hTT : tallestH (ms.getD d 0) hs = T at e0 hT
  have hl0 : ∀ j, (if T = ls.length then ls ++ [0] else ls).getD j 0 = ls.getD j 0 := fun j => by
    split
    · rw [List.getD_eq_getElem?_getD, List.getD_eq_getElem?_getD]
      by_cases q : j < ls.length
      · rw [List.getElem?_append_left q]
      · rw [List.getElem?_append_right (by omega), List.getElem?_eq_none (l := ls) (by omega)]
        cases j - ls.length <;> rfl
    · rfl
  have hlev0 : ∀ r, lev ms r (if T = ls.length then ls ++ [0] else ls) = lev ms r ls := fun r => by
    split
    · rw [lev_app]
      have : lev ms r [0] = [] := lev_none ms r [0] fun x hx => by rw [List.mem_singleton.mp hx]; exact atL_zero ms r
      rw [this, List.append_nil]
    · rfl
  have hlen0 : T < (if T = ls.length then ls ++ [0] else ls).length := by
    split
    · rw [List.length_append, List.length_singleton]; omega
    · omega
  generalize (if T = ls.length then ls ++ [0] else ls) = l0 at e0 hl0 hlev0 hlen0
  have LO0 : Low ms hs l0 := ⟨fun j x r a b c => LO.low j x r a b (by rw [← hl0]; exact c)⟩
  have hrow : ∀ r, r < 4 → (ms.getD d 0).testBit r = true → hs.getD r 0 ≤ T := fun r hr hb => by rw [← hTT]; exact tallest_ge ((touched_iff hr).mpr hb)
  obtain ⟨r0, hr0, hb0⟩ := has_row ms hm hd
  have hbit : (l0.getD T 0).testBit d = false := by
    cases q : (l0.getD T 0).testBit d with
    | false => rfl
    | true =>
      have h1 := LO0.low T d r0 hd hr0 q hb0
      have h2 := hrow r0 hr0 hb0
      omega
  rw [bit_add hbit] at e0
  rw [e0]
  have hnew : ∀ x, (l0.getD T 0 ||| 2 ^ d).testBit x = ((l0.getD T 0).testBit x || d == x) := fun x => by
    rw [Nat.testBit_or, Nat.testBit_two_pow]
    congr 1
  constructor
  · refine ⟨fun j x r hx hr hb ht => ?_⟩
    rw [dropH_get hr, hTT]
    have hset : (l0.set T (l0.getD T 0 ||| 2 ^ d)).getD j 0 = if T = j then l0.getD T 0 ||| 2 ^ d else l0.getD j 0 := by
      rw [List.getD_eq_getElem?_getD, List.getElem?_set]
      split
      · rfl
      · rw [List.getD_eq_getElem?_getD]
    rw [hset] at hb
    have old : ∀ j, (l0.getD j 0).testBit x = true → j < if (ms.getD d 0).testBit r = true then T + 1 else hs.getD r 0 := fun j hj => by
      have h1 := LO0.low j x r hx hr hj ht
      split
      · rename_i q; have := hrow r hr q; omega
      · exact h1
    by_cases q : T = j
    · rw [if_pos q, hnew, Bool.or_eq_true, beq_iff_eq] at hb
      rcases hb with hb | rfl
      · rw [← q]; exact old T hb
      · rw [if_pos ht]; omega
    · rw [if_neg q] at hb
      exact old j hb
  · intro r hr
    rw [← hlev0 r]
    have es : l0 = l0.take T ++ l0.getD T 0 :: l0.drop (T + 1) := by
      rw [List.getD_eq_getElem?_getD, List.getElem?_eq_getElem hlen0]
      show l0 = l0.take T ++ l0[T] :: l0.drop (T + 1)
      rw [← List.drop_eq_getElem_cons hlen0, List.take_append_drop]
    have es2 : l0.set T (l0.getD T 0 ||| 2 ^ d) = l0.take T ++ (l0.getD T 0 ||| 2 ^ d) :: l0.drop (T + 1) := by
      rw [List.set_eq_take_append_cons_drop, if_pos hlen0]
    rw [es2]
    conv => rhs; rw [es]
    have ec : ∀ (x : Nat) (t : List Nat), lev ms r (x :: t) = atL ms r x ++ lev ms r t := fun x t => by unfold lev; rw [List.flatMap_cons]
    rw [lev_app, lev_app, ec, ec]
    by_cases hb : (ms.getD d 0).testBit r = true
    · rw [if_pos hb]
      have z1 : atL ms r (l0.getD T 0) = [] := List.filter_eq_nil_iff.mpr fun x hx q => by
        rw [Bool.and_eq_true] at q
        have := LO0.low T x r (List.mem_range.mp hx) hr q.1 q.2
        have := hrow r hr hb
        omega
      have z2 : lev ms r (l0.drop (T + 1)) = [] := lev_none ms r _ fun y hy => List.filter_eq_nil_iff.mpr fun x hx q => by
        rw [Bool.and_eq_true] at q
        obtain ⟨i, hi, rfl⟩ := List.getElem_of_mem hy
        rw [List.getElem_drop] at q
        have := LO0.low (T + 1 + i) x r (List.mem_range.mp hx) hr (by rw [List.getD_eq_getElem?_getD, List.getElem?_eq_getElem]; exact q.1) q.2
        have := hrow r hr hb
        omega
      have z3 : atL ms r (l0.getD T 0 ||| 2 ^ d) = [d] := by
        rw [← filter_one hd]
        unfold atL
        apply List.filter_congr
        intro x hx
        rw [hnew]
        by_cases q : d = x
        · subst q; rw [hb, beq_self_eq_true, Bool.or_true, Bool.and_true]
        · have : ((l0.getD T 0).testBit x && (ms.getD x 0).testBit r) = false := by
            have := List.filter_eq_nil_iff.mp z1 x hx
            simpa using this
          rw [show (d == x) = false from beq_eq_false_iff_ne.mpr q, Bool.or_false, this]
          exact (beq_eq_false_iff_ne.mpr (Ne.symm q)).symm
      rw [z1, z2, z3, List.append_nil, List.append_nil, List.append_nil]
    · rw [if_neg hb, List.append_nil]
      congr 2
      unfold atL
      apply List.filter_congr
      intro x _
      rw [hnew]
      by_cases q : d = x
      · subst q
        rw [show (ms.getD d 0).testBit r = false from Bool.eq_false_iff.mpr hb, Bool.and_false, Bool.and_false]
      · rw [show (d == x) = false from beq_eq_false_iff_ne.mpr q, Bool.or_false]
theorem lev_run (ms : List Nat) (hm : masksOk ms) (ws : List Nat) : (∀ d ∈ ws, d < ms.length) → Low ms (pileRun ms ws).1 (pileRun ms ws).2 ∧ ∀ r, r < 4 → lev ms r (pileRun ms ws).2 = proj ms r ws := by
  induction ws using snocInd with
  | nil =>
    intro _
    refine ⟨⟨fun j d r _ _ h _ => ?_⟩, fun r _ => rfl⟩
    have : ([] : List Nat).getD j 0 = 0 := rfl
    have h : (([] : List Nat).getD j 0).testBit d = true := h
    rw [this, Nat.zero_testBit] at h
    cases h
  | snoc ws d ih =>
    intro h
    have hw : ∀ x ∈ ws, x < ms.length := fun x hx => h x (by simp [hx])
    have hd : d < ms.length := h d (by simp)
    obtain ⟨i1, i2⟩ := ih hw
    obtain ⟨j1, j2⟩ := dropL_lev ms hm d hd _ _ (tallest_le (pileOk_run ms hm ws hw).below) i1
    rw [pileRun_snoc]
    refine ⟨j1, fun r hr => ?_⟩
    show lev ms r (dropL _ _ _ _) = _
    rw [j2 r hr, i2 r hr]
    unfold proj
    rw [List.filter_append]
    by_cases q : (ms.getD d 0).testBit r = true
    · rw [if_pos q, List.filter_cons_of_pos (by exact q)]; rfl
    · rw [if_neg q, List.filter_cons_of_neg (by exact q)]; rfl
theorem num_inj {a b : List Nat} (a1 : ∀ x ∈ a, 1 ≤ x) (a2 : ∀ x ∈ a, x < 64) (b1 : ∀ x ∈ b, 1 ≤ x) (b2 : ∀ x ∈ b, x < 64) (h : num a = num b) : a = b := by
  have e1 := nDig_num a1 a2
  have e2 := nDig_num b1 b2
  rw [h, e2] at e1
  rw [← digsN_num a2, ← digsN_num b2, h, e1]
theorem alike_law (ms : List Nat) (hm : masksOk ms) (u v : List Nat) (hu : ∀ d ∈ u, d < ms.length) (hv : ∀ d ∈ v, d < ms.length) (lu : u.length ≤ 7) (lv : v.length ≤ 7) :
    num (pileRun ms u).2 = num (pileRun ms v).2 ↔ ∀ r, r < 4 → proj ms r u = proj ms r v := by
  constructor
  · intro h r hr
    have pu := pileOk_run ms hm u hu
    have pv := pileOk_run ms hm v hv
    have e := num_inj (fun x hx => (pu.levels x hx).1) (fun x hx => by have := (pu.levels x hx).2; omega) (fun x hx => (pv.levels x hx).1) (fun x hx => by have := (pv.levels x hx).2; omega) h
    rw [← (lev_run ms hm u hu).2 r hr, ← (lev_run ms hm v hv).2 r hr, e]
  · intro h
    have := alike_runs ms hm u v hu hv h
    rw [← runP_eq ms hm u hu, ← runP_eq ms hm v hv] at this
    exact congrArg (·.2) this
end Mine
end
section
open PySem PySem.W PyProof.Rows
set_option Elab.async false
set_option maxRecDepth 100000
set_option maxHeartbeats 4000000
namespace Mine
theorem eqv_ints (ns : List Int) : PyData.eqvAll (ns.map PyData.int) (ns.map PyData.int) = true := by rw [ked_eqvAll]; simp
theorem reads_ll {h : Heap} {a a0 a1 : Addr} {v0 v1 : List Value} {n0 n1 : List Int} (ha : h.IsList a #[.ref a0, .ref a1]) (h0 : h.IsList a0 v0.toArray) (h1 : h.IsList a1 v1.toArray) (i0 : IntsAre v0 n0) (i1 : IntsAre v1 n1) :
    ∃ as, Reads h (.ref a) (.list [.list (n0.map PyData.int), .list (n1.map PyData.int)]) as := by
  obtain ⟨o, e, c, n, d⟩ := ha
  exact ⟨_, reads_list_at e c d (.cons (reads_of_ints h0 i0) (.cons (reads_of_ints h1 i1) .nil))⟩
theorem c_neLL {w : World} {A : Around} {E : Value → Shared → Prop} {s : Shared} {a a0 a1 b b0 b1 : Addr} {v0 v1 u0 u1 : List Value} {p q r t p' q' r' t' : Int} {Q : Value → Shared → Prop}
    (ha : s.heap.IsList a #[.ref a0, .ref a1]) (h0 : s.heap.IsList a0 v0.toArray) (h1 : s.heap.IsList a1 v1.toArray) (i0 : IntsAre v0 [p, q, r, t]) (i1 : IntsAre v1 [p', q', r', t'])
    (hb : s.heap.IsList b #[.ref b0, .ref b1]) (k0 : s.heap.IsList b0 u0.toArray) (k1 : s.heap.IsList b1 u1.toArray) (j0 : IntsAre u0 [p, q, r, t]) (j1 : IntsAre u1 [p', q', r', t'])
    (hu : A.units + 64 < cLine) (h : Q (.bool false) s) : wpAny (model PW w) A (compareOp .NotEq (.ref a) (.ref b)) Q E s := by
  obtain ⟨as, ra⟩ := reads_ll ha h0 h1 i0 i1
  obtain ⟨bs, rb⟩ := reads_ll hb k0 k1 j0 j1
  have hs : SeqAt.shaped (PyData.list [.list ([p, q, r, t].map PyData.int), .list ([p', q', r', t'].map PyData.int)]) = true := by first | rfl | decide | (simp [SeqAt.shaped, PyData.canLay0, PyData.canLayAll0, PyData.depth, PyData.depthAll]; done)
  refine ne_dataH ra rb hs hs hu ?_
  have e : PyData.eqv (PyData.list [.list ([p, q, r, t].map PyData.int), .list ([p', q', r', t'].map PyData.int)]) (PyData.list [.list ([p, q, r, t].map PyData.int), .list ([p', q', r', t'].map PyData.int)]) = true := by
    simp only [PyData.eqv, PyData.eqvAll, List.map_cons, List.map_nil, beq_self_eq_true, Bool.and_true, decide_true]
  rw [e]
  exact h
end Mine
end
section
open PySem PySem.W PyProof.Rows
set_option Elab.async false
set_option maxRecDepth 100000
set_option maxHeartbeats 4000000
namespace Mine
def BL (B : Addr → Option Obj) (a : Addr) (vs : List Value) : Prop := ∃ o, B a = some o ∧ o.cls = .type "list" ∧ ∃ n, o.data = .seq vs.toArray n
section
variable {r : Shared} {B : Addr → Option Obj} {L : Addr} {m : List (Str × Value)} {l : List (Addr × Desc)} {s : Shared} {w : World} {A : Around} {E : Value → Shared → Prop}
theorem BL.at {a : Addr} {vs : List Value} (h : BL B a vs) (S : St r B L m l s) : s.heap.IsList a vs.toArray := let ⟨o, b, c, d⟩ := h; ⟨o, S.base _ _ b, c, d⟩
theorem b_fdiv {a b : Int} {t u : Tok} {Q : Value → Shared → Prop} (S : St r B L m l s) (hb : b ≠ 0) (hs : b.natAbs < 1073741824) (h : ∀ t s', St r B L m l s' → Q (.int (a.fdiv b) t) s') :
    wpAny (model PW w) A (binaryOp .FloorDiv (.int a t) (.int b u)) Q E s := floordiv_int hb (h _ _ (S.toks _)) (.inl (PyProof.noPylong_small hs))
theorem fmod_lt (a : Int) (c : Nat) (hc : 0 < c) : ∃ d : Nat, d < c ∧ a.fmod c = d := by
  have h1 : 0 ≤ a.fmod c := Int.fmod_nonneg_of_pos a (by omega)
  have h2 : a.fmod c < c := Int.fmod_lt_of_pos a (by omega)
  exact ⟨(a.fmod c).toNat, by omega, by omega⟩
end
def alikeTo (ms ws us : List Nat) (i : Nat) : Bool := (List.range i).all fun r => proj ms r ws == proj ms r us
abbrev cells5 (L : Addr) (cr : Option Value) (D c : Nat) (td tc : Tok) (an am : Addr) : List (Addr × Desc) := [(L + 5, OCell cr), (L + 4, OCell (some (.int D td))), (L + 3, OCell (some (.ref am))), (L + 2, OCell (some (.int c tc))), (L + 1, OCell (some (.ref an)))]
theorem law_tail (w : World) (A : Around) (Q : Value → Shared → Prop) {r : Shared} {B : Addr → Option Obj} {L : Addr} {m : List (Str × Value)} {l₀ : List (Addr × Desc)} {s : Shared} (RA : Room 15 A) (TB : TopB w B) (hR : ∀ h : Heap, (∀ b o, B b = some o → h.get? b = some o) → Ready w h)
    (an am : Addr) (nv mv : List Value) (xs : List Int) (ms : List Nat) (te : Tok) (e : Str) (cr : Option Value) (D : Nat) (td tc : Tok)
    (hn : BL B an nv) (hni : IntsAre nv xs) (hxl : xs.length = 8) (hm : BL B am mv) (hmi : IntsAre mv (ms.map fun (x : Nat) => (x : Int))) (hmo : masksOk ms) (he : endOk e)
    (S : St r B L m (cells5 L cr D ms.length td tc an am ++ l₀) s) (hme : m.lookup n_end = some (.str e te))
    (h : ∀ B' m' l' s', ExtB B B' → St r B' L m' (l' ++ l₀) s' → Q (.bool true) s') :
    wpAny (model PW w) A (execs ((bodyOf (fd_law w.params)).drop 13) (callEnvC (fd_law w.params) L 140)) (fun f s' => Q (retOf f) s') (fun _ _ => False) s := by
  have hh : A.handled = none := RA.handled
  have hml : ms.length = 3 ∨ ms.length = 4 := hmo.1
  obtain ⟨t5, hx5⟩ := ints_at hni (k := 5) (by omega)
  have S : St r B L m ((L + 5, OCell cr) :: (L + 4, OCell (some (.int D td))) :: (L + 3, OCell (some (.ref am))) :: (L + 2, OCell (some (.int ms.length tc))) :: (L + 1, OCell (some (.ref an))) :: l₀) s := S
  refine wpAny_execs_cons (e_assignComp (cl := [(n_numbers, L + 1), (n_count, L + 2)]) rfl rfl rfl rfl (Call_ (g_range S TB (PyProof.Rows.callWith_type1 (args_cons (e_int S fun _ _ S => args_nil (c_range (n := 5) S fun _ _ S => c_iterRange S (by decide) fun it _ S => ?_)))))))
  refine comp_goA (iter_range hh it 5) (fun j ys l' => l' = (L + 5, OCell cr) :: (L + 4, OCell (some (.int D td))) :: (L + 3, OCell (some (.ref am))) :: (L + 2, OCell (some (.int ms.length tc))) :: (L + 1, OCell (some (.ref an))) :: l₀ ∧ ∃ ws : List Nat, IntsAre ys (ws.map fun (y : Nat) => (y : Int)) ∧ ws.length = j ∧ ∀ d ∈ ws, d < ms.length) S ⟨rfl, [], .nil, rfl, fun _ h => nomatch h⟩ (fun _ _ _ _ _ _ _ _ _ => trivial) (fun j ys l' hj hI => ?_)
      (fun C acc j v ys mC l' s' hj hv hI S => ?_) (fun aw ys l' s' hI S => ?_)
  · obtain ⟨_, ws, q, q2, _⟩ := hI
    rw [ints_len q, List.length_map, q2, sizeLine_eq]; omega
  · obtain ⟨tj, rfl⟩ := hv
    obtain ⟨rfl, ws, hi1, hi2, hi3⟩ := hI
    refine wpAny_tests_nil ?_
    rw [if_pos rfl]
    refine wpAny_BinOp (wpAny_BinOp (Subscript_ (e_cell S (.tail _ (.tail _ (.tail _ (.tail _ (.tail _ (.tail _ (.tail _ (.head _)))))))) (e_int S fun _ _ S => t_item (hn.at S) (by omega) (by omega) hx5 (wpAny_BinOp (e_cell S (.tail _ (.tail _ (.tail _ (.tail _ (.tail _ (.tail _ (.head _))))))) (e_loc S rfl (b_pow S (by omega) (by omega) (by omega) fun _ _ S => ?_))))))))
    have hp : ((ms.length : Int) ^ ((j : Int).toNat)) = ((ms.length ^ j : Nat) : Int) := by rw [Int.toNat_natCast]; simp
    rw [hp]
    have hp1 : ms.length ^ j ≤ 4 ^ 5 := Nat.le_trans (Nat.pow_le_pow_left (by omega) j) (Nat.pow_le_pow_right (by decide) (by omega))
    have hp2 : 0 < ms.length ^ j := Nat.pow_pos (by omega)
    refine b_fdiv S (by omega) (by omega) fun _ _ S => ?_
    refine e_cell S (.tail _ (.tail _ (.tail _ (.tail _ (.tail _ (.tail _ (.head _))))))) (b_mod S (by omega) fun tz _ S => ?_)
    obtain ⟨d, hd1, hd2⟩ := fmod_lt ((xs.getD 5 0).fdiv ((ms.length ^ j : Nat) : Int)) ms.length (by omega)
    rw [hd2]
    refine ⟨_, _, S, rfl, ws ++ [d], ?_, by rw [List.length_append, hi2]; rfl, fun x hx => ?_⟩
    · rw [List.map_append]
      exact ints_append hi1 (.cons _ _ .nil)
    · rcases List.mem_append.mp hx with hx | hx
      · exact hi3 x hx
      · rw [List.mem_singleton.mp hx]; exact hd1
  obtain ⟨rfl, ws, hwi, hwl, hwd⟩ := hI
  obtain ⟨t6, hx6⟩ := ints_at hni (k := 6) (by omega)
  refine wpAny_execs_cons (wpAny_Assign_Name (Call_ (g_exch S TB (PyProof.Rows.callWith_def (o := hz.zo_152 w.params) rfl (args_cons (e_loc S rfl (args_cons (Subscript_ (e_cell S (.tail _ (.tail _ (.tail _ (.tail _ (.tail _ (.head _)))))) (e_int S fun _ _ S => t_item (hn.at S) (by omega) (by omega) hx6 (args_nil ⟨TB.get S (by decide) (by decide) (by kernel_rfl), ?_⟩)))))))))))
  refine exch_walk w _ _ _ _ aw ys ws (xs.getD 6 0) ms.length _ (RA.le (by omega)) (hR _ S.base).1 (S.list (.head _)) hwi hwl hwd fun ao s₂ uv us K hao hol hui hul hud => ?_
  obtain ⟨oo, ho1, ho2, ho3⟩ := hol
  have S := S.more (D := fun o => o.cls = .type "list" ∧ ∃ n, o.data = .seq uv.toArray n) (S.call K) hao ho1 ⟨ho2, ho3⟩
  obtain ⟨o1, d1, b1, g1, S⟩ := S.settle
  obtain ⟨o2, ⟨n2, rfl⟩, b2, g2, S⟩ := S.settle
  have x1 : ExtB B (fun b => if b = ao then some o1 else B b) := ExtB.put b1
  have x2 := ExtB.put (B := fun b => if b = ao then some o1 else B b) (a := aw) (o := { cls := .type "list", dict := none, data := .seq ys.toArray n2, slots := #[] }) b2
  have hao2 : BL (fun b => if b = aw then some { cls := .type "list", dict := none, data := .seq ys.toArray n2, slots := #[] } else if b = ao then some o1 else B b) ao uv := ⟨o1, x2 _ _ (if_pos rfl), d1⟩
  have haw2 : BL (fun b => if b = aw then some { cls := .type "list", dict := none, data := .seq ys.toArray n2, slots := #[] } else if b = ao then some o1 else B b) aw ys := ⟨_, if_pos rfl, rfl, n2, rfl⟩
  have xx := x1.trans x2
  generalize (fun b => if b = aw then some { cls := .type "list", dict := none, data := .seq ys.toArray n2, slots := #[] } else if b = ao then some o1 else B b) = B2 at S hao2 haw2 xx
  refine e_store S fun s₃ S => ?_
  have hm2 : BL B2 am mv := let ⟨o, b, q⟩ := hm; ⟨o, xx _ _ b, q⟩
  have hwiL : ys.length = 5 := by rw [ints_len hwi, List.length_map, hwl]
  have huiL : uv.length = 5 := by rw [ints_len hui, List.length_map, hul]
  have hwiD := hwd
  have huiD := hud
  -- alike
  have TB := TB.ext xx
  refine wpAny_execs_cons (wpAny_Assign_Name (Constant_bool (e_store S fun s₄ S => ?_)))
  refine wpAny_execs_cons (wpAny_For (Call_ (g_range S TB (PyProof.Rows.callWith_type1 (args_cons (e_int S fun _ _ S => args_nil (c_range (n := 4) S fun _ _ S => c_iterRange S (by decide) fun itr _ S => ?_)))))))
  refine for_go (iter_range hh itr 4) (fun i B' m' l' => B' = B2 ∧ m'.lookup n_end = some (.str e te) ∧ m'.lookup n_word = some (.ref aw) ∧ m'.lookup n_other = some (.ref ao) ∧ m'.lookup n_alike = some (.bool (alikeTo ms ws us i)) ∧ ∃ cr', l' = (L + 5, OCell cr') :: (L + 4, OCell (some (.int D td))) :: (L + 3, OCell (some (.ref am))) :: (L + 2, OCell (some (.int ms.length tc))) :: (L + 1, OCell (some (.ref an))) :: l₀)
    S ⟨rfl, hme, rfl, rfl, rfl, _, rfl⟩ (fun _ _ _ _ _ _ _ => trivial) (fun i v B' m' l' s' hi hv hI S => ?_) (fun B' m' l' s' hI S => ?_)
  · obtain ⟨ti, rfl⟩ := hv
    obtain ⟨rfl, k0, k1, k2, k3, cr', rfl⟩ := hI
    refine wpAny_assign_Name (e_storeCell S 1 rfl fun s₅ S => ?_)
    refine wpAny_execs_cons (wpAny_If (wpAny_isTrue_Compare1 (e_comp (cl := [(n_r, L + 5), (n_masks, L + 3)]) rfl rfl rfl (e_loc S k1 (e_iterList S (haw2.at S) fun it2 s₆ S => ?_)))))
    have S : St r B' L m' ((it2, OListIter aw 0) :: (itr, ORangeIter 4 (i + 1)) :: (L + 5, OCell (some (.int i ti))) :: (L + 4, OCell (some (.int D td))) :: (L + 3, OCell (some (.ref am))) :: (L + 2, OCell (some (.int ms.length tc))) :: (L + 1, OCell (some (.ref an))) :: l₀) s₆ := S
    refine comp_go (iter_list hh it2 aw ys) (fun j zs l' => l' = (itr, ORangeIter 4 (i + 1)) :: (L + 5, OCell (some (.int i ti))) :: (L + 4, OCell (some (.int D td))) :: (L + 3, OCell (some (.ref am))) :: (L + 2, OCell (some (.int ms.length tc))) :: (L + 1, OCell (some (.ref an))) :: l₀ ∧ IntsAre zs ((proj ms i (ws.take j)).map fun (y : Nat) => (y : Int)) ∧ zs.length ≤ j) S ⟨rfl, .nil, Nat.le_refl _⟩ (fun j C mC acc zs l' s' hI S => ?_) (fun j ys' l' hj hI => ?_)
      (fun C acc j v zs mC l' s' hj hv hI S => ?_) (fun ax1 z1 l' s' hI S => ?_)
    · exact haw2.at S
    · have : ys.length = 5 := hwiL
      have := hI.2.2
      rw [sizeLine_eq]; omega
    · obtain ⟨rfl, hi1, hi2⟩ := hI
      obtain ⟨n, tn, hn', rfl⟩ := ints_get hwi hv
      rw [List.getElem?_map] at hn'
      cases hq : ws[j]? with
      | none => rw [hq] at hn'; cases hn'
      | some q =>
        rw [hq] at hn'
        obtain rfl : n = (q : Int) := (Option.some.inj hn').symm
        have hqd := hwiD q (List.mem_of_getElem? hq)
        obtain ⟨tx, hx⟩ := ints_cast_getD hmi (k := q) (hwiD q (List.mem_of_getElem? hq))
        refine wpAny_tests_one (isTrue_plain (wpAny_BinOp (wpAny_BinOp (Subscript_ (e_cell S (.tail _ (.tail _ (.tail _ (.tail _ (.tail _ (.tail _ (.head _))))))) (e_loc S rfl (t_item (hm2.at S) (by omega) (by omega) hx (e_cell S (.tail _ (.tail _ (.tail _ (.tail _ (.head _))))) (b_shr S (Int.natCast_nonneg _) fun _ _ S => ?_)))))))))
        rw [shr_nat]
        refine e_int S fun _ _ S => b_and_nat (b := 1) S fun _ _ S => truthy_int ?_
        rw [bit_test]
        have et : ws.take (j + 1) = ws.take j ++ [q] := by rw [List.take_add_one, hq]; rfl
        cases hb : (ms.getD q 0).testBit i with
        | false =>
          rw [if_neg Bool.false_ne_true]
          refine ⟨_, _, S, rfl, ?_, by omega⟩
          rw [et]
          unfold proj
          rw [List.filter_append, List.filter_cons_of_neg (by rw [hb]; exact Bool.false_ne_true), List.filter_nil, List.append_nil]
          exact hi1
        | true =>
          rw [if_pos rfl]
          refine e_loc S rfl ⟨_, _, S, rfl, ?_, by rw [List.length_append, List.length_singleton]; omega⟩
          rw [et]
          unfold proj
          rw [List.filter_append, List.filter_cons_of_pos (by exact hb), List.filter_nil, List.map_append]
          exact ints_append hi1 (.cons _ _ .nil)
    obtain ⟨rfl, hz1, _⟩ := hI
    rw [List.take_of_length_le (by have : ys.length = 5 := hwiL; omega)] at hz1
    refine e_comp (cl := [(n_r, L + 5), (n_masks, L + 3)]) rfl rfl rfl (e_loc S k2 (e_iterList S (hao2.at S) fun it3 s₇ S => ?_))
    refine comp_go (iter_list hh it3 ao uv) (fun j zs l' => l' = (ax1, OList z1) :: (itr, ORangeIter 4 (i + 1)) :: (L + 5, OCell (some (.int i ti))) :: (L + 4, OCell (some (.int D td))) :: (L + 3, OCell (some (.ref am))) :: (L + 2, OCell (some (.int ms.length tc))) :: (L + 1, OCell (some (.ref an))) :: l₀ ∧ IntsAre zs ((proj ms i (us.take j)).map fun (y : Nat) => (y : Int)) ∧ zs.length ≤ j) S ⟨rfl, .nil, Nat.le_refl _⟩ (fun j C mC acc zs l' s' hI S => ?_) (fun j ys' l' hj hI => ?_)
      (fun C acc j v zs mC l' s' hj hv hI S => ?_) (fun ax2 z2 l' s' hI S => ?_)
    · exact hao2.at S
    · have : uv.length = 5 := huiL
      have := hI.2.2
      rw [sizeLine_eq]; omega
    · obtain ⟨rfl, hi1, hi2⟩ := hI
      obtain ⟨n, tn, hn', rfl⟩ := ints_get hui hv
      rw [List.getElem?_map] at hn'
      cases hq : us[j]? with
      | none => rw [hq] at hn'; cases hn'
      | some q =>
        rw [hq] at hn'
        obtain rfl : n = (q : Int) := (Option.some.inj hn').symm
        have hqd := huiD q (List.mem_of_getElem? hq)
        obtain ⟨tx, hx⟩ := ints_cast_getD hmi (k := q) (huiD q (List.mem_of_getElem? hq))
        refine wpAny_tests_one (isTrue_plain (wpAny_BinOp (wpAny_BinOp (Subscript_ (e_cell S (.tail _ (.tail _ (.tail _ (.tail _ (.tail _ (.tail _ (.tail _ (.head _)))))))) (e_loc S rfl (t_item (hm2.at S) (by omega) (by omega) hx (e_cell S (.tail _ (.tail _ (.tail _ (.tail _ (.tail _ (.head _)))))) (b_shr S (Int.natCast_nonneg _) fun _ _ S => ?_)))))))))
        rw [shr_nat]
        refine e_int S fun _ _ S => b_and_nat (b := 1) S fun _ _ S => truthy_int ?_
        rw [bit_test]
        have et : us.take (j + 1) = us.take j ++ [q] := by rw [List.take_add_one, hq]; rfl
        cases hb : (ms.getD q 0).testBit i with
        | false =>
          rw [if_neg Bool.false_ne_true]
          refine ⟨_, _, S, rfl, ?_, by omega⟩
          rw [et]
          unfold proj
          rw [List.filter_append, List.filter_cons_of_neg (by rw [hb]; exact Bool.false_ne_true), List.filter_nil, List.append_nil]
          exact hi1
        | true =>
          rw [if_pos rfl]
          refine e_loc S rfl ⟨_, _, S, rfl, ?_, by rw [List.length_append, List.length_singleton]; omega⟩
          rw [et]
          unfold proj
          rw [List.filter_append, List.filter_cons_of_pos (by exact hb), List.filter_nil, List.map_append]
          exact ints_append hi1 (.cons _ _ .nil)
    obtain ⟨rfl, hz2, _⟩ := hI
    rw [List.take_of_length_le (by have : uv.length = 5 := huiL; omega)] at hz2
    have hau := RA.units
    refine ne_intsK (S.list (.tail _ (.head _))) hz1 (S.list (.head _)) hz2 (by omega) (wpAny_truthy_bool ?_)
    have es : alikeTo ms ws us (i + 1) = (alikeTo ms ws us i && (proj ms i ws == proj ms i us)) := by
      unfold alikeTo
      rw [List.range_succ, List.all_append]; simp
    by_cases hpe : proj ms i ws = proj ms i us
    · rw [show (!decide ((proj ms i ws).map (fun (y : Nat) => (y : Int)) = (proj ms i us).map (fun (y : Nat) => (y : Int)))) = false from by rw [hpe]; simp]
      simp only [Bool.false_eq_true, if_false]
      refine wpAny_execs_nil (wpAny_execs_nil ⟨_, _, _, (S.drop1).drop1, rfl, k0, k1, k2, ?_, _, rfl⟩)
      rw [es, hpe, beq_self_eq_true, Bool.and_true]; exact k3
    · have hne : (proj ms i ws).map (fun (y : Nat) => (y : Int)) ≠ (proj ms i us).map (fun (y : Nat) => (y : Int)) := fun q => hpe (List.map_inj_right (fun _ _ => Int.ofNat_inj.mp) |>.mp q)
      rw [show (!decide ((proj ms i ws).map (fun (y : Nat) => (y : Int)) = (proj ms i us).map (fun (y : Nat) => (y : Int)))) = true from by simp [hne]]
      simp only [if_true]
      refine wpAny_execs_cons (wpAny_Assign_Name (Constant_bool (e_store S fun _ S => ?_)))
      refine wpAny_execs_nil (wpAny_execs_nil ⟨_, _, _, (S.drop1).drop1, rfl, k0, k1, k2, ?_, _, rfl⟩)
      rw [es, beq_eq_false_iff_ne.mpr hpe, Bool.and_false]; rfl
  · obtain ⟨rfl, k0, k1, k2, k3, cr', rfl⟩ := hI
    refine wpAny_execs_cons (wpAny_Return_some (wpAny_Compare1 (wpAny_Compare1 (Call_ (g_piled S TB (PyProof.Rows.callWith_def (o := hz.zo_145 w.params) rfl (args_cons (e_loc S k1 (args_cons (e_cell S (.tail _ (.tail _ (.head _))) (args_cons (e_loc S k0 (args_nil ⟨TB.get S (by decide) (by decide) (by kernel_rfl), ?_⟩)))))))))))))
    refine piled w (drop_spec w) _ _ _ _ aw am ys mv ms ws te e (RA.le (by omega)) (hR _ fun b o eb => S.base _ _ (xx _ _ eb)) (haw2.at S) hwi (hm2.at S) hmi hmo hwd (by omega) he fun s₈ t₈ K₈ => ?_
    have S := S.call K₈
    refine Call_ (g_piled S TB (PyProof.Rows.callWith_def (o := hz.zo_145 w.params) rfl (args_cons (e_loc S k2 (args_cons (e_cell S (.tail _ (.tail _ (.head _))) (args_cons (e_loc S k0 (args_nil ⟨TB.get S (by decide) (by decide) (by kernel_rfl), ?_⟩)))))))))
    refine piled w (drop_spec w) _ _ _ _ ao am uv mv ms us te e (RA.le (by omega)) (hR _ fun b o eb => S.base _ _ (xx _ _ eb)) (hao2.at S) hui (hm2.at S) hmi hmo hud (by omega) he fun s₉ t₉ K₉ => ?_
    have S := S.call K₉
    refine c_eq (e_loc S k3 (eq_bool ?_))
    have hal := alike_law ms hmo ws us hwd hud (by omega) (by omega)
    have hv : ((((num (pileRun ms ws).2 : Nat) : Int) == ((num (pileRun ms us).2 : Nat) : Int)) == alikeTo ms ws us 4) = true := by
      rw [beq_iff_eq, Bool.eq_iff_iff, beq_iff_eq]
      unfold alikeTo
      rw [List.all_eq_true]
      constructor
      · intro q r' hr'
        exact beq_iff_eq.mpr (hal.mp (Int.ofNat_inj.mp q) r' (List.mem_range.mp hr'))
      · intro q
        exact congrArg _ (hal.mpr fun r' hr' => beq_iff_eq.mp (q r' (List.mem_range.mpr hr')))
    rw [hv]
    exact h _ _ [_, _, _, _, _] _ xx S
end Mine
end
section
open PySem PySem.W PyProof.Rows
set_option Elab.async false
set_option maxRecDepth 100000
set_option maxHeartbeats 4000000
namespace Mine
def OKeyIter (d : Addr) (n ep i : Nat) : Desc := fun o => o.cls = .type "dict_keyiterator" ∧ o.data = .fields #[.ref d, .int i 0, .int n 0, .int ep 0]
theorem iter_keys {w : World} {A : Around} (hh : A.handled = none) (it d : Addr) (kvs : List (Int × Value)) (ep : Nat) : Iter w A it kvs.length (fun i v => ∃ k x t, kvs[i]? = some (k, x) ∧ v = .int k t) (OKeyIter d kvs.length ep) (fun s => s.heap.DictAt (IK w) d kvs ep) where
  next := fun i s Q E hit hl hi h0 h1 => by
    obtain ⟨o, e, hc, hd⟩ := hit
    have hit' : s.heap.IsKeyIter it d i kvs.length ep := ⟨o, e, hc, hd⟩
    cases hv : kvs[i]? with
    | none =>
      have he : i = kvs.length := by have := List.getElem?_eq_none_iff.mp hv; omega
      exact wpAny_pyNext_dict_end (knd := IK w) hh hit' hl hv (h0 he)
    | some kv =>
      obtain ⟨k, x⟩ := kv
      have hlt : i < kvs.length := (List.getElem?_eq_some_iff.mp hv).1
      refine wpAny_pyNext_dict_item (knd := IK w) hit' hl hv fun key h' hkey hit₁ hs₁ => ?_
      obtain ⟨t, rfl⟩ := isInt_key hkey
      obtain ⟨o1, ho1, hc1, hd1⟩ := hit₁
      exact h1 hlt _ h' _ o1 ⟨k, x, t, hv, rfl⟩ hs₁ ho1 ⟨hc1, hd1⟩
  self := fun i s Q E hit h => by
    obtain ⟨o, e, hc, hd⟩ := hit
    exact wpAny_pyIter_keyiter (d := d) (i := i) (n := kvs.length) (ep := ep) ⟨o, e, hc, hd⟩ h
theorem e_iterKeys {r : Shared} {B : Addr → Option Obj} {L : Addr} {m : List (Str × Value)} {l : List (Addr × Desc)} {s : Shared} {w : World} {A : Around} {E : Value → Shared → Prop} {d : Addr} {kvs : List (Int × Value)} {ep : Nat} {Q : Value → Shared → Prop} (S : St r B L m l s) (hd : (d == sysModules) = false) (hm : s.heap.DictAt (IK w) d kvs ep) (h : ∀ it s', St r B L m ((it, OKeyIter d kvs.length ep 0) :: l) s' → Q (.ref it) s') :
    wpAny (model PW w) A (pyIter (.ref d)) Q E s :=
  wpAny_pyIter_dict (knd := IK w) hd hm (h _ _ (S.alloc (o := { cls := .type "dict_keyiterator", data := .fields #[.ref d, .int 0 0, .int kvs.length 0, .int ep 0] }) rfl ⟨rfl, rfl⟩))
end Mine
end
section
open PySem PySem.W PyProof.Rows
set_option Elab.async false
set_option maxRecDepth 100000
set_option maxHeartbeats 4000000
namespace Mine
theorem sub_slice_any {w : World} {A : Around} {E : Value → Shared → Prop} {s : Shared} {env : Env} {value st : PySem.Expr} {lower upper : Option PySem.Expr} {p pos : Pos} {T id : String} {Q : Value → Shared → Prop}
    (hl : typeLookup (.type T) "__getitem__" = pure (some (.builtin id)))
    (h : wpAny (model PW w) A (eval value env) (fun o s₁ => wpAny (model PW w) A (eval (.Slice lower upper (some st) p) env) (fun i s₂ => s₂.TypeIs o T ∧ wpAny (model PW w) A (getItem o i) Q E s₂) E s₁) E s) :
    wpAny (model PW w) A (eval (.Subscript value (.Slice lower upper (some st) p) pos) env) Q E s := by
  exact Subscript_ (wpAny_mono h (fun o s₁ h₁ => wpAny_mono h₁ (fun i s₂ h₂ => tail_any (ops := [o, i]) h₂.1 hl h₂.2 (by with_unfolding_all rfl)) fun _ _ x => x) fun _ _ x => x)
end Mine
end
section
open PySem PySem.W PyProof.Rows
set_option Elab.async false
set_option maxRecDepth 100000
set_option maxHeartbeats 4000000
namespace Mine
/-- all but the frame and the own things becomes the base -/
theorem St.rebase {r : Shared} {B : Addr → Option Obj} {L : Addr} {m : List (Str × Value)} {l : List (Addr × Desc)} {s : Shared} (S : St r B L m l s) :
    ∃ B', ExtB B B' ∧ St r B' L m l s ∧ ∀ b o, b ≠ L → b ∉ l.map (·.1) → s.heap.get? b = some o → B' b = some o := by
  refine ⟨fun b => if b = L ∨ b ∈ l.map (·.1) then none else s.heap.get? b, fun b o e => ?_, ⟨S.gens, S.drawn, S.os, S.ns, fun b o e => ?_, if_pos (.inl rfl), fun p hp => ?_, S.nd⟩, fun b o h1 h2 e => ?_⟩
  · show (if b = L ∨ b ∈ l.map (·.1) then none else s.heap.get? b) = some o
    rw [if_neg ?_]
    · exact S.base b o e
    · rintro (q | q)
      · rw [q, S.nL] at e; cases e
      · obtain ⟨p, hp, rfl⟩ := List.mem_map.mp q
        rw [(S.own p hp).2.2] at e; cases e
  · have e : (if b = L ∨ b ∈ l.map (·.1) then none else s.heap.get? b) = some o := e
    split at e
    · cases e
    · exact e
  · exact ⟨(S.own p hp).1, (S.own p hp).2.1, if_pos (.inr (List.mem_map_of_mem hp))⟩
  · show (if b = L ∨ b ∈ l.map (·.1) then none else s.heap.get? b) = some o
    rw [if_neg (fun q => q.elim h1 h2)]; exact e
end Mine
end
section
open PySem PySem.W PyProof.Rows
set_option Elab.async false
set_option maxRecDepth 100000
set_option maxHeartbeats 4000000
namespace Mine
/-! bounds -/
theorem natAbs_sign (n : Nat) : ((-1 : Int) ^ n).natAbs = 1 := by rw [Int.natAbs_pow]; simp
theorem sgnStep_bound (ms : List Nat) (among : Nat) (c : List Int) (ch k : Nat) (h : ∀ x ∈ c, x.natAbs ≤ k) : ∀ x ∈ sgnStep ms among c ch, x.natAbs ≤ k + 1 := fun x hx => by
  unfold sgnStep at hx
  split at hx
  · rcases List.mem_or_eq_of_mem_set hx with hx | rfl
    · have := h x hx; omega
    · have h1 : (c.getD (4 - (membN ms ch).length) 0).natAbs ≤ k := by
        rw [List.getD_eq_getElem?_getD]
        cases e : c[4 - (membN ms ch).length]? with
        | none => exact Nat.zero_le _
        | some y => exact h y (List.mem_of_getElem? e)
      have h2 := natAbs_sign (membN ms ch).length
      have h3 := Int.natAbs_add_le (c.getD (4 - (membN ms ch).length) 0) ((-1) ^ (membN ms ch).length)
      omega
  · have := h x hx; omega
theorem sgnFold_bound (ms : List Nat) (among : Nat) : ∀ (l : List Nat) (c : List Int) (k : Nat), (∀ x ∈ c, x.natAbs ≤ k) → ∀ x ∈ l.foldl (sgnStep ms among) c, x.natAbs ≤ k + l.length
  | [], c, k, h => fun x hx => h x hx
  | a :: t, c, k, h => fun x hx => by
    have := sgnFold_bound ms among t (sgnStep ms among c a) (k + 1) (sgnStep_bound ms among c a k h) x hx
    rw [List.length_cons]; omega
theorem sgn_bits (ms : List Nat) (among : Nat) (hl : ms.length ≤ 4) : ∀ x ∈ sgn ms among, Builtin.Int.intBits x ≤ 5 := fun x hx => by
  have h := sgnFold_bound ms among (List.range (2 ^ ms.length)) [0, 0, 0, 0, 0] 0 (fun x hx => by simp at hx; subst hx; exact Nat.le_refl _) x hx
  rw [List.length_range] at h
  have hp4 : 2 ^ ms.length ≤ 2 ^ 4 := Nat.pow_le_pow_right (by decide) hl
  exact intBits_le_iff.mpr (by omega)
theorem sgn_len (ms : List Nat) (among : Nat) : (sgn ms among).length = 5 := by
  have : ∀ (l : List Nat) (c : List Int), (l.foldl (sgnStep ms among) c).length = c.length := by
    intro l
    induction l with
    | nil => intro c; rfl
    | cons x t ih => intro c; rw [List.foldl_cons, ih, sgnStep_len]
  exact this _ _
theorem sgn_val_bits (ms : List Nat) (among W : Nat) (hl : ms.length ≤ 4) (hW : W ≤ 20) : Builtin.Int.intBits (valN W (sgn ms among)) ≤ 115 := by
  have := bits_valN (k := W) (sgn_bits ms among hl)
  rw [sgn_len] at this
  omega
theorem nDig_le (N X : Nat) (hN : 1 ≤ N) : nDig N X ≤ Builtin.Int.intBits (X : Int) := by
  unfold nDig
  generalize Builtin.Int.intBits (X : Int) = x
  obtain ⟨k, rfl⟩ : ∃ k, N = k + 1 := ⟨N - 1, by omega⟩
  rcases Nat.eq_zero_or_pos x with rfl | hx
  · rw [Nat.div_eq_of_lt (by omega)]; exact Nat.le_refl _
  · refine Nat.div_le_of_le_mul ?_
    have := Nat.le_mul_of_pos_right k hx
    rw [Nat.add_mul, Nat.one_mul]; omega
/-! calls with the code table of _int2digits, empty or full -/
def Tab7 (B : Addr → Option Obj) (X : Array Value) : Prop := X = #[] ∨ ∃ c' oc, X = #[rawInt 33, rawInt 4, .ref c'] ∧ B c' = some oc ∧ OCode qdJ oc
theorem Tab7.ext {B B' : Addr → Option Obj} {X : Array Value} (h : Tab7 B X) (x : ExtB B B') : Tab7 B' X := by
  rcases h with h | ⟨c', oc, h1, h2, h3⟩
  · exact .inl h
  · exact .inr ⟨c', oc, h1, x _ _ h2, h3⟩
section
variable {r : Shared} {B : Addr → Option Obj} {L : Addr} {m : List (Str × Value)} {l : List (Addr × Desc)} {s : Shared} {w : World} {A : Around} {E : Value → Shared → Prop}
theorem St.at47 {X : Array Value} (S : St r B L m l s) (hm : (47, OExact (tabObj X)) ∈ l) : s.heap.get? 47 = some (tabObj X) := by
  obtain ⟨o, e, q⟩ := S.get hm
  rw [e]; exact congrArg some q
theorem St.full7 {X : Array Value} (S : St r B L m l s) (hm : (47, OExact (tabObj X)) ∈ l) (hX : Tab7 B X) (hne : X ≠ #[]) : Full47 s.heap := by
  rcases hX with h | ⟨c', oc, rfl, h2, vs, t, h3, h4⟩
  · exact absurd h hne
  · exact ⟨c', S.at47 hm, c', oc, vs, t, rfl, S.base _ _ h2, h3, h4⟩
theorem St.settleL {a : Addr} {vs : List Value} (S : St r B L m ((a, OList vs) :: l) s) : ∃ B', ExtB B B' ∧ BL B' a vs ∧ St r B' L m l s := by
  obtain ⟨o, ⟨n, rfl⟩, b, g, S'⟩ := S.settle
  exact ⟨_, ExtB.put b, ⟨_, if_pos rfl, rfl, n, rfl⟩, S'⟩
theorem St.topH (S : St r B L m l s) (T : TopB w B) : TopH w s.heap := fun x o h1 h2 e => S.base _ _ (T.here x o h1 h2 e)
theorem idiv_any (w : World) (σ : Int) (hσ : σ = 1 ∨ σ = -1) (a b n d : Nat) (hb : 1 ≤ b) (hn : n = Builtin.Int.intBits (b : Int)) (hn2 : n ≤ 1000) (hK : nDig n a ≤ 2 ^ d) (hK2 : nDig n a ≤ 1000) (hXb : Builtin.Int.intBits (a : Int) ≤ 1000000)
    {Q : Value → Shared → Prop} {X : Array Value} {ta tb : Tok} (RA : Room (d + 5) A) (TB : TopB w B) (S : St r B L m ((47, OExact (tabObj X)) :: l) s) (hX : Tab7 B X) (F4 : Full54 s.heap)
    (h : ∀ B' X' c t u s', ExtB B B' → Tab7 B' X' → X' ≠ #[] → St r B' L m ((c, OTuple [.int (a / b : Nat) t, u]) :: (47, OExact (tabObj X')) :: l) s' → Q (.ref c) s') :
    wpAny (model PW w) A (call (.ref 73) [.int (σ * a) ta, .int (σ * b) tb]) Q E s := by
  have hnew : ∀ (c : Addr) (t : Tok) (u : Value) (s' : Shared), KeptBut 47 s s' → New47 s s' → X = #[] → s.heap.get? c = none → s'.heap.IsTuple c #[.int (a / b : Nat) t, u] → Q (.ref c) s' := fun c t u s' K N hx hc ht => by
    subst hx
    obtain ⟨c', S3⟩ := S.fillT (vs := [.int (a / b : Nat) t, u]) K N hc ht
    obtain ⟨o, hd, hb, hg, S4⟩ := S3.swap.settle
    exact h _ _ c t u s' (ExtB.put hb) (.inr ⟨c', o, rfl, if_pos rfl, hd⟩) (by simp) S4
  have hhit : ∀ (c : Addr) (t : Tok) (u : Value) (s' : Shared), Kept s s' → X ≠ #[] → s.heap.get? c = none → s'.heap.IsTuple c #[.int (a / b : Nat) t, u] → Q (.ref c) s' := fun c t u s' K hx hc ht =>
    h B X c t u s' (ExtB.refl B) hX hx (S.addT (vs := [.int (a / b : Nat) t, u]) (S.call K) hc ht)
  have T := S.topH TB
  by_cases hx : X = #[]
  · have h47 : s.heap.get? 47 = some (tabObj #[]) := by rw [← hx]; exact S.at47 (.head _)
    rcases hσ with rfl | rfl
    · rw [Int.one_mul, Int.one_mul]
      exact idiv_pos_new w a b n d hb hn hn2 hK hK2 hXb A s Q E (RA.le (by omega)) ta tb T h47 F4 fun s' c t u K N hc ht => hnew c t _ s' K N hx hc ht
    · rw [Int.neg_one_mul, Int.neg_one_mul]
      exact idiv_neg_new w a b n d hb hn hn2 hK hK2 hXb A s Q E RA ta tb T h47 F4 fun s' c t u K N hc ht => hnew c t _ s' K N hx hc ht
  · have F7 := S.full7 (.head _) hX hx
    rcases hσ with rfl | rfl
    · rw [Int.one_mul, Int.one_mul]
      exact idiv_pos_hit w a b n d hb hn hn2 hK hK2 hXb A s Q E (RA.le (by omega)) ta tb T F7 F4 fun s' c t u K hc ht => hhit c t _ s' K hx hc ht
    · rw [Int.neg_one_mul, Int.neg_one_mul]
      exact idiv_neg_hit w a b n d hb hn hn2 hK hK2 hXb A s Q E RA ta tb T F7 F4 fun s' c t u K hc ht => hhit c t _ s' K hx hc ht
end
theorem signed_hit (w : World) (A : Around) (s : Shared) (Q E : Value → Shared → Prop) (am : Addr) (mv : List Value) (ms : List Nat) (among width : Nat) (ta tw : Tok)
    (RA : Room 6 A) (T : TopH w s.heap) (F4 : Full54 s.heap) (hm : s.heap.IsList am mv.toArray) (hmi : IntsAre mv (ms.map fun (y : Nat) => (y : Int))) (hml : ms.length ≤ 4) (hw : width ≤ 1000)
    (h : ∀ s' t, Kept s s' → Q (.int (valN width (sgn ms among)) t) s') :
    wpAny (model PW w) A (call (.ref 109) [.ref am, .int among ta, .int width tw]) Q E s := by
  refine signed_core w A s Q E (fun b => s.heap.get? b) [] am mv ms among width ta tw RA (fun _ _ e => e) (fun p hp => nomatch hp) List.nodup_nil (topB_of T) (fun L m l s' S => ?_) hmi hml fun L m l' s' a cv tw' S hcv => ?_
  · obtain ⟨o, e, q⟩ := hm
    exact ⟨o, S.base _ _ e, q⟩
  · refine d2i_hit w (sgn ms among) cv hcv width 5 3 (sgn_bits ms among hml) (by decide) hw (by rw [sgn_len]; decide) (by rw [sgn_len]; decide) _ s' _ _ ((RA.deeper _ : Room 5 _)) a tw' (T.keep S.kept) (F4.keep S.base) (S.list (.head _)) fun s₂ t K => ?_
    exact h s₂ t (S.kept.trans K)
end Mine
end
section
open PySem PySem.W PyProof.Rows
set_option Elab.async false
set_option maxRecDepth 100000
set_option maxHeartbeats 4000000
namespace Mine
theorem perm_rot3 {α : Type} (a b c d : α) (l : List α) : (a :: b :: c :: d :: l).Perm (b :: c :: d :: a :: l) :=
  (List.Perm.swap b a _).trans (((List.Perm.swap c a _).cons b).trans (((List.Perm.swap d a l).cons c).cons b))
def KeysIn (w : World) (B : Addr → Option Obj) (v : Value) (ks : List Nat) : Prop := ∃ d o kvs, v = .ref d ∧ B d = some o ∧ o.IsDictOf (IK w) kvs ∧ kvs.map (·.1) = ks.map (fun (k : Nat) => (k : Int)) ∧ (d == sysModules) = false
theorem law_mid (w : World) (A : Around) (Q : Value → Shared → Prop) {r : Shared} {B : Addr → Option Obj} {L : Addr} {m : List (Str × Value)} {l₀ : List (Addr × Desc)} {s : Shared} (RA : Room 15 A) (TB : TopB w B) (hR : ∀ h : Heap, (∀ b o, B b = some o → h.get? b = some o) → Ready w h)
    (an am at' at0 at1 : Addr) (nv mv tv0 tv1 : List Value) (xs : List Int) (ms : List Nat) (te : Tok) (e : Str) (cr : Option Value) (D : Nat) (td tc : Tok)
    (hn : BL B an nv) (hni : IntsAre nv xs) (hxl : xs.length = 8) (hm : BL B am mv) (hmi : IntsAre mv (ms.map fun (x : Nat) => (x : Int))) (hmo : masksOk ms) (he : endOk e)
    (ht : BL B at' [.ref at0, .ref at1]) (ht0 : BL B at0 tv0) (ht1 : BL B at1 tv1)
    (hi0 : IntsAre tv0 [((keysR ms 3).length : Int), ((keysR ms 2).length : Int), ((keysR ms 1).length : Int), 1]) (hi1 : IntsAre tv1 [(gcount D (keysR ms 3) : Int), (gcount D (keysR ms 2) : Int), (gcount D (keysR ms 1) : Int), 1])
    (S : St r B L m (cells5 L cr D ms.length td tc an am ++ l₀) s) (hme : m.lookup n_end = some (.str e te)) (hmt : m.lookup n_told = some (.ref at'))
    (h : ∀ B' m' l' s', ExtB B B' → St r B' L m' (l' ++ l₀) s' → Q (.bool true) s') :
    wpAny (model PW w) A (execs ((bodyOf (fd_law w.params)).drop 10) (callEnvC (fd_law w.params) L 140)) (fun f s' => Q (retOf f) s') (fun _ _ => False) s := by
  have hh : A.handled = none := RA.handled
  have S : St r B L m ((L + 5, OCell cr) :: (L + 4, OCell (some (.int D td))) :: (L + 3, OCell (some (.ref am))) :: (L + 2, OCell (some (.int ms.length tc))) :: (L + 1, OCell (some (.ref an))) :: l₀) s := S
  refine wpAny_execs_cons (wpAny_Assign_Name (sub_slice_any slot_list_getitem.lookup (Call_ (g_rounds S TB (PyProof.Rows.callWith_def (o := hz.zo_138 w.params) rfl (args_cons (e_cell S (.tail _ (.tail _ (.head _))) (args_cons (e_loc S hme (args_nil ⟨TB.get S (by decide) (by decide) (by kernel_rfl), ?_⟩))))))))))
  refine rounds_walk w _ _ _ _ am mv ms te e (RA.le (by omega)) (hR _ S.base) (hm.at S) hmi hmo he fun ar s₁ rl K har hrl hl4 hd => ?_
  have hL := S.ltL
  have S1 := S.call K
  obtain ⟨B2, x2, S2, hB2⟩ := S1.rebase
  have habs := S.absent har
  have harB : BL B2 ar rl := by
    obtain ⟨o, e1, c1, d1⟩ := hrl
    exact ⟨o, hB2 ar o habs.1 habs.2.2 e1, c1, d1⟩
  have hdk : ∀ j, j < 4 → ∃ v, rl[j]? = some v ∧ KeysIn w B2 v (keysR ms j) := fun j hj => by
    obtain ⟨v, hv, d, o, kvs, rfl, q1, q2, q3, q4, q5⟩ := hd j hj
    have ha := S.absent (a := d) q4
    refine ⟨_, hv, d, o, kvs, rfl, hB2 d o ha.1 ha.2.2 q1, q2, ?_, q5⟩
    rw [q3.keys, keysR, List.map_map]; rfl
  clear hd hrl hB2 S1
  have TB2 := TB.ext x2
  refine e_sliceRev S2 fun _ sl s₂ S => ⟨(harB.at S).typeIs, ?_⟩
  refine g_slice S (harB.at S) .none .none (.int _ _) (by decide) (by rw [hl4]; decide) fun asl s₃ S => ?_
  rw [pick_rev] at S
  refine e_store S fun s₄ S => ?_
  obtain ⟨v0, v1, v2, v3, rfl⟩ : ∃ v0 v1 v2 v3, rl = [v0, v1, v2, v3] := by
    match rl, hl4 with
    | [a, b, c, d], _ => exact ⟨a, b, c, d, rfl⟩
  have hk0 : KeysIn w B2 v0 (keysR ms 0) := by obtain ⟨v, e, q⟩ := hdk 0 (by decide); cases e; exact q
  have hk1 : KeysIn w B2 v1 (keysR ms 1) := by obtain ⟨v, e, q⟩ := hdk 1 (by decide); cases e; exact q
  have hk2 : KeysIn w B2 v2 (keysR ms 2) := by obtain ⟨v, e, q⟩ := hdk 2 (by decide); cases e; exact q
  have hk3 : KeysIn w B2 v3 (keysR ms 3) := by obtain ⟨v, e, q⟩ := hdk 3 (by decide); cases e; exact q
  have hks : ∀ j v, [v3, v2, v1, v0][j]? = some v → j < 4 ∧ KeysIn w B2 v (keysR ms (3 - j)) := fun j v e => by
    match j, e with
    | 0, e => cases e; exact ⟨by decide, hk3⟩
    | 1, e => cases e; exact ⟨by decide, hk2⟩
    | 2, e => cases e; exact ⟨by decide, hk1⟩
    | 3, e => cases e; exact ⟨by decide, hk0⟩
  have S : St r B2 L ((n_rounds, .ref asl) :: m) ((asl, OList [v3, v2, v1, v0]) :: (L + 5, OCell cr) :: (L + 4, OCell (some (.int D td))) :: (L + 3, OCell (some (.ref am))) :: (L + 2, OCell (some (.int ms.length tc))) :: (L + 1, OCell (some (.ref an))) :: l₀) s₄ := S
  -- grounded
  refine wpAny_execs_cons (e_assignComp (cl := [(n_drawn, L + 4)]) rfl rfl rfl rfl (e_loc S rfl (e_iterList S (S.list (.head _)) fun it s₅ S => ?_)))
  have hdr : ((L + 4, OCell (some (.int D td))) : Addr × Desc) ∈ ((asl, OList [v3, v2, v1, v0]) :: (L + 5, OCell cr) :: (L + 4, OCell (some (.int D td))) :: (L + 3, OCell (some (.ref am))) :: (L + 2, OCell (some (.int ms.length tc))) :: (L + 1, OCell (some (.ref an))) :: l₀) := .tail _ (.tail _ (.head _))
  have hasl : ((asl, OList [v3, v2, v1, v0]) : Addr × Desc) ∈ ((asl, OList [v3, v2, v1, v0]) :: (L + 5, OCell cr) :: (L + 4, OCell (some (.int D td))) :: (L + 3, OCell (some (.ref am))) :: (L + 2, OCell (some (.int ms.length tc))) :: (L + 1, OCell (some (.ref an))) :: l₀) := .head _
  have hl1 : ((asl, OList [v3, v2, v1, v0]) :: (L + 5, OCell cr) :: (L + 4, OCell (some (.int D td))) :: (L + 3, OCell (some (.ref am))) :: (L + 2, OCell (some (.int ms.length tc))) :: (L + 1, OCell (some (.ref an))) :: l₀).Sublist ((asl, OList [v3, v2, v1, v0]) :: (L + 5, OCell cr) :: (L + 4, OCell (some (.int D td))) :: (L + 3, OCell (some (.ref am))) :: (L + 2, OCell (some (.int ms.length tc))) :: (L + 1, OCell (some (.ref an))) :: l₀) := List.Sublist.refl _
  generalize hlr : ((asl, OList [v3, v2, v1, v0]) :: (L + 5, OCell cr) :: (L + 4, OCell (some (.int D td))) :: (L + 3, OCell (some (.ref am))) :: (L + 2, OCell (some (.int ms.length tc))) :: (L + 1, OCell (some (.ref an))) :: l₀) = lr at S hdr hasl
  refine comp_goA (iter_list hh it asl [v3, v2, v1, v0]) (fun j ys l' => ∃ gl : List (Addr × List Value), l' = (gl.map fun p => (p.1, OList p.2)) ++ lr ∧ ys = gl.reverse.map (fun p => Value.ref p.1) ∧ gl.reverse.map (fun p => p.2.length) = (List.range j).map fun k => gcount D (keysR ms (3 - k)))
    S ⟨[], rfl, rfl, rfl⟩ (fun i C mC acc ys l' s' hI S => ?_) (fun j ys l' hj hI => ?_) (fun C acc j v ys mC l' s' hj hv hI S => ?_) (fun ag ys l' s' hI S => ?_)
  · obtain ⟨gl, rfl, _, _⟩ := hI
    exact S.list (.tail _ (.tail _ (.tail _ (List.mem_append_right _ hasl))))
  · obtain ⟨gl, _, rfl, hl⟩ := hI
    have := congrArg List.length hl
    simp at this hj
    rw [List.length_map, List.length_reverse, this, sizeLine_eq]; omega
  · obtain ⟨gl, rfl, rfl, hgl⟩ := hI
    obtain ⟨hj4, d, o, kvs, rfl, hdB, hdI, hdk, hdm⟩ := hks j v hv
    obtain ⟨es, ep, q1, q2, q3, q4, q5⟩ := id hdI
    have DAt : ∀ {L m l s'}, St r B2 L m l s' → s'.heap.DictAt (IK w) d kvs ep := fun S => ⟨o, es, S.base _ _ hdB, q1, q2, q3, q4, q5⟩
    have hkl : kvs.length = (keysR ms (3 - j)).length := by have := congrArg List.length hdk; simpa using this
    have hk64 := keys_len ms hmo (3 - j) (by omega)
    refine wpAny_tests_nil ?_
    rw [if_pos rfl]
    refine e_comp (cl := [(n_drawn, L + 4)]) rfl rfl rfl (e_loc S rfl (e_iterKeys S hdm (DAt S) fun it2 s₆ S => ?_))
    obtain ⟨lq, hlq⟩ : ∃ lq, ((it, OListIter asl (j + 1)) :: (acc, OList (gl.reverse.map fun p => Value.ref p.1)) :: (L, ONs ((n_rounds, .ref asl) :: m)) :: ((gl.map fun p => (p.1, OList p.2)) ++ lr)) = lq := ⟨_, rfl⟩
    have S : St r B2 C ((n_one, .ref d) :: mC) ((it2, OKeyIter d kvs.length ep 0) :: lq) s₆ := by rw [← hlq]; exact S
    refine comp_go (iter_keys hh it2 d kvs ep) (fun q zs l' => lq = l' ∧ zs.length = (((keysR ms (3 - j)).take q).filter fun p => p &&& 63 &&& D == p &&& 63).length) S ⟨rfl, rfl⟩ (fun q C' mC' acc' zs l' s' hI S => DAt S) (fun q zs l' hq hI => ?_) (fun C' acc' q v' zs mC' l' s' hq hv' hI S => ?_) (fun ax zs l' s' hI S => ?_)
    · have h1 := hI.2
      have h2 := List.length_filter_le (fun p => p &&& 63 &&& D == p &&& 63) ((keysR ms (3 - j)).take q)
      rw [List.length_take] at h2
      rw [sizeLine_eq]; omega
    · obtain ⟨rfl, hz⟩ := hI
      obtain ⟨k, x, tk, hkv, rfl⟩ := hv'
      have hkq : ((keysR ms (3 - j))[q]?).map (fun (k : Nat) => (k : Int)) = some k := by
        rw [← List.getElem?_map, ← hdk, List.getElem?_map, hkv]; rfl
      cases hq2 : (keysR ms (3 - j))[q]? with
      | none => rw [hq2] at hkq; cases hkq
      | some n =>
        rw [hq2] at hkq
        obtain rfl : (n : Int) = k := Option.some.inj hkq
        have hdr' : ((L + 4, OCell (some (.int D td))) : Addr × Desc) ∈ ((it, OListIter asl (j + 1)) :: (acc, OList (gl.reverse.map fun p => Value.ref p.1)) :: (L, ONs ((n_rounds, .ref asl) :: m)) :: ((gl.map fun p => (p.1, OList p.2)) ++ lr)) := .tail _ (.tail _ (.tail _ (List.mem_append_right _ hdr)))
        rw [hlq] at hdr'
        refine wpAny_tests_one (wpAny_isTrue_Compare1 (wpAny_BinOp (wpAny_BinOp (e_loc S rfl (e_int S fun _ _ S => b_and_nat (b := 63) S fun _ _ S => e_cell S (.tail _ (.tail _ (.tail _ hdr'))) (b_and_nat S fun _ _ S => wpAny_BinOp (e_loc S rfl (e_int S fun _ _ S => b_and_nat (b := 63) S fun _ _ S => c_eq (wpAny_truthy_bool ?_)))))))))
        have et : (keysR ms (3 - j)).take (q + 1) = (keysR ms (3 - j)).take q ++ [n] := by rw [List.take_add_one, hq2]; rfl
        by_cases hc : n &&& 63 &&& D = n &&& 63
        · rw [show ((((n &&& 63 &&& D : Nat) : Int) == ((n &&& 63 : Nat) : Int))) = true from by rw [hc]; simp]
          rw [if_pos rfl]
          refine e_loc S rfl ⟨_, _, S, rfl, ?_⟩
          rw [et, List.filter_append, List.filter_cons_of_pos (by simpa using hc), List.length_append, List.length_append, hz]; rfl
        · rw [show ((((n &&& 63 &&& D : Nat) : Int) == ((n &&& 63 : Nat) : Int))) = false from by simp; omega]
          rw [if_neg Bool.false_ne_true]
          refine ⟨_, _, S, rfl, ?_⟩
          rw [et, List.filter_append, List.filter_cons_of_neg (by simpa using hc), List.filter_nil, List.append_nil]
          exact hz
    · obtain ⟨rfl, hz⟩ := hI
      rw [hkl, List.take_length] at hz
      have S9 := S
      rw [← hlq] at S9
      refine ⟨_, ((ax, zs) :: gl).map (fun p => (p.1, OList p.2)) ++ lr, S9.perm ?_, (ax, zs) :: gl, rfl, ?_, ?_⟩
      · exact (perm_rot3 _ _ _ _ _).symm
      · rw [List.reverse_cons, List.map_append]; rfl
      · rw [List.reverse_cons, List.map_append, hgl, List.range_succ, List.map_append]
        show _ ++ [zs.length] = _ ++ [gcount D (keysR ms (3 - j))]
        rw [hz]; rfl
  · obtain ⟨gl, rfl, rfl, hgl⟩ := hI
    have hgl4 : gl.length = 4 := by have := congrArg List.length hgl; simpa using this
    obtain ⟨⟨b0, w0⟩, ⟨b1, w1⟩, ⟨b2, w2⟩, ⟨b3, w3⟩, rfl⟩ : ∃ q0 q1 q2 q3, gl = [q0, q1, q2, q3] := by
      match gl, hgl4 with
      | [a, b, c, d], _ => exact ⟨a, b, c, d, rfl⟩
    have hgl : [w3.length, w2.length, w1.length, w0.length] = [gcount D (keysR ms 3), gcount D (keysR ms 2), gcount D (keysR ms 1), gcount D (keysR ms 0)] := hgl
    injection hgl with g3 hgl
    injection hgl with g2 hgl
    injection hgl with g1 hgl
    injection hgl with g0 hgl
    clear hgl hgl4
    have g0 : w0.length = 1 := by rw [g0]; simp [gcount, keysR, roundN, keyE, num]
    have S : St r B2 L ((n_grounded, .ref ag) :: (n_rounds, .ref asl) :: m) ((ag, OList [.ref b3, .ref b2, .ref b1, .ref b0]) :: (b0, OList w0) :: (b1, OList w1) :: (b2, OList w2) :: (b3, OList w3) :: lr) s' := S
    have hbj : ∀ j v, [Value.ref b3, .ref b2, .ref b1, .ref b0][j]? = some v → ∃ b wv, v = .ref b ∧ ((b, OList wv) : Addr × Desc) ∈ ((ag, OList [.ref b3, .ref b2, .ref b1, .ref b0]) :: (b0, OList w0) :: (b1, OList w1) :: (b2, OList w2) :: (b3, OList w3) :: lr) ∧ (wv.length : Int) = [(gcount D (keysR ms 3) : Int), (gcount D (keysR ms 2) : Int), (gcount D (keysR ms 1) : Int), 1].getD j 0 ∧ wv.length ≤ 64 := fun j v q => by
      have u3 := Nat.le_trans (gcount_le D _) (keys_len ms hmo 3 (by omega))
      have u2 := Nat.le_trans (gcount_le D _) (keys_len ms hmo 2 (by omega))
      have u1 := Nat.le_trans (gcount_le D _) (keys_len ms hmo 1 (by omega))
      match j, q with
      | 0, q => cases q; exact ⟨b3, w3, rfl, .tail _ (.tail _ (.tail _ (.tail _ (.head _)))), by rw [g3]; rfl, by omega⟩
      | 1, q => cases q; exact ⟨b2, w2, rfl, .tail _ (.tail _ (.tail _ (.head _))), by rw [g2]; rfl, by omega⟩
      | 2, q => cases q; exact ⟨b1, w1, rfl, .tail _ (.tail _ (.head _)), by rw [g1]; rfl, by omega⟩
      | 3, q => cases q; exact ⟨b0, w0, rfl, .tail _ (.head _), by rw [g0]; rfl, by omega⟩
    have hag : ((ag, OList [.ref b3, .ref b2, .ref b1, .ref b0]) : Addr × Desc) ∈ ((ag, OList [.ref b3, .ref b2, .ref b1, .ref b0]) :: (b0, OList w0) :: (b1, OList w1) :: (b2, OList w2) :: (b3, OList w3) :: lr) := .head _
    have hasl : ((asl, OList [v3, v2, v1, v0]) : Addr × Desc) ∈ ((ag, OList [.ref b3, .ref b2, .ref b1, .ref b0]) :: (b0, OList w0) :: (b1, OList w1) :: (b2, OList w2) :: (b3, OList w3) :: lr) := .tail _ (.tail _ (.tail _ (.tail _ (.tail _ hasl))))
    have hsub : ((L + 5, OCell cr) :: (L + 4, OCell (some (.int D td))) :: (L + 3, OCell (some (.ref am))) :: (L + 2, OCell (some (.int ms.length tc))) :: (L + 1, OCell (some (.ref an))) :: l₀).Sublist ((ag, OList [.ref b3, .ref b2, .ref b1, .ref b0]) :: (b0, OList w0) :: (b1, OList w1) :: (b2, OList w2) :: (b3, OList w3) :: lr) := by
      rw [← hlr]
      exact .cons _ (.cons _ (.cons _ (.cons _ (.cons _ (.cons _ (List.Sublist.refl _))))))
    generalize ((ag, OList [.ref b3, .ref b2, .ref b1, .ref b0]) :: (b0, OList w0) :: (b1, OList w1) :: (b2, OList w2) :: (b3, OList w3) :: lr) = lz at S hbj hag hasl hsub
    refine wpAny_execs_cons (wpAny_If (wpAny_isTrue_Compare1 (e_loc S hmt (List_ (args_cons (e_comp (cl := []) rfl rfl rfl (e_loc S rfl (e_iterList S (S.list hasl) fun it2 s₆ S => ?_))))))))
    refine comp_go (iter_list hh it2 asl [v3, v2, v1, v0]) (fun j ys l' => lz = l' ∧ IntsAre ys ((List.range j).map fun k => ((keysR ms (3 - k)).length : Int))) S ⟨rfl, .nil⟩ (fun j C mC acc zs l' s' hI S => ?_) (fun j ys l' hj hI => ?_) (fun C acc j v ys mC l' s' hj hv hI S => ?_) (fun ax1 z1 l' s₇ hI S => ?_)
    · obtain ⟨rfl, _⟩ := hI
      exact S.list (.tail _ (.tail _ (.tail _ hasl)))
    · have := ints_len hI.2
      simp at this hj
      rw [this, sizeLine_eq]; omega
    · obtain ⟨rfl, hi⟩ := hI
      obtain ⟨hj4, d, o, kvs, rfl, hdB, hdI, hdk, hdm⟩ := hks j v hv
      have hkl : kvs.length = (keysR ms (3 - j)).length := by have := congrArg List.length hdk; simpa using this
      have hk64 := keys_len ms hmo (3 - j) (by omega)
      refine wpAny_tests_nil ?_
      rw [if_pos rfl]
      refine Call_ (g_len S TB2 (PyProof.Rows.callWith_builtin1 (args_cons (e_loc S rfl (args_nil (c_lenD S (Heap.dictOf_iff.mpr ⟨o, S.base _ _ hdB, hdI⟩) hdm (by omega) fun t _ S => ⟨_, _, S, rfl, ?_⟩))))))
      rw [List.range_succ, List.map_append, hkl]
      exact ints_append hi (.cons _ _ .nil)
    obtain ⟨rfl, hz1⟩ := hI
    refine args_cons (e_comp (cl := []) rfl rfl rfl (e_loc S rfl (e_iterList S (S.list (.tail _ hag)) fun it3 s₈ S => ?_)))
    refine comp_go (iter_list hh it3 ag [.ref b3, .ref b2, .ref b1, .ref b0]) (fun j ys l' => (ax1, OList z1) :: lz = l' ∧ IntsAre ys ([(gcount D (keysR ms 3) : Int), (gcount D (keysR ms 2) : Int), (gcount D (keysR ms 1) : Int), 1].take j)) S ⟨rfl, .nil⟩ (fun j C mC acc zs l' s' hI S => ?_) (fun j ys l' hj hI => ?_) (fun C acc j v ys mC l' s' hj hv hI S => ?_) (fun ax2 z2 l' s₉ hI S => ?_)
    · obtain ⟨rfl, _⟩ := hI
      exact S.list (.tail _ (.tail _ (.tail _ (.tail _ hag))))
    · have := ints_len hI.2
      simp at this hj
      rw [this, sizeLine_eq]; omega
    · obtain ⟨rfl, hi⟩ := hI
      obtain ⟨b, wv, rfl, hbm, hbl, hb64⟩ := hbj j v hv
      refine wpAny_tests_nil ?_
      rw [if_pos rfl]
      refine Call_ (g_len S TB2 (PyProof.Rows.callWith_builtin1 (args_cons (e_loc S rfl (args_nil (c_lenL S (S.list (.tail _ (.tail _ (.tail _ (.tail _ hbm))))) (by omega) fun t _ S => ⟨_, _, S, rfl, ?_⟩))))))
      rw [hbl]
      have ht : [(gcount D (keysR ms 3) : Int), (gcount D (keysR ms 2) : Int), (gcount D (keysR ms 1) : Int), 1].take (j + 1) = [(gcount D (keysR ms 3) : Int), (gcount D (keysR ms 2) : Int), (gcount D (keysR ms 1) : Int), 1].take j ++ [[(gcount D (keysR ms 3) : Int), (gcount D (keysR ms 2) : Int), (gcount D (keysR ms 1) : Int), 1].getD j 0] := by
        rw [List.take_add_one, List.getElem?_eq_getElem (by simpa using hj), List.getD_eq_getElem?_getD, List.getElem?_eq_getElem (by simpa using hj)]; rfl
      rw [ht]
      exact ints_append hi (.cons _ _ .nil)
    obtain ⟨rfl, hz2⟩ := hI
    refine args_nil (e_newList S (fun acm s₁₀ S => ?_) (by simp [sizeLine_eq]))
    have hz1 : IntsAre z1 [((keysR ms 3).length : Int), ((keysR ms 2).length : Int), ((keysR ms 1).length : Int), 1] := hz1
    have hz2 : IntsAre z2 [(gcount D (keysR ms 3) : Int), (gcount D (keysR ms 2) : Int), (gcount D (keysR ms 1) : Int), 1] := hz2
    have hx : ∀ {a vs}, BL B a vs → s₁₀.heap.IsList a vs.toArray := fun hb => let ⟨o, q, c, d⟩ := hb; ⟨o, S.base _ _ (x2 _ _ q), c, d⟩
    have hau := RA.units
    refine c_neLL (hx ht) (hx ht0) (hx ht1) hi0 hi1 (S.list (.head _)) (S.list (.tail _ (.tail _ (.head _)))) (S.list (.tail _ (.head _))) hz1 hz2 (by omega) (wpAny_truthy_bool ?_)
    simp only [Bool.false_eq_true, if_false]
    refine wpAny_execs_nil ?_
    have S := S.forget (l' := (L + 5, OCell cr) :: (L + 4, OCell (some (.int D td))) :: (L + 3, OCell (some (.ref am))) :: (L + 2, OCell (some (.int ms.length tc))) :: (L + 1, OCell (some (.ref an))) :: l₀) (.cons _ (.cons _ (.cons _ hsub)))
    have blx : ∀ {a vs}, BL B a vs → BL B2 a vs := fun hb => let ⟨o, q, c⟩ := hb; ⟨o, x2 _ _ q, c⟩
    exact law_tail w A Q RA TB2 (fun h' hb => hR h' fun b o q => hb b o (x2 b o q)) an am nv mv xs ms te e cr D td tc (blx hn) hni hxl (blx hm) hmi hmo he S hme fun B' m' l' s' x S => h B' m' l' s' (x2.trans x) S
end Mine
end
section
open PySem PySem.W PyProof.Rows
set_option Elab.async false
set_option maxRecDepth 100000
set_option maxHeartbeats 4000000
namespace Mine
def RowFor (ms : List Nat) (W g : Nat) (p : Nat × Nat × Nat) : Prop := 0 ≤ valN W (sgn ms g) ∧ quot ms W g = p.1 + 2 ^ W * (p.2.1 + 2 ^ W * (p.2.2 + 2 ^ W * 1)) ∧ p.1 ≤ 64 ∧ p.2.1 ≤ 64 ∧ p.2.2 ≤ 64
def rowZ (p : Nat × Nat × Nat) : List Int := [(p.1 : Int), (p.2.1 : Int), (p.2.2 : Int), 1]
def ToldIs (B : Addr → Option Obj) (tl : List Value) (rows : List (Nat × Nat × Nat)) : Prop := tl.length = rows.length ∧ ∀ (j : Nat) (p : Nat × Nat × Nat), rows[j]? = some p → ∃ (aj : Addr) (vs : List Value), tl[j]? = some (Value.ref aj) ∧ BL B aj vs ∧ IntsAre vs (rowZ p)
theorem BL.ext {B B' : Addr → Option Obj} {a : Addr} {vs : List Value} (h : BL B a vs) (x : ExtB B B') : BL B' a vs := let ⟨o, b, q⟩ := h; ⟨o, x _ _ b, q⟩
theorem ToldIs.ext {B B' : Addr → Option Obj} {tl : List Value} {rows : List (Nat × Nat × Nat)} (h : ToldIs B tl rows) (x : ExtB B B') : ToldIs B' tl rows :=
  ⟨h.1, fun j p e => let ⟨aj, vs, q1, q2, q3⟩ := h.2 j p e; ⟨aj, vs, q1, q2.ext x, q3⟩⟩
theorem ToldIs.app {B : Addr → Option Obj} {tl : List Value} {rows : List (Nat × Nat × Nat)} (h : ToldIs B tl rows) {a : Addr} {vs : List Value} {p : Nat × Nat × Nat} (hb : BL B a vs) (hi : IntsAre vs (rowZ p)) : ToldIs B (tl ++ [Value.ref a]) (rows ++ [p]) := by
  refine ⟨by rw [List.length_append, List.length_append, h.1]; rfl, fun j q e => ?_⟩
  by_cases hj : j < rows.length
  · rw [List.getElem?_append_left hj] at e
    obtain ⟨aj, vs', q1, q2, q3⟩ := h.2 j q e
    exact ⟨aj, vs', by rw [List.getElem?_append_left (by rw [h.1]; exact hj)]; exact q1, q2, q3⟩
  · rw [List.getElem?_append_right (by omega)] at e
    obtain ⟨hlt, _⟩ := List.getElem?_eq_some_iff.mp e
    have hj0 : j - rows.length = 0 := by simp at hlt; omega
    rw [hj0] at e
    cases e
    exact ⟨a, vs, by rw [List.getElem?_append_right (by rw [h.1]; omega), h.1, hj0]; rfl, hb, hi⟩
theorem gl_at {α : Type} {a b : α} {P : Nat → α → Prop} (h0 : P 0 a) (h1 : P 1 b) : ∀ i x, [a, b][i]? = some x → P i x := fun i x e => by
  match i, e with
  | 0, e => cases e; exact h0
  | 1, e => cases e; exact h1
theorem full_cast (c D : Nat) (hD : D < 2 ^ c) : (2 : Int) ^ ((c : Int).toNat) - 1 - (D : Int) = ((2 ^ c - 1 - D : Nat) : Int) := by
  rw [Int.toNat_natCast]
  have : ((2 ^ c : Nat) : Int) = 2 ^ c := by simp
  omega
theorem quot_digits (ms : List Nat) (W g : Nat) (p : Nat × Nat × Nat) (h1 : 12 ≤ W) (h : RowFor ms W g p) : nDig W (quot ms W g) = 4 ∧ digsN W 4 (quot ms W g) = [p.1, p.2.1, p.2.2, 1] := by
  obtain ⟨_, e, a, b, c⟩ := h
  rw [e]
  exact four_digits W h1 _ _ _ a b c
theorem shl_val (σ N : Int) (W : Nat) (hN : 0 ≤ N) : σ * N * 2 ^ ((3 * (W : Int)).toNat) = σ * ((N.toNat * 2 ^ (3 * W) : Nat) : Int) := by
  rw [show (3 * (W : Int)).toNat = 3 * W by omega]
  obtain ⟨n, rfl⟩ := Int.eq_ofNat_of_zero_le hN
  rw [Int.toNat_natCast, Int.mul_assoc]; simp
theorem sign_natAbs {σ : Int} (hσ : σ = 1 ∨ σ = -1) (N : Int) : (σ * N).natAbs = N.natAbs := by rcases hσ with rfl | rfl <;> simp
theorem bits_lt {x : Int} {b : Nat} (h : Builtin.Int.intBits x ≤ b) : x.natAbs < 2 ^ b := intBits_le_iff.mp h

theorem law_told (w : World) (A : Around) (Q : Value → Shared → Prop) {r : Shared} {B : Addr → Option Obj} {L : Addr} {m : List (Str × Value)} {s : Shared} {X : Array Value} (RA : Room 15 A) (TB : TopB w B) (hF4 : ∀ h : Heap, (∀ b o, B b = some o → h.get? b = some o) → Full54 h) (hX : Tab7 B X)
    (an am : Addr) (nv mv : List Value) (xs : List Int) (ms : List Nat) (te : Tok) (e : Str) (cr : Option Value) (D W : Nat) (td tc tg tw tv : Tok) (σ : Int)
    (hn : BL B an nv) (hni : IntsAre nv xs) (hxl : xs.length = 8) (hm : BL B am mv) (hmi : IntsAre mv (ms.map fun (x : Nat) => (x : Int))) (hmo : masksOk ms) (he : endOk e) (hD : D < 2 ^ ms.length) (hσ : σ = 1 ∨ σ = -1) (hW1 : 12 ≤ W) (hW2 : W ≤ 20)
    (S : St r B L m ((47, OExact (tabObj X)) :: cells5 L cr D ms.length td tc an am) s) (hme : m.lookup n_end = some (.str e te)) (hms : m.lookup n_sign = some (.int σ tg)) (hmw : m.lookup n_width = some (.int W tw)) (hmd : m.lookup n_divisor = some (.int (σ * valN W (sgn ms (2 ^ ms.length - 1))) tv))
    (h : ∀ B' m' l' s', ExtB B B' → St r B' L m' l' s' → Full47 s'.heap → Full54 s'.heap → Q (.bool true) s') :
    wpAny (model PW w) A (execs ((bodyOf (fd_law w.params)).drop 8) (callEnvC (fd_law w.params) L 140)) (fun f s' => Q (retOf f) s') (fun _ _ => False) s := by
  have hh : A.handled = none := RA.handled
  have hml : ms.length ≤ 4 := by rcases hmo.1 with q | q <;> omega
  obtain ⟨c1, c2, c3, c4, c5⟩ := counts_law ms hmo W hW1 hW2 D hD
  have hp4 : 2 ^ ms.length ≤ 2 ^ 4 := Nat.pow_le_pow_right (by decide) hml
  have R0 : RowFor ms W 0 ((keysR ms 3).length, (keysR ms 2).length, (keysR ms 1).length) := ⟨c2, c4, keys_len ms hmo 3 (by omega), keys_len ms hmo 2 (by omega), keys_len ms hmo 1 (by omega)⟩
  have R1 : RowFor ms W (2 ^ ms.length - 1 - D) (gcount D (keysR ms 3), gcount D (keysR ms 2), gcount D (keysR ms 1)) := ⟨c3, c5, Nat.le_trans (gcount_le _ _) (keys_len ms hmo 3 (by omega)), Nat.le_trans (gcount_le _ _) (keys_len ms hmo 2 (by omega)), Nat.le_trans (gcount_le _ _) (keys_len ms hmo 1 (by omega))⟩
  clear c2 c3 c4 c5
  generalize hp0 : ((keysR ms 3).length, (keysR ms 2).length, (keysR ms 1).length) = p0 at R0
  generalize hp1 : (gcount D (keysR ms 3), gcount D (keysR ms 2), gcount D (keysR ms 1)) = p1 at R1
  have hVb := sgn_val_bits ms (2 ^ ms.length - 1) W hml hW2
  have S : St r B L m ((47, OExact (tabObj X)) :: (L + 5, OCell cr) :: (L + 4, OCell (some (.int D td))) :: (L + 3, OCell (some (.ref am))) :: (L + 2, OCell (some (.int ms.length tc))) :: (L + 1, OCell (some (.ref an))) :: []) s := S
  refine wpAny_execs_cons (wpAny_Assign_Name (List_ (args_nil (e_newList S fun ato _ S => e_store S fun _ S => ?_))))
  refine wpAny_execs_cons (wpAny_For (List_ (args_cons (e_int S fun t0 _ S => args_cons (wpAny_BinOp (wpAny_BinOp (wpAny_BinOp (e_int S fun _ _ S => e_cell S (.tail _ (.tail _ (.tail _ (.tail _ (.tail _ (.head _)))))) (b_pow S (Int.natCast_nonneg _) (by omega) (by decide) fun _ _ S => e_int S fun _ _ S => b_sub S fun _ _ S => e_cell S (.tail _ (.tail _ (.tail _ (.head _)))) (b_sub S fun t1 _ S => args_nil ?_))))))))))
  rw [full_cast _ _ hD]
  refine e_newList S fun agl _ S => ?_
  obtain ⟨B1, xg, hag, S⟩ := S.settleL
  refine e_iterList S (hag.at S) fun it s2 S => ?_
  obtain ⟨Vn, hVn⟩ := Int.eq_ofNat_of_zero_le (Int.le_of_lt c1)
  rw [hVn] at hmd c1 hVb
  have S : St r B1 L ((n_told, .ref ato) :: m) ((it, OListIter agl 0) :: (ato, OList []) :: (47, OExact (tabObj X)) :: (L + 5, OCell cr) :: (L + 4, OCell (some (.int D td))) :: (L + 3, OCell (some (.ref am))) :: (L + 2, OCell (some (.int ms.length tc))) :: (L + 1, OCell (some (.ref an))) :: []) s2 := S
  refine for_go (iter_list hh it agl [.int 0 t0, .int ((2 ^ ms.length - 1 - D : Nat) : Int) t1]) (fun i B' m' l' => ExtB B1 B' ∧ m'.lookup n_end = some (.str e te) ∧ m'.lookup n_sign = some (.int σ tg) ∧ m'.lookup n_width = some (.int W tw) ∧ m'.lookup n_divisor = some (.int (σ * (Vn : Int)) tv) ∧ m'.lookup n_told = some (.ref ato) ∧
      ∃ X' tl, Tab7 B' X' ∧ (i = 0 ∨ X' ≠ #[]) ∧ l' = (ato, OList tl) :: (47, OExact (tabObj X')) :: (L + 5, OCell cr) :: (L + 4, OCell (some (.int D td))) :: (L + 3, OCell (some (.ref am))) :: (L + 2, OCell (some (.int ms.length tc))) :: (L + 1, OCell (some (.ref an))) :: [] ∧ ToldIs B' tl ([p0, p1].take i))
    S ⟨.refl _, hme, hms, hmw, hmd, rfl, X, [], hX.ext xg, .inl rfl, rfl, rfl, fun j p q => by simp at q⟩ (fun i B' m' l' s' hI S => (hag.ext hI.1).at S) (fun i v B' m' l' s3 hi hv hI S => ?_) (fun B' m' l' s3 hI S => ?_)
  · obtain ⟨x1, k1, k2, k3, k4, k5, X', tl, hX', hne, rfl, htl⟩ := hI
    obtain ⟨g, tgg, p, rfl, hR, hp⟩ : ∃ (g : Nat) (t : Tok) (p : Nat × Nat × Nat), v = .int (g : Int) t ∧ RowFor ms W g p ∧ [p0, p1][i]? = some p := by
      match i, hv with
      | 0, hv => cases hv; exact ⟨0, t0, p0, rfl, R0, rfl⟩
      | 1, hv => cases hv; exact ⟨_, t1, p1, rfl, R1, rfl⟩
    have xx := xg.trans x1
    have TB' := TB.ext xx
    have hNb := sgn_val_bits ms g W hml hW2
    have hσb : Builtin.Int.intBits σ ≤ 64 := by rcases hσ with rfl | rfl <;> exact intBits_le_iff.mpr (by decide)
    refine wpAny_assign_Name (e_store S fun s4 S => ?_)
    refine wpAny_execs_cons (wpAny_Assign_Name (wpAny_BinOp (wpAny_BinOp (e_loc S k2 (Call_ (g_signed S TB' (PyProof.Rows.callWith_def (o := hz.zo_126 w.params) rfl (args_cons (e_cell S (.tail _ (.tail _ (.tail _ (.tail _ (.tail _ (.head _)))))) (args_cons (e_loc S rfl (args_cons (e_loc S k3 (args_nil ⟨TB'.get S (by decide) (by decide) (by kernel_rfl), ?_⟩))))))))))))))
    refine signed_hit w _ _ _ _ am mv ms g W _ _ (RA.le (by omega)) (S.topH TB') (hF4 _ fun b o q => S.base b o (xx b o q)) ((hm.ext xx).at S) hmi hml (by omega) fun s5 t5 K5 => ?_
    have S := S.call K5
    refine b_mul S (IntMulOk.of_left hσb) fun t6 s6 S => ?_
    refine wpAny_BinOp (e_int S fun _ _ S => e_loc S k3 (b_mul S (IntMulOk.of_left (intBits_le_iff.mpr (by decide))) fun _ _ S => ?_))
    have hsb : Builtin.Int.intBits (σ * valN W (sgn ms g)) ≤ 115 := intBits_le_iff.mpr (by rw [sign_natAbs hσ]; exact bits_lt hNb)
    refine b_shl S hh (by omega) (by omega) fun t7 _ S => ?_
    rw [shl_val σ _ W hR.1]
    refine e_store S fun s7 S => ?_
    refine wpAny_execs_cons (wpAny_Expr_any (MethodCall_ (e_loc S k5 (e_mAppend S (.tail _ (.head _)) (callWith_method1 (args_cons (Call_ (g_i2d S TB' (PyProof.Rows.callWith_def (o := hz.zo_75 w.params) rfl (args_cons (Subscript_ (Call_ (g_idiv S TB' (PyProof.Rows.callWith_def (o := hz.zo_96 w.params) rfl (args_cons (e_loc S rfl (args_cons (e_loc S k4 (args_nil ⟨TB'.get S (by decide) (by decide) (by kernel_rfl), ?_⟩)))))))))))))))))))
    have S := S.perm (perm_rev3 _ _ _ _)
    have hVn1 : 1 ≤ Vn := by omega
    have hnn : (((valN W (sgn ms g)).toNat * 2 ^ (3 * W) : Nat) : Int).natAbs < 2 ^ 175 := by
      have h1 := bits_lt hNb
      have h2 : 2 ^ (3 * W) ≤ 2 ^ 60 := Nat.pow_le_pow_right (by decide) (by omega)
      have h3 : (valN W (sgn ms g)).toNat < 2 ^ 115 := by omega
      rw [Int.natAbs_natCast]
      refine Nat.lt_of_le_of_lt (Nat.mul_le_mul_left _ h2) ?_
      omega
    have hab : Builtin.Int.intBits (((valN W (sgn ms g)).toNat * 2 ^ (3 * W) : Nat) : Int) ≤ 175 := intBits_le_iff.mpr hnn
    have hn1 : 1 ≤ Builtin.Int.intBits (Vn : Int) := by
      rcases Nat.eq_zero_or_pos (Builtin.Int.intBits (Vn : Int)) with q | q
      · have := bits_lt (Nat.le_of_eq q)
        rw [Int.natAbs_natCast] at this; omega
      · exact q
    have hnd := nDig_le (Builtin.Int.intBits (Vn : Int)) ((valN W (sgn ms g)).toNat * 2 ^ (3 * W)) hn1
    have hq : (valN W (sgn ms g)).toNat * 2 ^ (3 * W) / Vn = quot ms W g := by unfold quot; rw [hVn, Int.toNat_natCast]
    obtain ⟨d1, d2⟩ := quot_digits ms W g p hW1 hR
    refine idiv_any w σ hσ ((valN W (sgn ms g)).toNat * 2 ^ (3 * W)) Vn (Builtin.Int.intBits (Vn : Int)) 8 hVn1 rfl (by omega) (by omega) (by omega) (by omega) (RA.le (by omega)) TB' S hX' (hF4 _ fun b o q => S.base b o (xx b o q)) fun B2 X2 c t u s8 x2 hX2 hne2 S => ?_
    have TB2 := TB'.ext x2
    refine e_int S fun _ s9 S => item_tupleT (j := 0) (S.tuple (.head _)) (by decide) (by decide) rfl rfl ?_
    refine args_cons (e_loc S k3 (args_nil ⟨TB2.get S (by decide) (by decide) (by kernel_rfl), ?_⟩))
    rw [hq]
    refine i2d_hit w (quot ms W g) W 2 (by omega) (by omega) (by rw [d1]; decide) (by rw [d1]; decide) ?_ _ _ _ _ (RA.le (by omega)) _ _ (S.topH TB2) (S.full7 (.tail _ (.head _)) hX2 hne2) fun s10 al vs K hpl hi hal => ?_
    · rw [← hq]
      refine Nat.le_trans (intBits_le_iff.mpr ?_) (by decide : 175 ≤ 1000000)
      rw [Int.natAbs_natCast] at hnn ⊢
      exact Nat.lt_of_le_of_lt (Nat.div_le_self _ _) hnn
    have S := S.addL (S.call K) hal hpl
    rw [d1, d2] at hi
    have hi : IntsAre vs (rowZ p) := hi
    refine args_nil ?_
    obtain ⟨B3, x3, hal3, S⟩ := S.settleL
    have S := (S.drop1).perm (perm_rev3 _ _ _ _)
    have htk : [p0, p1].take (i + 1) = [p0, p1].take i ++ [p] := by rw [List.take_add_one, hp]; rfl
    refine e_append S 1 rfl (fun s11 S => ?_) (by rw [htl.1, List.length_take, sizeLine_eq]; simp at hi ⊢; omega)
    refine wpAny_execs_nil ⟨_, _, _, S, (x1.trans x2).trans x3, k1, k2, k3, k4, k5, X2, tl ++ [.ref al], hX2.ext x3, .inr hne2, rfl, ?_⟩
    rw [htk]
    exact ((htl.ext x2).ext x3).app hal3 hi
  · obtain ⟨x1, k1, k2, k3, k4, k5, X', tl, hX', hne, rfl, htl⟩ := hI
    have hne : X' ≠ #[] := hne.resolve_left (by simp)
    have htl : ToldIs B' tl [p0, p1] := htl
    obtain ⟨a0, u0, e0, b0, i0⟩ := htl.2 0 p0 rfl
    obtain ⟨a1, u1, e1, b1, i1⟩ := htl.2 1 p1 rfl
    obtain rfl : tl = [.ref a0, .ref a1] := by
      match tl, htl.1, e0, e1 with
      | [x, y], _, e0, e1 => cases e0; cases e1; rfl
    obtain ⟨B2, x2, ht, S⟩ := S.settleL
    obtain ⟨o7, h7, b7, g7, S⟩ := S.settle
    have x3 := ExtB.put (B := B2) (a := 47) (o := o7) b7
    have h7' : (fun b => if b = 47 then some o7 else B2 b) 47 = some (tabObj X') := by show (if (47 : Addr) = 47 then some o7 else B2 47) = _; rw [if_pos rfl]; exact congrArg some h7
    generalize (fun b => if b = 47 then some o7 else B2 b) = B3 at S x3 h7'
    have xa := (xg.trans x1).trans (x2.trans x3)
    have hX3 := hX'.ext (x2.trans x3)
    have F7 : ∀ h : Heap, (∀ b o, B3 b = some o → h.get? b = some o) → Full47 h := fun h hb => by
      rcases hX3 with q | ⟨c', oc, rfl, q2, vs, t, q3, q4⟩
      · exact absurd q hne
      · exact ⟨c', hb _ _ h7', c', oc, vs, t, rfl, hb _ _ q2, q3, q4⟩
    have F4 : ∀ h : Heap, (∀ b o, B3 b = some o → h.get? b = some o) → Full54 h := fun h hb => hF4 h fun b o q => hb b o (xa b o q)
    have TB3 := TB.ext xa
    refine law_mid (l₀ := []) w A Q RA TB3 (fun h hb => ⟨fun x o q1 q2 q3 => hb _ _ (TB3.here x o q1 q2 q3), F7 h hb, F4 h hb⟩) an am ato a0 a1 nv mv u0 u1 xs ms te e cr D td tc (hn.ext xa) hni hxl (hm.ext xa) hmi hmo he (ht.ext x3) (b0.ext (x2.trans x3)) (b1.ext (x2.trans x3)) ?_ ?_ S k1 k5 fun B4 m4 l4 s4 x4 S4 => ?_
    · rw [← hp0] at i0; exact i0
    · rw [← hp1] at i1; exact i1
    · exact h B4 m4 _ s4 (xa.trans x4) S4 (F7 _ fun b o q => S4.base b o (x4 b o q)) (F4 _ fun b o q => S4.base b o (x4 b o q))
end Mine
end
section
open PySem PySem.W PyProof.Rows
set_option Elab.async false
set_option maxRecDepth 100000
set_option maxHeartbeats 4000000
namespace Mine
section
variable {r : Shared} {B : Addr → Option Obj} {L : Addr} {m : List (Str × Value)} {l : List (Addr × Desc)} {s s' : Shared} {w : World} {A : Around} {E : Value → Shared → Prop} {env : Env}
theorem St.at54 {X : Array Value} (S : St r B L m l s) (hm : (54, OExact (tabObj X)) ∈ l) : s.heap.get? 54 = some (tabObj X) := by
  obtain ⟨o, e, q⟩ := S.get hm
  rw [e]; exact congrArg some q
theorem St.fill54 (S : St r B L m ((54, OExact (tabObj #[])) :: l) s) (k : KeptBut 54 s s') (n : New54 s s') :
    ∃ B', ExtB B B' ∧ (∀ h : Heap, (∀ b o, B' b = some o → h.get? b = some o) → Full54 h) ∧ St r B' L m l s' := by
  obtain ⟨c', h1, h2, h3⟩ := n
  obtain ⟨c2, oc, vs, t, e, h4, h5, h6⟩ := h2
  cases e
  have S1 : St r B L m ((c', OExact oc) :: (54, OExact (tabObj #[rawInt 48, rawInt 4, .ref c'])) :: l) s' := St.more' (D := OExact oc) (S.callBut (D' := OExact (tabObj #[rawInt 48, rawInt 4, .ref c'])) k h1 rfl) (S.absent h3) h4 rfl
  obtain ⟨o1, q1, b1, g1, S1⟩ := S1.settle
  obtain ⟨o2, q2, b2, g2, S1⟩ := S1.settle
  have x1 := ExtB.put (o := o1) b1
  have x2 := ExtB.put (B := fun b => if b = c' then some o1 else B b) (o := o2) b2
  refine ⟨_, x1.trans x2, fun h hb => ⟨c', ?_, c', oc, vs, t, rfl, ?_, h5, h6⟩, S1⟩
  · rw [hb 54 o2 (if_pos rfl)]; exact congrArg some q2
  · rw [hb c' o1 (x2 _ _ (if_pos rfl))]; exact congrArg some q1
theorem ite_count {b : Bool} {k k' : Nat} {pos pos' : Pos} {Q : Value → Shared → Prop} (S : St r B L m l s) (h : ∀ (C : Nat) t s', C = 3 ∨ C = 4 → St r B L m l s' → Q (.int (C : Int) t) s') :
    if b = true then wpAny (model PW w) A (eval (.Constant (.int 3) k pos) env) Q E s else wpAny (model PW w) A (eval (.Constant (.int 4) k' pos') env) Q E s := by
  split
  · exact e_int S fun t s' S => h 3 t s' (.inl rfl) S
  · exact e_int S fun t s' S => h 4 t s' (.inr rfl) S
end
theorem signed_new (w : World) (A : Around) (s : Shared) (Q E : Value → Shared → Prop) (am : Addr) (mv : List Value) (ms : List Nat) (among width : Nat) (ta tw : Tok)
    (RA : Room 6 A) (T : TopH w s.heap) (h54 : s.heap.get? 54 = some (tabObj #[])) (hm : s.heap.IsList am mv.toArray) (hmi : IntsAre mv (ms.map fun (y : Nat) => (y : Int))) (hml : ms.length ≤ 4) (hw : width ≤ 1000)
    (h : ∀ s' t, KeptBut 54 s s' → New54 s s' → Q (.int (valN width (sgn ms among)) t) s') :
    wpAny (model PW w) A (call (.ref 109) [.ref am, .int among ta, .int width tw]) Q E s := by
  have ham : am ≠ 54 := fun q => by
    obtain ⟨o, e, c, _⟩ := hm
    rw [q, h54] at e; cases e; cases c
  have TB : TopB w (hideB 54 s.heap) := ⟨fun a o h1 h2 e => hideB_get h2 (T a o h1 h2 e)⟩
  refine signed_core w A s Q E (hideB 54 s.heap) [(54, OExact (tabObj #[]))] am mv ms among width ta tw RA (fun _ _ e => hideB_of e) (fun p hp => by rw [List.mem_singleton] at hp; subst hp; exact ⟨⟨_, h54, rfl⟩, hideB_none _ _⟩) (by simp) TB (fun L m l s' S => ?_) hmi hml fun L m l' s' a cv tw' S hcv => ?_
  · obtain ⟨o, e, q⟩ := hm
    exact ⟨o, S.base _ _ (hideB_get ham e), q⟩
  · have h54' : s'.heap.get? 54 = some (tabObj #[]) := S.at54 (List.mem_append_right _ (.head _))
    refine d2i_new w (sgn ms among) cv hcv width 5 3 (sgn_bits ms among hml) (by decide) hw (by rw [sgn_len]; decide) (by rw [sgn_len]; decide) _ s' _ _ ((RA.deeper _ : Room 5 _)) a tw' (S.topH TB) h54' (S.list (.head _)) fun s₂ t K N => ?_
    refine h s₂ t ⟨K.gens.trans S.gens, K.drawn.trans S.drawn, K.os.trans S.os, fun b o hb e => K.keep b o hb (S.base b o (hideB_get hb e))⟩ ?_
    obtain ⟨c', n1, n2, n3⟩ := N
    refine ⟨c', n1, n2, ?_⟩
    cases e : s.heap.get? c' with
    | none => rfl
    | some o =>
      by_cases q : c' = 54
      · rw [q, h54'] at n3; cases n3
      · rw [S.base _ _ (hideB_get q e)] at n3; cases n3
end Mine
end
section
open PySem PySem.W PyProof.Rows
set_option Elab.async false
set_option maxRecDepth 100000
set_option maxHeartbeats 4000000
namespace Mine
def hide2 (h : Heap) : Addr → Option Obj := fun b => if b = 47 ∨ b = 54 then none else h.get? b
theorem hide2_of {h : Heap} {b : Addr} {o : Obj} (e : hide2 h b = some o) : h.get? b = some o := by
  unfold hide2 at e
  split at e
  · cases e
  · exact e
theorem hide2_get {h : Heap} {b : Addr} {o : Obj} (n1 : b ≠ 47) (n2 : b ≠ 54) (e : h.get? b = some o) : hide2 h b = some o := by
  unfold hide2
  rw [if_neg (fun q => q.elim n1 n2)]; exact e
abbrev starts : List Int := [2, 3, 8, 5, 3, 48, 5, 3]
theorem pow2_cast (C : Nat) : (2 : Int) ^ ((C : Int).toNat) = ((2 ^ C : Nat) : Int) := by rw [Int.toNat_natCast]; simp
theorem full1 (C : Nat) : (2 : Int) ^ ((C : Int).toNat) - 1 = ((2 ^ C - 1 : Nat) : Int) := by
  rw [pow2_cast]
  have := Nat.two_pow_pos C
  omega
theorem law_walk (w : World) (A : Around) (s : Shared) (Q E : Value → Shared → Prop) (as : Addr) (sv : List Value) (ns : List Int)
    (RA : Room 20 A) (T : TopH w s.heap) (h47 : s.heap.get? 47 = some (tabObj #[])) (h54 : s.heap.get? 54 = some (tabObj #[])) (hs : s.heap.IsList as sv.toArray) (hsi : IntsAre sv ns) (hn : ns.length ≤ 1000)
    (h : ∀ s' : Shared, s'.gens = s.gens → s'.drawn = s.drawn → s'.os = s.os → (∀ b o, b ≠ 47 → b ≠ 54 → s.heap.get? b = some o → s'.heap.get? b = some o) → Full47 s'.heap → Full54 s'.heap → Q (.bool true) s') :
    wpAny (model PW w) A (call (.ref 140) [.ref as]) Q E s := by
  have TB : TopB w (hide2 s.heap) := ⟨fun a o h1 h2 e => hide2_get h1 h2 (T a o h1 h2 e)⟩
  have hsv : sv.length = ns.length := ints_len hsi
  have has : as ≠ 47 ∧ as ≠ 54 := by
    obtain ⟨o, e, c, _⟩ := hs
    exact ⟨fun q => (by rw [q, h47] at e; cases e; cases c), fun q => (by rw [q, h54] at e; cases e; cases c)⟩
  refine wpAny_call (enterTopC (o := hz.zo_157 w.params) (oc := hz.zo_156 w.params) (fd := fd_law w.params) (c := 139) (binds := [(n_script, .ref as)]) (mL := [(n_script, .ref as)]) (hide2 s.heap) [(47, OExact (tabObj #[])), (54, OExact (tabObj #[]))] (fun _ _ e => hide2_of e) (fun p hp => ?_) (by simp) TB RA.lt (by kernel_rfl) rfl (by kernel_rfl) rfl rfl rfl rfl rfl rfl rfl rfl (kinds_of (by kernel_rfl)) (fun L => lookup_upd [] n_script (.ref as)) (fun L => of_decide_eq_true (by kernel_rfl)) rfl rfl rfl (fun L s₁ S => ?_))
  · rcases List.mem_cons.mp hp with rfl | hp
    · exact ⟨⟨_, h47, rfl⟩, if_pos (.inl rfl)⟩
    · rw [List.mem_singleton] at hp; subst hp; exact ⟨⟨_, h54, rfl⟩, if_pos (.inr rfl)⟩
  have S : St s (hide2 s.heap) L [(n_script, .ref as)] [(L + 5, OCell none), (L + 4, OCell none), (L + 3, OCell none), (L + 2, OCell none), (L + 1, OCell none), (47, OExact (tabObj #[])), (54, OExact (tabObj #[]))] s₁ := S
  have R19 : Room 19 (A.deeper (callEnvC (fd_law w.params) L 140)) := RA.deeper _
  have hsS : ∀ {L m l s'}, St s (hide2 s.heap) L m l s' → s'.heap.IsList as sv.toArray := fun S => by obtain ⟨o, ho, q⟩ := hs; exact ⟨o, S.base _ _ (hide2_get has.1 has.2 ho), q⟩
  have TS : ∀ {L m l s'}, St s (hide2 s.heap) L m l s' → TopH w s'.heap := fun S x o h1 h2 e => S.base _ _ (TB.here x o h1 h2 e)
  refine wpAny_execs_cons (wpAny_Assign_Name (Call_ (g_numbers S TB (PyProof.Rows.callWith_def (o := hz.zo_121 w.params) rfl (args_cons (e_loc S rfl (args_cons (List_ (args_cons (e_int S fun t1 _ S => args_cons (e_int S fun t2 _ S => args_cons (e_int S fun t3 _ S => args_cons (e_int S fun t4 _ S => args_cons (e_int S fun t5 _ S => args_cons (e_int S fun t6 _ S => args_cons (e_int S fun t7 _ S => args_cons (e_int S fun t8 _ S => args_nil (e_newList S fun ast _ S => args_nil ⟨TB.get S (by decide) (by decide) (by kernel_rfl), ?_⟩))))))))))))))))))
  refine numbers_walk w _ _ _ _ as ast sv [.int 2 t1, .int 3 t2, .int 8 t3, .int 5 t4, .int 3 t5, .int 48 t6, .int 5 t7, .int 3 t8] ns starts (R19.le (by omega)) (TS S) (hsS S) hsi hn (S.list (.head _)) (.cons _ _ (.cons _ _ (.cons _ _ (.cons _ _ (.cons _ _ (.cons _ _ (.cons _ _ (.cons _ _ .nil)))))))) rfl fun an s₂ nv xs K hnl hni hxl hna => ?_
  have hsB : BL (hide2 s.heap) as sv := by obtain ⟨o, ho, q1, q2⟩ := hs; exact ⟨o, hide2_get has.1 has.2 ho, q1, q2⟩
  obtain ⟨on, hn1, hn2, hn3⟩ := hnl
  have S := (S.more (D := fun o => o.cls = .type "list" ∧ ∃ n, o.data = .seq nv.toArray n) (S.call K) hna hn1 ⟨hn2, hn3⟩)
  obtain ⟨o1, d1, b1, g1, S⟩ := S.settle
  have x1 := ExtB.put (B := hide2 s.heap) (o := o1) b1
  have hnB : BL (fun b => if b = an then some o1 else hide2 s.heap b) an nv := ⟨o1, if_pos rfl, d1⟩
  generalize (fun b => if b = an then some o1 else hide2 s.heap b) = B1 at S x1 hnB
  have TB1 := TB.ext x1
  have S := S.drop1
  have S : St s B1 L [(n_script, .ref as)] ([(L + 5, OCell none), (L + 4, OCell none), (L + 3, OCell none), (L + 2, OCell none), (L + 1, OCell none)] ++ [(47, OExact (tabObj #[])), (54, OExact (tabObj #[]))]) s₂ := S
  have S := S.perm (l' := (54, OExact (tabObj #[])) :: (47, OExact (tabObj #[])) :: (L + 5, OCell none) :: (L + 4, OCell none) :: (L + 3, OCell none) :: (L + 2, OCell none) :: (L + 1, OCell none) :: []) ((List.Perm.swap _ _ _).trans (List.perm_append_comm (l₁ := [(47, OExact (tabObj #[])), (54, OExact (tabObj #[]))]) (l₂ := [(L + 5, OCell none), (L + 4, OCell none), (L + 3, OCell none), (L + 2, OCell none), (L + 1, OCell none)])))
  refine e_storeCell S 6 rfl fun s₃ S => ?_
  have S : St s B1 L [(n_script, .ref as)] ((54, OExact (tabObj #[])) :: (47, OExact (tabObj #[])) :: (L + 5, OCell none) :: (L + 4, OCell none) :: (L + 3, OCell none) :: (L + 2, OCell none) :: (L + 1, OCell (some (.ref an))) :: []) s₃ := S
  -- count
  refine wpAny_execs_cons (wpAny_Assign_Name (wpAny_IfExp (wpAny_isTrue_Compare1 (Call_ (g_len S TB1 (PyProof.Rows.callWith_builtin1 (args_cons (e_loc S rfl (args_nil (c_lenL S ((hsB.ext x1).at S) (by omega) fun _ _ S => e_int S fun _ _ S => lt_int (wpAny_truthy_bool (ite_count S fun C tc s₄ hC S => ?_))))))))))))
  refine e_storeCell S 5 rfl fun s₅ S => ?_
  have S : St s B1 L [(n_script, .ref as)] ((54, OExact (tabObj #[])) :: (47, OExact (tabObj #[])) :: (L + 5, OCell none) :: (L + 4, OCell none) :: (L + 3, OCell none) :: (L + 2, OCell (some (.int (C : Int) tc))) :: (L + 1, OCell (some (.ref an))) :: []) s₅ := S
  -- masks
  have hh : (A.deeper (callEnvC (fd_law w.params) L 140)).handled = none := R19.handled
  refine wpAny_execs_cons (wpAny_Assign_Name (e_comp (cl := [(n_numbers, L + 1)]) rfl rfl rfl (Call_ (g_range S TB1 (PyProof.Rows.callWith_type1 (args_cons (e_cell S (.tail _ (.tail _ (.tail _ (.tail _ (.tail _ (.head _)))))) (args_nil (c_range (n := C) S fun _ _ S => c_iterRange S (by omega) fun it s₆ S => ?_)))))))))
  refine comp_go (iter_range hh it C) (fun j ys l' => (54, OExact (tabObj #[])) :: (47, OExact (tabObj #[])) :: (L + 5, OCell none) :: (L + 4, OCell none) :: (L + 3, OCell none) :: (L + 2, OCell (some (.int (C : Int) tc))) :: (L + 1, OCell (some (.ref an))) :: [] = l' ∧ ∃ ms : List Nat, IntsAre ys (ms.map fun (y : Nat) => (y : Int)) ∧ ms.length = j ∧ ∀ x ∈ ms, 1 ≤ x ∧ x ≤ 15) S ⟨rfl, [], .nil, rfl, fun _ q => nomatch q⟩ (fun _ _ _ _ _ _ _ _ _ => trivial) (fun j ys l' hj hI => ?_)
    (fun C' acc j v ys mC l' s' hj hv hI S => ?_) (fun am ys l' s₇ hI S => ?_)
  · obtain ⟨_, ms, q, q2, _⟩ := hI
    rw [ints_len q, List.length_map, q2, sizeLine_eq]; omega
  · obtain ⟨tj, rfl⟩ := hv
    obtain ⟨rfl, ms, hi1, hi2, hi3⟩ := hI
    refine wpAny_tests_nil ?_
    rw [if_pos rfl]
    obtain ⟨tx, hx⟩ := ints_at hni (k := j) (by omega)
    refine wpAny_BinOp (e_int S fun _ _ S => wpAny_BinOp (Subscript_ (e_cell S (.tail _ (.tail _ (.tail _ (.tail _ (.tail _ (.tail _ (.tail _ (.tail _ (.tail _ (.head _)))))))))) (e_loc S rfl (t_item (hnB.at S) (by omega) (by omega) hx (e_int S fun _ _ S => b_mod S (by decide) fun _ _ S => b_add S fun tz _ S => ?_))))))
    obtain ⟨d, hd1, hd2⟩ := fmod_lt (xs.getD j 0) 15 (by decide)
    rw [show (xs.getD j 0).fmod 15 = (d : Int) from hd2, show (1 : Int) + (d : Int) = ((1 + d : Nat) : Int) by omega]
    refine ⟨_, _, S, rfl, ms ++ [1 + d], ?_, by rw [List.length_append, hi2]; rfl, fun x hx => ?_⟩
    · rw [List.map_append]
      exact ints_append hi1 (.cons _ _ .nil)
    · rcases List.mem_append.mp hx with hx | hx
      · exact hi3 x hx
      · rw [List.mem_singleton.mp hx]; omega
  obtain ⟨rfl, ms, hmi, hml, hmx⟩ := hI
  subst hml
  have hmo : masksOk ms := ⟨hC, hmx⟩
  have hml : ms.length ≤ 4 := by omega
  have hp4 : 2 ^ ms.length ≤ 2 ^ 4 := Nat.pow_le_pow_right (by decide) hml
  obtain ⟨B2, x2, hmB, S⟩ := S.settleL
  have xx := x1.trans x2
  have TB2 := TB.ext xx
  have hnB := hnB.ext x2
  refine e_storeCell S 4 rfl fun s₈ S => ?_
  have S : St s B2 L [(n_script, .ref as)] ((54, OExact (tabObj #[])) :: (47, OExact (tabObj #[])) :: (L + 5, OCell none) :: (L + 4, OCell none) :: (L + 3, OCell (some (.ref am))) :: (L + 2, OCell (some (.int (ms.length : Int) tc))) :: (L + 1, OCell (some (.ref an))) :: []) s₈ := S
  -- drawn
  obtain ⟨t4, hx4⟩ := ints_at hni (k := 4) (by omega)
  have hpos := Nat.two_pow_pos ms.length
  refine wpAny_execs_cons (wpAny_Assign_Name (wpAny_BinOp (Subscript_ (e_cell S (.tail _ (.tail _ (.tail _ (.tail _ (.tail _ (.tail _ (.head _))))))) (e_int S fun _ _ S => t_item (hnB.at S) (by decide) (by decide) hx4 (wpAny_BinOp (e_int S fun _ _ S => e_cell S (.tail _ (.tail _ (.tail _ (.tail _ (.tail _ (.head _)))))) (b_pow S (Int.natCast_nonneg _) (by omega) (by decide) fun _ _ S => b_mod S (by rw [pow2_cast]; omega) fun td s₉ S => ?_))))))))
  rw [pow2_cast]
  obtain ⟨D, hD1, hD2⟩ := fmod_lt (xs.getD 4 0) (2 ^ ms.length) hpos
  rw [hD2]
  refine e_storeCell S 3 rfl fun s₁₀ S => ?_
  have S : St s B2 L [(n_script, .ref as)] ((54, OExact (tabObj #[])) :: (47, OExact (tabObj #[])) :: (L + 5, OCell none) :: (L + 4, OCell (some (.int (D : Int) td))) :: (L + 3, OCell (some (.ref am))) :: (L + 2, OCell (some (.int (ms.length : Int) tc))) :: (L + 1, OCell (some (.ref an))) :: []) s₁₀ := S
  -- end
  obtain ⟨t7, hx7⟩ := ints_at hni (k := 7) (by omega)
  refine wpAny_execs_cons (wpAny_Assign_Name (Subscript_ (List_ (args_cons (e_str S fun u1 _ S => args_cons (e_str S fun u2 _ S => args_cons (e_str S fun u3 _ S => args_nil (e_newList S fun ael s₁₁ S => wpAny_BinOp (Subscript_ (e_cell S (.tail _ (.tail _ (.tail _ (.tail _ (.tail _ (.tail _ (.tail _ (.head _)))))))) (e_int S fun _ _ S => t_item (hnB.at S) (by decide) (by decide) hx7 (e_int S fun _ _ S => b_mod S (by decide) fun _ _ S => ?_))))))))))))
  obtain ⟨z, hz1, hz2⟩ := fmod_lt (xs.getD 7 0) 3 (by decide)
  rw [show (xs.getD 7 0).fmod 3 = (z : Int) from hz2]
  obtain ⟨e, te, he, hxe⟩ : ∃ e te, endOk e ∧ [Value.str ⟨⟨[10]⟩⟩ u1, .str ⟨⟨[13]⟩⟩ u2, .str ⟨⟨[13, 10]⟩⟩ u3][z]? = some (.str e te) := by
    match z, hz1 with
    | 0, _ => exact ⟨_, u1, .inl rfl, rfl⟩
    | 1, _ => exact ⟨_, u2, .inr (.inl rfl), rfl⟩
    | 2, _ => exact ⟨_, u3, .inr (.inr rfl), rfl⟩
  refine t_item (S.list (.head _)) (Int.natCast_nonneg _) (by omega) hxe ?_
  refine e_store S.drop1 fun s₁₂ S => ?_
  -- sign
  refine wpAny_execs_cons (wpAny_Assign_Name (wpAny_BinOp (e_int S fun _ _ S => wpAny_BinOp (e_int S fun _ _ S => wpAny_BinOp (wpAny_BinOp (Subscript_ (e_cell S (.tail _ (.tail _ (.tail _ (.tail _ (.tail _ (.tail _ (.head _))))))) (e_int S fun _ _ S => t_item (hnB.at S) (by decide) (by decide) hx7 (e_int S fun _ _ S => b_fdiv S (by decide) (by decide) fun _ _ S => e_int S fun _ _ S => b_mod S (by decide) fun _ _ S => b_mul S (IntMulOk.of_left (intBits_le_iff.mpr (by decide))) fun _ _ S => b_sub S fun tg s₁₃ S => ?_)))))))))
  obtain ⟨σ, hσ, hσe⟩ : ∃ σ : Int, (σ = 1 ∨ σ = -1) ∧ 1 - 2 * ((xs.getD 7 0).fdiv 3).fmod 2 = σ := by
    obtain ⟨y, hy1, hy2⟩ := fmod_lt ((xs.getD 7 0).fdiv 3) 2 (by decide)
    refine ⟨_, ?_, rfl⟩
    rw [show ((xs.getD 7 0).fdiv 3).fmod 2 = (y : Int) from hy2]
    omega
  rw [hσe]
  refine e_store S fun s₁₄ S => ?_
  -- width
  refine wpAny_execs_cons (wpAny_Assign_Name (wpAny_BinOp (e_int S fun _ _ S => wpAny_BinOp (wpAny_BinOp (Subscript_ (e_cell S (.tail _ (.tail _ (.tail _ (.tail _ (.tail _ (.tail _ (.head _))))))) (e_int S fun _ _ S => t_item (hnB.at S) (by decide) (by decide) hx7 (e_int S fun _ _ S => b_fdiv S (by decide) (by decide) fun _ _ S => e_int S fun _ _ S => b_mod S (by decide) fun _ _ S => b_add S fun tw s₁₅ S => ?_))))))))
  obtain ⟨W, hW1, hW2, hWe⟩ : ∃ W : Nat, 12 ≤ W ∧ W ≤ 20 ∧ 12 + ((xs.getD 7 0).fdiv 6).fmod 9 = (W : Int) := by
    obtain ⟨y, hy1, hy2⟩ := fmod_lt ((xs.getD 7 0).fdiv 6) 9 (by decide)
    refine ⟨12 + y, by omega, by omega, ?_⟩
    rw [show ((xs.getD 7 0).fdiv 6).fmod 9 = (y : Int) from hy2]
    omega
  rw [hWe]
  refine e_store S fun s₁₆ S => ?_
  -- divisor
  refine wpAny_execs_cons (wpAny_Assign_Name (wpAny_BinOp (e_loc S rfl (Call_ (g_signed S TB2 (PyProof.Rows.callWith_def (o := hz.zo_126 w.params) rfl (args_cons (e_cell S (.tail _ (.tail _ (.tail _ (.tail _ (.head _))))) (args_cons (wpAny_BinOp (wpAny_BinOp (e_int S fun _ _ S => e_cell S (.tail _ (.tail _ (.tail _ (.tail _ (.tail _ (.head _)))))) (b_pow S (Int.natCast_nonneg _) (by omega) (by decide) fun _ _ S => e_int S fun _ _ S => b_sub S fun _ _ S => args_cons (e_loc S rfl (args_nil ⟨TB2.get S (by decide) (by decide) (by kernel_rfl), ?_⟩)))))))))))))))
  rw [full1]
  refine signed_new w _ _ _ _ am ys ms (2 ^ ms.length - 1) W _ _ (R19.le (by omega)) (S.topH TB2) (S.at54 (.head _)) (hmB.at S) hmi hml (by omega) fun s₁₇ t₁₇ K N => ?_
  obtain ⟨B3, x3, hF4, S⟩ := S.fill54 K N
  have hσb : Builtin.Int.intBits σ ≤ 64 := by rcases hσ with rfl | rfl <;> exact intBits_le_iff.mpr (by decide)
  refine b_mul S (IntMulOk.of_left hσb) fun tv s₁₈ S => ?_
  refine e_store S fun s₁₉ S => ?_
  refine law_told (X := #[]) w _ (fun v s' => Q v s') (R19.le (by omega)) (TB2.ext x3) hF4 (.inl rfl) an am nv ys xs ms te e none D W td tc tg tw tv σ (hnB.ext x3) hni hxl (hmB.ext x3) hmi hmo he hD1 hσ hW1 hW2 S rfl rfl rfl rfl fun B4 m4 l4 s4 x4 S F7 F4 => ?_
  exact h s4 S.gens S.drawn S.os (fun b o n1 n2 q => S.base b o (x4 _ _ (x3 _ _ (xx _ _ (hide2_get n1 n2 q))))) F7 F4
end Mine
end
section
open PySem PySem.W PyProof.Rows
set_option Elab.async false
set_option maxRecDepth 100000
set_option maxHeartbeats 4000000
namespace Mine
theorem topH_of {w : World} {h : Heap} (KX : (hz.heap_157 w.params).In h) : TopH w h := fun a o _ _ e => KX a o e
theorem law_old {w : World} {h h' : Heap} (T : TopH w h) (h47 : h.get? 47 = some (tabObj #[])) (h54 : h.get? 54 = some (tabObj #[])) (k : ∀ b o, b ≠ 47 → b ≠ 54 → h.get? b = some o → h'.get? b = some o) (F7 : Full47 h') (F4 : Full54 h') : OldK h h' := by
  have t47 : isCodeTable h 47 := (CodeHd.tab (c := 51) ⟨hz.zo_74 w.params, _, _, _, _, _, _, _, _, T 51 _ (by decide) (by decide) (by kernel_rfl), rfl, rfl, rfl, rfl, rfl, rfl, rfl, rfl, by decide⟩ h47).isCodeTable
  have t54 : isCodeTable h 54 := (CodeHd.tab (c := 58) ⟨hz.zo_81 w.params, _, _, _, _, _, _, _, _, T 58 _ (by decide) (by decide) (by kernel_rfl), rfl, rfl, rfl, rfl, rfl, rfl, rfl, rfl, by decide⟩ h54).isCodeTable
  obtain ⟨c7, e7, _⟩ := F7
  obtain ⟨c4, e4, _⟩ := F4
  refine ⟨fun b o e => ?_, fun b o e => ?_⟩
  · by_cases q : b = 47
    · subst q
      rw [h47] at e; cases e
      exact .inr (.inl ⟨t47, rfl, #[], _, rfl, by rw [e7, Array.empty_append]⟩)
    · by_cases q' : b = 54
      · subst q'
        rw [h54] at e; cases e
        exact .inr (.inl ⟨t54, rfl, #[], _, rfl, by rw [e4, Array.empty_append]⟩)
      · exact .inl (k b o q q' e)
  · by_cases q : b = 47
    · exact ⟨_, q ▸ e7⟩
    · by_cases q' : b = 54
      · exact ⟨_, q' ▸ e4⟩
      · exact ⟨o, k b o q q' e⟩
theorem law_end (w : World) (s : Shared) (E : Value → Shared → Prop) (as : Addr) (sv : List Value) (ns : List Int) (cl : Str → Option Addr) (mean : ExcName → Option Value) (args : List WData)
    (KX : (hz.heap_157 w.params).In s.heap) (hg : s.gens = #[]) (hs : s.heap.IsList as sv.toArray) (hsi : IntsAre sv ns) (hn : ns.length ≤ 1000) :
    wpAny (model PW w) callerA (call (.ref 140) [.ref as]) (fun v s' => GoodWG PySem.Challenge.rw_re0058_01.row.claim cl mean args s (.ok (.ret v)) s') E s := by
  have T := topH_of KX
  have h47 : s.heap.get? 47 = some (tabObj #[]) := KX 47 _ (by kernel_rfl)
  have h54 : s.heap.get? 54 = some (tabObj #[]) := KX 54 _ (by kernel_rfl)
  refine law_walk w callerA s _ E as sv ns ⟨rfl, by decide, by decide⟩ T h47 h54 hs hsi hn fun s' g _ o k F7 F4 => ?_
  exact ⟨.inl ⟨.bool true, .bool true, [], rfl, fun _ => rfl, .bool true, by kc_post, fun _ => ⟨List.nodup_nil, fun a h => nomatch h⟩⟩, law_old T h47 h54 k F7 F4, o, AllBare.of_eq (g.trans hg)⟩
end Mine
end
open PySem.W.X PySem.W.ZRun
set_option maxRecDepth 100000 in
set_option maxHeartbeats 8000000 in
theorem PySem.Challenge.cw_re0058_01_holds : PySem.Challenge.rw_re0058_01.Holds := by
  refine Mine.hz ?_
  k_fill
  intro w s₀ s₁ mg mb G y fa o pm cd doc dV kV ho hd hcd hD hmg hg args vals as L hpre hlay hrd hwl hlo
  z_open y L KX ZH ZN ZT
  refine Ground.open G ?_
  intro T B D TE TW
  wrow_args hpre hlay hrd hwl hlo
  obtain ⟨hat, hsz⟩ := script_at L
  have htk := script_toks L ZT
  rw [ZN] at hat hsz
  subst hat
  x_fa T KX hmg
  all_lens
  exact Mine.law_end w s₁ _ 141 _ _ _ _ _ KX hg (by assumption) (by assumption) (by omega)
