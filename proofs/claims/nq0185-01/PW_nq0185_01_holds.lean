import PyProof.Rows.All
import Wide.All
import OpenK.AllK
import Wide.FinOn
import KE.KStar
import KE.KBoundM
import KE.KFromBytes
import KE.KDictOf
import KE.KDictList
import KE.KItemsList
import KE.KEqDict
import PySem.Challenge.RW_nq0185_01
open PySem PySem.W PyProof.Rows
set_option Elab.async false
set_option linter.unusedVariables false
set_option linter.unusedSimpArgs false
namespace Mine
noncomputable def vw : Program := { PySem.Challenge.pw_nq0185_01 with main := { PySem.Challenge.pw_nq0185_01.main with body := [0, 3, 4, 6, 7, 8, 9, 10, 12, 14, 15, 16, 17, 18, 19, 20].filterMap fun i => PySem.Challenge.pw_nq0185_01.main.body[i]? } }
theorem said : OpenLaw.wellSaid PySem.Challenge.rw_nq0185_01 = true := (congrFun PySem.W.Fast.te9446332074065402090 _).trans (by kernel_rfl)
local macro_rules | `(tactic| o_law) => `(tactic| refine holds_law said fun said => ?_)
local macro_rules | `(tactic| o_head $H) => `(tactic| (
  refine holds_open (q := vw) (loose := [Str.ofString "_deduplicate", Str.ofString "_NodeInfo"]) (Xt := fun s => xlAt vw [] s && recOk (RowW.records PySem.Challenge.rw_nq0185_01.row.toRowW) s) (XP := XL vw []) (Yf := Hook.obs $H) (Ya := Hook.val $H) (YP := Hook.says $H) (N := 2916) ?hl (Hook.of $H) (Hook.keeps $H) (fun s e => xl_of s (Bool.and_eq_true_iff.mp e).1) XL.keeps (by rfl) (by rfl) (by rfl) (fun s e => recFacts_of (Bool.and_eq_true_iff.mp e).2) (by rfl) (by first | assumption | decide +kernel) (by decide +kernel) ⟨rfl, rfl, rfl, rfl, rfl, by decide +kernel⟩ ?hw ?hc
  (case hl => (intro w; unfold openEnds fencedOpening topFrom; rw [PySem.W.Fast.te14082659384304107361, PySem.W.Fast.te10274390034422433532, PySem.W.Fast.te4187177175401517315, PySem.W.Fast.te14364793385576792824]; kernel_rfl))))
set_option maxRecDepth 100000 in
set_option maxHeartbeats 8000000 in
open_top hd for PySem.Challenge.rw_nq0185_01

inductive V where
  | none | ell | nimp
  | bool (b : Bool)
  | int (i : Int)
  | flt (x : UInt64)
  | str (s : Str)
  | byt (b : Array UInt8)
  | type (n : String)
  | bi (id : String)
  | ref (a : Addr)
deriving DecidableEq

noncomputable def er : Value → V
  | .none => .none | .ellipsis => .ell | .notImplemented => .nimp
  | .bool b => .bool b
  | .int i _ => .int i
  | .float x _ => .flt x
  | .str s _ => .str s
  | .bytes b _ => .byt b
  | .type n => .type n
  | .builtin i => .bi i
  | .ref a => .ref a

theorem er_ref {v : Value} {a : Addr} (h : er v = .ref a) : v = .ref a := by cases v <;> simp_all [er]
theorem er_none {v : Value} (h : er v = .none) : v = .none := by cases v <;> simp_all [er]
theorem er_bool {v : Value} {b : Bool} (h : er v = .bool b) : v = .bool b := by cases v <;> simp_all [er]
theorem er_type {v : Value} {n : String} (h : er v = .type n) : v = .type n := by cases v <;> simp_all [er]
theorem er_bi {v : Value} {n : String} (h : er v = .bi n) : v = .builtin n := by cases v <;> simp_all [er]
theorem er_int {v : Value} {i : Int} (h : er v = .int i) : ∃ t, v = .int i t := by cases v <;> simp_all [er]
theorem er_str {v : Value} {x : Str} (h : er v = .str x) : ∃ t, v = .str x t := by cases v <;> simp_all [er]

noncomputable abbrev C := Obj → Prop
noncomputable def Has (h : Heap) (a : Addr) (c : C) : Prop := ∃ o, h.get? a = some o ∧ c o

theorem Has.ext {h h' : Heap} {a : Addr} {c : C} (x : Has h a c) (k : ∀ o, h.get? a = some o → h'.get? a = some o) : Has h' a c :=
  let ⟨o, ho, hc⟩ := x; ⟨o, k o ho, hc⟩

noncomputable def Ob (o : Obj) : C := fun o' => o' = o
noncomputable def Lst (xs : List V) : C := fun o => ∃ vs n, o = { cls := .type "list", data := .seq vs n } ∧ vs.toList.map er = xs
noncomputable def Tup (xs : List V) : C := fun o => ∃ vs n, o = { cls := .type "tuple", data := .seq vs n } ∧ vs.toList.map er = xs
noncomputable def Nsp (m : List (Str × V)) : C := fun o => o.isFreed = false ∧ ∃ es ep, o.data = .dict es ep ∧ StrKeys es ∧ ∀ p ∈ m, (nsFind es p.1).map er = some p.2
noncomputable def Dct (kvs : List (Str × V)) : C := fun o => ∃ es ep, o = { cls := .type "dict", data := .dict es ep } ∧ es.toList.map (fun e => (er e.key, er e.val)) = kvs.map fun p => (V.str p.1, p.2)
noncomputable def Cel (v : V) : C := fun o => ∃ x, o.data = .cell (some x) ∧ er x = v
noncomputable def Itr (l : Addr) (i : Nat) : C := fun o => o.cls = .type "list_iterator" ∧ o.data = .fields #[.ref l, .int i 0]

structure In (B : Shared) (l : List (Addr × C)) (s : Shared) : Prop where
  keep : ∀ b o, B.heap.get? b = some o → s.heap.get? b = some o
  cell : ∀ p ∈ l, Has s.heap p.1 p.2
  new : ∀ p ∈ l, B.heap.get? p.1 = none
  nd : (l.map (·.1)).Nodup
  gens : s.gens = B.gens
  drawn : s.drawn = B.drawn
  os : s.os = B.os

inductive Up (a : Addr) (c c' : C) : List (Addr × C) → List (Addr × C) → Prop where
  | head {b l} (e : a = b) : Up a c c' ((b, c) :: l) ((b, c') :: l)
  | tail {p l l'} : Up a c c' l l' → Up a c c' (p :: l) (p :: l')

theorem Up.keys {a c c' l l'} (u : Up a c c' l l') : l'.map (·.1) = l.map (·.1) := by
  induction u with
  | head => rfl
  | tail _ ih => simp [ih]
theorem Up.mem {a c c' l l'} (u : Up a c c' l l') : (a, c) ∈ l := by
  induction u with
  | head e => subst e; exact .head _
  | tail _ ih => exact .tail _ ih
theorem Up.mem' {a c c' l l'} (u : Up a c c' l l') : ∀ p ∈ l', p ∈ l ∨ p = (a, c') := by
  induction u with
  | head e =>
    subst e
    intro p hp
    cases hp with
    | head => exact .inr rfl
    | tail _ h => exact .inl (.tail _ h)
  | tail _ ih =>
    intro p hp
    cases hp with
    | head => exact .inl (.head _)
    | tail _ h => exact (ih p h).imp (.tail _) id
theorem Up.app1 {a c c' l l' r} (u : Up a c c' l l') : Up a c c' (l ++ r) (l' ++ r) := by
  induction u with
  | head e => exact .head e
  | tail _ ih => exact .tail ih
theorem Up.app2 {a c c' l l'} (r) (u : Up a c c' l l') : Up a c c' (r ++ l) (r ++ l') := by
  induction r with
  | nil => exact u
  | cons p r ih => exact .tail ih

theorem In.one {B l s} (D : In B l s) {p q : Addr × C} (hp : p ∈ l) (hq : q ∈ l) (h : p.1 = q.1) : p = q := by
  have nd := D.nd
  clear D
  induction l with
  | nil => cases hp
  | cons x r ih =>
    rw [List.map_cons, List.nodup_cons] at nd
    cases hp with
    | head => cases hq with
      | head => rfl
      | tail _ hq => exact absurd (h ▸ List.mem_map_of_mem hq) nd.1
    | tail _ hp => cases hq with
      | head => exact absurd (h ▸ List.mem_map_of_mem hp) nd.1
      | tail _ hq => exact ih hp hq nd.2

theorem In.has {B l s a c} (D : In B l s) (m : (a, c) ∈ l) : Has s.heap a c := D.cell _ m

theorem In.upd {B l l' s a c c'} (D : In B l s) (u : Up a c c' l l') {h' : Heap} {tk : Nat} (hs : Heap.SameBut a s.heap h') (hc : Has h' a c') : In B l' { s with heap := h', toks := tk } where
  keep := fun b o e => by
    have : b ≠ a := by rintro rfl; rw [D.new _ u.mem] at e; cases e
    exact (hs.2 b this).trans (D.keep b o e)
  cell := fun p hp => by
    by_cases e : p.1 = a
    · have : p = (a, c') := by
        have nd : (l'.map (·.1)).Nodup := u.keys ▸ D.nd
        have hm : (a, c') ∈ l' := by
          clear nd hp e hc hs D
          induction u with
          | head e => subst e; exact .head _
          | tail _ ih => exact .tail _ ih
        clear hc hs
        induction l' generalizing l with
        | nil => cases hp
        | cons x r ih =>
          rw [List.map_cons, List.nodup_cons] at nd
          cases hp with
          | head => cases hm with
            | head => rfl
            | tail _ hq => exact absurd (e ▸ List.mem_map_of_mem (f := (·.1)) hq) nd.1
          | tail _ hp => cases hm with
            | head => exact absurd (List.mem_map.mpr ⟨p, hp, e⟩) nd.1
            | tail _ hq =>
              have : ∀ (r : List (Addr × C)), p ∈ r → (a, c') ∈ r → (r.map (·.1)).Nodup → p = (a, c') := by
                intro r
                induction r with
                | nil => intro h; cases h
                | cons x r ih =>
                  intro h1 h2 nd
                  rw [List.map_cons, List.nodup_cons] at nd
                  cases h1 with
                  | head => cases h2 with
                    | head => rfl
                    | tail _ hq => exact absurd (e ▸ List.mem_map_of_mem (f := (·.1)) hq) nd.1
                  | tail _ hp => cases h2 with
                    | head => exact absurd (List.mem_map.mpr ⟨p, hp, e⟩) nd.1
                    | tail _ hq => exact ih hp hq nd.2
              exact this r hp hq nd.2
      subst this
      exact hc
    · rcases u.mem' p hp with h | h
      · exact (D.cell p h).ext fun o ho => (hs.2 p.1 e).trans ho
      · exact absurd (by rw [h]) e
  new := fun p hp => by
    rcases u.mem' p hp with h | h
    · exact D.new p h
    · rw [h]; exact D.new (a, c) u.mem
  nd := u.keys ▸ D.nd
  gens := D.gens
  drawn := D.drawn
  os := D.os


theorem In.ext {B l s} (D : In B l s) {h' : Heap} {tk : Nat} (he : ∀ b o, s.heap.get? b = some o → h'.get? b = some o) : In B l { s with heap := h', toks := tk } where
  keep := fun b o e => he b o (D.keep b o e)
  cell := fun p hp => (D.cell p hp).ext fun o ho => he _ _ ho
  new := D.new
  nd := D.nd
  gens := D.gens
  drawn := D.drawn
  os := D.os
theorem In.tk {B l s} (D : In B l s) {tk : Nat} : In B l { s with toks := tk } := ⟨D.keep, D.cell, D.new, D.nd, D.gens, D.drawn, D.os⟩
theorem In.push {B l s} (D : In B l s) {o : Obj} {c : C} {tk : Nat} (hf : o.isFreed = false) (hc : c o) : In B ((s.heap.objs.size, c) :: l) { s with heap := s.heap.push o, toks := tk } where
  keep := fun b o e => Heap.get?_push_of_some _ (D.keep b o e)
  cell := fun p hp => by
    rcases List.mem_cons.mp hp with rfl | hp
    · exact ⟨o, Heap.get?_push_size _ hf, hc⟩
    · exact (D.cell p hp).ext fun o ho => Heap.get?_push_of_some _ ho
  new := fun p hp => by
    rcases List.mem_cons.mp hp with rfl | hp
    · cases h : B.heap.get? s.heap.objs.size with
      | none => rfl
      | some o => exact absurd (Heap.lt_size (D.keep _ _ h)) (Nat.lt_irrefl _)
    · exact D.new p hp
  nd := by
    rw [List.map_cons, List.nodup_cons]
    refine ⟨fun hm => ?_, D.nd⟩
    obtain ⟨p, hp, e⟩ := List.mem_map.mp hm
    obtain ⟨o, ho, _⟩ := D.cell p hp
    exact absurd (Heap.lt_size (e ▸ ho)) (Nat.lt_irrefl _)
  gens := D.gens
  drawn := D.drawn
  os := D.os
theorem In.sub {B l l' s} (D : In B l s) (h : ∀ p ∈ l', p ∈ l) (nd : (l'.map (·.1)).Nodup) : In B l' s := ⟨D.keep, fun p hp => D.cell p (h p hp), fun p hp => D.new p (h p hp), nd, D.gens, D.drawn, D.os⟩
theorem In.sublist {B l l' s} (D : In B l s) (h : l'.Sublist l) : In B l' s := D.sub (fun _ hp => h.subset hp) (D.nd.sublist (h.map _))
theorem In.perm {B l l' s} (D : In B l s) (h : l'.Perm l) : In B l' s := D.sub (fun _ hp => h.mem_iff.mp hp) ((h.map (·.1)).nodup_iff.mpr D.nd)
theorem In.drop {B p l s} (D : In B (p :: l) s) : In B l s := D.sublist (List.sublist_cons_self p l)
theorem In.weak {B l l' s a c c'} (D : In B l s) (u : Up a c c' l l') (h : ∀ o, c o → c' o) : In B l' s := by
  obtain ⟨o, ho, hc⟩ := D.has u.mem
  exact D.upd (tk := s.toks) u (Heap.SameBut.refl a s.heap) ⟨o, ho, h o hc⟩
theorem In.ne {B l s} {a b : Addr} {c c' : C} (D : In B ((a, c) :: l) s) (hb : (b, c') ∈ l) : a ≠ b := by
  rintro rfl
  have nd := D.nd
  rw [List.map_cons, List.nodup_cons] at nd
  exact nd.1 (List.mem_map_of_mem (f := (·.1)) hb)
noncomputable abbrev KF (w : World) : Frag := Mine.hd.heap_1 w.params
noncomputable def Rd (B : Shared) (l : List (Addr × C)) (a : Addr) (c : C) : Prop := (a, c) ∈ l ∨ Has B.heap a c
theorem In.rd {B l s a c} (D : In B l s) (r : Rd B l a c) : Has s.heap a c := r.elim D.has fun h => h.ext fun o ho => D.keep _ _ ho

structure Gd (w : World) (mg mb : Str → Option Value) (B : Shared) : Prop where
  kx : (KF w).In B.heap
  g : B.heap.Ns mainGlobals mg
  b : B.heap.Ns builtinsNs mb
  lim : B.heap.NoLimit
  bi : ∀ x : Str, x ≠ "__name__" → mb x = bootBuiltins x
theorem Gd.keeps {w mg mb B B'} (G : Gd w mg mb B) (k : ∀ b o, B.heap.get? b = some o → B'.heap.get? b = some o) : Gd w mg mb B' :=
  ⟨G.kx.keeps k, G.g.keeps k, G.b.keeps k, G.lim.keeps k, G.bi⟩
theorem mg_none {K : Frag} {h : Heap} {mg : Str → Option Value} {n : Str} (X : K.In h) (G : h.Ns mainGlobals mg) (e : nsIn K mainGlobals n = some none) : mg n = none := by
  obtain ⟨o, es, ep, ho, hd, _, hf⟩ := G
  unfold nsIn at e
  split at e
  · rename_i c d es' n' sl q
    have := X _ _ q
    rw [ho] at this
    cases this
    cases hd
    rw [← hf n]
    split at e
    · cases e
    · rename_i hn
      unfold nsFind findBy
      rw [← Array.find?_toList, hn]; rfl
  · cases e

noncomputable def put (x : Str) (v : V) (m : List (Str × V)) : List (Str × V) := (x, v) :: m.filter fun p => p.1 != x
theorem mem_put_self {x v m} : (x, v) ∈ put x v m := .head _
theorem mem_put_of {x y : Str} {v u m} (h : y ≠ x) (hm : (y, u) ∈ m) : (y, u) ∈ put x v m := .tail _ (List.mem_filter.mpr ⟨hm, by simpa using h⟩)

section
variable {prog : Program} {w : World} {M : Model} {A : Around} {E : Value → Shared → Prop} {s B : Shared} {l l' : List (Addr × C)} {env : Env} {mg mb : Str → Option Value}

theorem has_ns {h : Heap} {a : Addr} {m : List (Str × V)} (x : Has h a (Nsp m)) : ∃ mv, h.Ns a mv ∧ ∀ p ∈ m, (mv p.1).map er = some p.2 := by
  obtain ⟨o, ho, hf, es, ep, hd, hk, hm⟩ := x
  exact ⟨_, ⟨o, es, ep, ho, hd, hk, fun _ => rfl⟩, hm⟩
theorem ns_has {h : Heap} {a : Addr} {mv : Str → Option Value} {m : List (Str × V)} (x : h.Ns a mv) (hm : ∀ p ∈ m, (mv p.1).map er = some p.2) : Has h a (Nsp m) := by
  obtain ⟨o, es, ep, ho, hd, hk, hf⟩ := x
  exact ⟨o, ho, (Heap.get?_some_iff.mp ho).2, es, ep, hd, hk, fun p hp => by rw [hf]; exact hm p hp⟩

theorem r_load {x : Str} {m : List (Str × V)} {v : V} {Q : Value → Shared → Prop} (D : In B l s) (hL : (env.locals, Nsp m) ∈ l) (hv : (x, v) ∈ m) (k : ∀ u, er u = v → Q u s)
    (hk : env.scope.kind = .function := by rfl) (hl : env.kindOf x = some .local := by rfl) : wpAny M A (loadName env x) Q E s := by
  obtain ⟨mv, hn, hm⟩ := has_ns (D.has hL)
  have := hm _ hv
  cases h : mv x with
  | none => rw [h] at this; cases this
  | some u => rw [h] at this; exact wpAny_loadName_local hk hl hn h (k u (Option.some.inj this))

theorem r_loadR {x : Str} {m : List (Str × V)} {a : Addr} {Q : Value → Shared → Prop} (D : In B l s) (hL : (env.locals, Nsp m) ∈ l) (hv : (x, V.ref a) ∈ m) (k : Q (.ref a) s)
    (hk : env.scope.kind = .function := by rfl) (hl : env.kindOf x = some .local := by rfl) : wpAny M A (loadName env x) Q E s := r_load D hL hv (fun u h => by rw [er_ref h]; exact k) hk hl
theorem r_loadS {x : Str} {m : List (Str × V)} {y : Str} {Q : Value → Shared → Prop} (D : In B l s) (hL : (env.locals, Nsp m) ∈ l) (hv : (x, V.str y) ∈ m) (k : ∀ t, Q (.str y t) s)
    (hk : env.scope.kind = .function := by rfl) (hl : env.kindOf x = some .local := by rfl) : wpAny M A (loadName env x) Q E s := r_load D hL hv (fun u h => by obtain ⟨t, e⟩ := er_str h; rw [e]; exact k t) hk hl
theorem r_loadI {x : Str} {m : List (Str × V)} {y : Int} {Q : Value → Shared → Prop} (D : In B l s) (hL : (env.locals, Nsp m) ∈ l) (hv : (x, V.int y) ∈ m) (k : ∀ t, Q (.int y t) s)
    (hk : env.scope.kind = .function := by rfl) (hl : env.kindOf x = some .local := by rfl) : wpAny M A (loadName env x) Q E s := r_load D hL hv (fun u h => by obtain ⟨t, e⟩ := er_int h; rw [e]; exact k t) hk hl

theorem r_store {x : Str} {m : List (Str × V)} {v : Value} {Q : Unit → Shared → Prop} (D : In B l s) (u : Up env.locals (Nsp m) (Nsp (put x (er v) m)) l l') (k : ∀ s', In B l' s' → Q () s')
    (hl : env.kindOf x = some .local := by rfl) (hp : (env.scope.kind == .class || (env.scope.kind == .module && env.locals != env.globals)) = false := by rfl) : wpAny M A (storeName env x v) Q E s := by
  obtain ⟨mv, hn, hm⟩ := has_ns (D.has u.mem)
  refine wpAny_storeName_local hl hn (fun h' hn' hs' => k _ (D.upd u hs' (ns_has hn' fun p hp => ?_))) hp
  rcases List.mem_cons.mp hp with rfl | hp
  · simp
  · obtain ⟨h1, h2⟩ := List.mem_filter.mp hp
    have : p.1 ≠ x := by simpa using h2
    simp only [if_neg this]
    exact hm p h1

theorem r_glob {x : Str} {v : Value} {Q : Value → Shared → Prop} (G : Gd w mg mb B) (D : In B l s) (hx : nsIn (KF w) mainGlobals x = some (some v)) (k : Q v s)
    (hk : env.scope.kind = .function := by rfl) (hl : env.kindOf x = some .globalImplicit := by rfl) (hg : env.globals = mainGlobals := by rfl) : wpAny M A (loadName env x) Q E s := by
  rw [loadName_read hk hl]
  unfold loadGlobal
  rw [hg]
  refine wpAny_bind (wpAny_nsGet (G.g.keeps D.keep) ?_)
  rw [mg_of G.kx G.g hx]
  exact wpAny_pure k
theorem r_bi {x : Str} {v : Value} {Q : Value → Shared → Prop} (G : Gd w mg mb B) (D : In B l s) (hx : nsIn (KF w) mainGlobals x = some none) (hb : bootBuiltins x = some v) (k : Q v s)
    (hn : x ≠ "__name__" := by decide)
    (hk : env.scope.kind = .function := by rfl) (hl : env.kindOf x = some .globalImplicit := by rfl) (hg : env.globals = mainGlobals := by rfl) (hbn : env.builtins = builtinsNs := by rfl) : wpAny M A (loadName env x) Q E s := by
  rw [loadName_read hk hl]
  unfold loadGlobal
  rw [hg, hbn]
  refine wpAny_bind (wpAny_nsGet (G.g.keeps D.keep) ?_)
  rw [mg_none G.kx G.g hx]
  refine wpAny_bind (wpAny_nsGet (G.b.keeps D.keep) ?_)
  rw [G.bi x hn, hb]
  exact wpAny_pure k

theorem lookup_rev {binds : List (Str × Value)} (nd : (binds.map (·.1)).Nodup) : ∀ p ∈ binds, binds.reverse.lookup p.1 = some p.2 := by
  induction binds with
  | nil => intro p hp; cases hp
  | cons q r ih =>
    rw [List.map_cons, List.nodup_cons] at nd
    intro p hp
    rw [List.reverse_cons, List.lookup_append]
    rcases List.mem_cons.mp hp with rfl | hp
    · have : r.reverse.lookup p.1 = none := by
        rw [List.lookup_eq_none_iff]
        intro q hq
        have hne : q.1 ≠ p.1 := fun e => nd.1 (List.mem_map.mpr ⟨q, List.mem_reverse.mp hq, e⟩)
        simpa using Ne.symm hne
      rw [this]; obtain ⟨a, b⟩ := p; simp [List.lookup]
    · rw [ih nd.2 p hp]; rfl

theorem zip_fst_sublist {α β : Type} : ∀ (a : List α) (b : List β), ((a.zip b).map (·.1)).Sublist a
  | [], _ => by simp
  | x :: a, [] => by simp
  | x :: a, y :: b => by simpa using zip_fst_sublist a b
theorem r_enter {R : Result → Shared → Prop} {name qual : Str} {params : Arguments} {body : List Stmt} {scope : Scope} {dV kV doc pm cdv ct oc : Value} {an od : Option Addr} {osl : Array (Option Value)} {f : Addr} {args : Args}
    (names : List Str) (vals : List Value) (m : List (Str × V))
    (G : Gd w mg mb B) (D : In B l s)
    (ho : (KF w).lookup f = some ⟨oc, od, .func (fnOf name qual params body scope dV kV doc pm an cdv ct), osl⟩) (hcd : codeIn (KF w) cdv qual = true) (hroom : A.depth < recursionLimit)
    (hbind : BindsTo s (fnOf name qual params body scope dV kV doc pm an cdv ct) args (names.zip vals)) (hloc : (names.all fun x => decide (scope.names.lookup x = some .local)) = true) (hnd : names.Nodup)
    (hm : ((names.zip vals).map fun p => (p.1, er p.2)) = m)
    (h : ∀ L A' s', A'.depth = A.depth + 1 → A'.units = A.units + 3 → A'.handled = A.handled → A'.frames = A.frames.map (envOf qual scope L f cdv :: ·) →
      In B ((L, Nsp m) :: l) s' →
      wpAny (model prog w) A' (execs body (envOf qual scope L f cdv)) (fun fl s' => R (.ok (.ret (match fl with | .ret v => v | _ => .none))) s')
        (fun e s' => wpAny (model prog w) A' (leaving (envOf qual scope L f cdv) e) (fun _ s'' => R (.error e) s'') (fun e' s'' => R (.error e') s'') s') s')
    (hco : scope.isCoroutine = false := by rfl) (hgen : scope.isGenerator = false := by rfl) (hk : scope.kind = .function := by rfl)
    (hcell : ∀ x ∈ scope.names, x.2 ≠ .cell := by decide) : codeAny (model prog w) A (.call (.ref f) args) R s := by
  have kx := G.kx.keeps D.keep
  have hnd' : ((names.zip vals).map (·.1)).Nodup := by
    exact hnd.sublist (zip_fst_sublist names vals)
  have hloc' : ∀ x ∈ names.zip vals, scope.names.lookup x.1 = some .local := fun x hx => of_decide_eq_true (List.all_eq_true.mp hloc x.1 (List.of_mem_zip hx).1)
  refine codeAny_call_def (fd := fnOf name qual params body scope dV kV doc pm an cdv ct) (body := body) (binds := names.zip vals) hroom (kx _ _ ho) rfl (G.lim.keeps D.keep) (codeRec_of kx hcd) rfl hbind hcell hloc' (fun h₁ hns hk₁ => ?_) hco hgen hk
  refine h s.heap.objs.size _ _ rfl rfl rfl rfl ?_
  have D1 : In B l { s with heap := h₁, toks := s.toks + (names.zip vals).length } := D.ext hk₁
  refine ⟨D1.keep, fun p hp => ?_, fun p hp => ?_, ?_, D1.gens, D1.drawn, D1.os⟩
  · rcases List.mem_cons.mp hp with rfl | hp
    · refine ns_has hns fun p hp => ?_
      subst hm
      obtain ⟨q, hq, rfl⟩ := List.mem_map.mp hp
      show ((names.zip vals).reverse.lookup q.1).map er = _
      rw [lookup_rev hnd' q hq]; rfl
    · exact D1.cell p hp
  · rcases List.mem_cons.mp hp with rfl | hp
    · cases e : B.heap.get? s.heap.objs.size with
      | none => rfl
      | some o => exact absurd (Heap.lt_size (D.keep _ _ e)) (Nat.lt_irrefl _)
    · exact D.new p hp
  · rw [List.map_cons, List.nodup_cons]
    refine ⟨fun hm => ?_, D.nd⟩
    obtain ⟨p, hp, e⟩ := List.mem_map.mp hm
    obtain ⟨o, ho, _⟩ := D.cell p hp
    exact absurd (Heap.lt_size (e ▸ ho)) (Nat.lt_irrefl _)

theorem r_iter {a : Addr} {xs : List V} {Q : Value → Shared → Prop} (D : In B l s) (r : Rd B l a (Lst xs)) (k : ∀ it s', In B ((it, Itr a 0) :: l) s' → Q (.ref it) s') : wpAny (model prog w) A (pyIter (.ref a)) Q E s := by
  obtain ⟨o, ho, vs, n, rfl, hx⟩ := D.rd r
  exact wpAny_pyIter_list ⟨_, ho, rfl, n, rfl⟩ (k _ _ (D.push rfl ⟨rfl, rfl⟩))

theorem itr_is {h : Heap} {it a : Addr} {i : Nat} (x : Has h it (Itr a i)) : h.IsListIter it a i := by
  obtain ⟨o, ho, h1, h2⟩ := x
  exact ⟨_, ho, h1, h2⟩
theorem is_itr {h : Heap} {it a : Addr} {i : Nat} (x : h.IsListIter it a i) : Has h it (Itr a i) := by
  obtain ⟨o, ho, h1, h2⟩ := x
  exact ⟨_, ho, h1, h2⟩
end
noncomputable def NoE : Value → Shared → Prop := fun _ _ => False
section
variable {prog : Program} {w : World} {M : Model} {A : Around} {E : Value → Shared → Prop} {s B : Shared} {l l' : List (Addr × C)} {env : Env} {mg mb : Str → Option Value}

theorem noE {α : Type} {t : Sem α} {Q : α → Shared → Prop} (h : wpAny M A t Q NoE s) : wpAny M A t Q E s := wpAny_mono h (fun _ _ x => x) fun _ _ x => x.elim

noncomputable def After (Go : Shared → Prop) (Q : Flow → Shared → Prop) : Flow → Shared → Prop
  | .next, s => Go s
  | .cont, s => Go s
  | .brk, s => Q .next s
  | .ret v, s => Q (.ret v) s

theorem r_forList {target : Expr} {body : List Stmt} {a it : Addr} {xs : List V} {Q : Flow → Shared → Prop} (J : Nat → List (Addr × C) → Prop) {l₀ : List (Addr × C)} (hA : A.handled = none)
    (hl : ∀ i l, J i l → Rd B l a (Lst xs)) (h0 : J 0 l₀) (D : In B ((it, Itr a 0) :: l₀) s)
    (turn : ∀ i x l s v, xs[i]? = some x → J i l → er v = x → In B ((it, Itr a (i + 1)) :: l) s →
      wpAny (model prog w) A (assign target env v) (fun _ s₂ => wpAny (model prog w) A (execs body env) (After (fun s₃ => ∃ l', J (i + 1) l' ∧ In B ((it, Itr a (i + 1)) :: l') s₃) Q) NoE s₂) NoE s)
    (done : ∀ l s, J xs.length l → In B l s → Q .next s) (ht : ∀ v, letOwnedTupleGo target (.ref it) v = pure () := by intro _; rfl) :
    codeAny (model prog w) A (.forLoop target (.ref it) body [] env) (fun r s' => match r with | .ok f => Q f s' | .error e => cameBackBy (model prog w) A env E e s') s := by
  refine codeAny_forLoop (fun n s => ∃ i l, i + n = xs.length ∧ J i l ∧ In B ((it, Itr a i) :: l) s) (fun n s hI => ?_) xs.length ⟨0, l₀, by omega, h0, D⟩ ht
  obtain ⟨i, l, hn, hJ, D⟩ := hI
  have hit := itr_is (D.has (.head _))
  obtain ⟨o, ho, vs, k, rfl, hx⟩ := D.drop.rd (hl i l hJ)
  have hls : s.heap.IsList a vs := ⟨_, ho, rfl, k, rfl⟩
  have hlen : vs.size = xs.length := by rw [← hx]; simp
  cases n with
  | zero =>
    refine wpAny_pyNext_list_end (items := vs) hA hit hls (by rw [Array.getElem?_eq_none_iff]; omega) fun h' he => ?_
    refine wpAny_execs_nil (done l _ (by have : i = xs.length := by omega
                                         rw [← this]; exact hJ) ?_)
    have D' := D.drop
    refine ⟨fun b o e => he b o ?_ (D'.keep b o e), fun p hp => ?_, D'.new, D'.nd, D'.gens, D'.drawn, D'.os⟩
    · rintro rfl; have := D.new _ (.head _); rw [this] at e; cases e
    · refine (D'.cell p hp).ext fun o ho => he _ _ ?_ ho
      exact fun e => D.ne hp e.symm
  | succ n =>
    have hi : i < vs.size := by omega
    refine wpAny_pyNext_list_item (items := vs) (x := vs[i]) hit hls (by simp [hi]) fun h' hit' hs' => ?_
    have D' : In B ((it, Itr a (i + 1)) :: l) { s with heap := h', toks := s.toks } := D.upd (.head rfl) hs' (is_itr hit')
    have hxi : xs[i]? = some (er vs[i]) := by rw [← hx]; simp [hi]
    refine noE (wpAny_mono (turn i _ l _ _ hxi hJ rfl D') (fun _ s₂ h₂ => wpAny_mono h₂ (fun f s₃ h₃ => ?_) fun _ _ x => x.elim) fun _ _ x => x)
    cases f with
    | next => obtain ⟨l', h1, h2⟩ := h₃; exact ⟨n, by omega, i + 1, l', by omega, h1, h2⟩
    | cont => obtain ⟨l', h1, h2⟩ := h₃; exact ⟨n, by omega, i + 1, l', by omega, h1, h2⟩
    | brk => exact h₃
    | ret v => exact h₃
end
section
variable {prog : Program} {w : World} {M : Model} {A : Around} {E : Value → Shared → Prop} {s B : Shared} {l l' : List (Addr × C)} {env : Env} {mg mb : Str → Option Value}

theorem arm_callAttr (o : Expr) (name : Str) (apos pos : Pos) (args : List Expr) : eval (.Call (.Attribute o name apos) args [] pos) env = (do
    let ov ← attributeBase o name env (eval o env)
    standAt apos.atName
    methodCall o name apos pos env ov (args.length + 0) (backTo pos (starEach args env)) (backToKw pos (keywordEach [] env))) := rfl

theorem r_callAttr {o : Expr} {name : Str} {apos pos : Pos} {args : List Expr} {Q : Value → Shared → Prop}
    (h : wpAny M A (eval o env) (fun ov s₁ => wpAny M A (getMethod ov name (do return (← importBound o env).getD true)) (fun p s₂ => wpAny M A (callWith pos p.1 p.2 (backTo pos (starEach args env)) []) Q E s₂) E s₁) E s)
    (hbase : attributeBase o name env (eval o env) = eval o env := by rfl)
    (hform : methodCallForm (args.length + 0) (backTo pos (starEach args env)) (backToKw pos (keywordEach [] env)) = true := by rfl)
    (hline : (apos.endLine == pos.line) = true := by rfl) :
    wpAny M A (eval (.Call (.Attribute o name apos) args [] pos) env) Q E s := by
  rw [arm_callAttr, hbase]
  refine wpAny_bind (wpAny_mono h (fun ov s₁ h₁ => wpAny_bind (wpAny_standAt ?_)) fun _ _ x => x)
  unfold methodCall calleeOf
  rw [hform]
  refine wpAny_bind (wpAny_holding (wpAny_mono h₁ (fun p s₂ h₂ => ?_) fun _ _ x => x))
  have hpos : methodCallPos true o env apos pos = pure pos := by unfold methodCallPos; simp [hline]
  exact wpAny_bind (wpAny_of_eq hpos h₂)

theorem lst_type {h : Heap} {a : Addr} {xs : List V} {g d tk os} (x : Has h a (Lst xs)) : Shared.TypeIs ⟨h, g, d, tk, os⟩ (.ref a) "list" := by
  obtain ⟨o, ho, vs, n, rfl, _⟩ := x
  exact ⟨_, ho, rfl⟩
theorem r_methList {a : Addr} {xs : List V} {name : Str} {id : String} {pl : Sem Bool} {Q : Value × List Value → Shared → Prop} (D : In B l s) (r : Rd B l a (Lst xs)) (pa : PlainAttrs "list") (slot : Slot "list" name id)
    (hty : typeOf (.builtin id) = pure (.type "method_descriptor")) (k : Q (.builtin id, [.ref a]) s) : wpAny M A (getMethod (.ref a) name pl) Q E s := by
  obtain ⟨o, ho, vs, n, rfl, _⟩ := D.rd r
  exact getMethod_builtin ⟨_, ho, rfl⟩ pa slot hty (fun b e => by cases e; exact ⟨_, ho, rfl⟩) k

theorem r_append {a : Addr} {xs : List V} {x : Value} {Q : Value → Shared → Prop} (D : In B l s) (u : Up a (Lst xs) (Lst (xs ++ [er x])) l l') (hsz : xs.length ≤ 1000) (k : ∀ s', In B l' s' → Q .none s') :
    wpAny (model prog w) A (call (.builtin "list.append") [.ref a, x]) Q E s := by
  obtain ⟨o, ho, vs, n, rfl, hx⟩ := D.has u.mem
  have hlen : vs.size = xs.length := by rw [← hx]; simp
  refine append_at ho (fun h' hs ho' => k _ (D.upd (tk := s.toks) u hs ⟨_, ho', _, _, rfl, ?_⟩)) (by rw [sizeLine_eq]; omega)
  simp [← hx]

theorem callWith_one {pos : Pos} {id : String} {first : List Value} {e : Expr} {Q : Value → Shared → Prop} (h : wpAny M A (eval e env) (fun v s₁ => wpAny M A (call (.builtin id) (first ++ [v])) Q E s₁) E s)
    (he : backTo pos (starEach [e] env) = [(false, eval e env)] := by rfl) : wpAny M A (callWith pos (.builtin id) first (backTo pos (starEach [e] env)) []) Q E s := by
  rw [he]
  exact Calls.callWith_builtin rfl (Calls.evalArgs_plain (Calls.spliced_cons (wpAny_mono h (fun v s₁ h₁ => Calls.spliced_nil h₁) fun _ _ x => x)))
end
local macro_rules | `(tactic| tm_at "mem") => `(tactic| first | exact List.Mem.head _ | exact mem_put_self | (apply mem_put_of (by decide); tm_at "mem") | (apply List.Mem.tail; tm_at "mem") | (apply List.mem_append_right; tm_at "mem") | assumption)
local macro_rules | `(tactic| tm_at "up") => `(tactic| first | exact Up.head rfl | (apply Up.tail; tm_at "up") | (apply Up.app2; tm_at "up"))
local macro_rules | `(tactic| tm_at "rd") => `(tactic| first | assumption | exact Or.inl (by tm_at "mem") | exact Or.inr (by assumption))
local macro_rules | `(tactic| tm_at "sub") => `(tactic| first | exact List.forall_mem_nil _ | (refine List.forall_mem_cons.mpr ⟨by tm_at "mem", ?_⟩; tm_at "sub"))
local macro_rules | `(tactic| tm_at "inv") => `(tactic| (intro u hu; first | (have h := er_ref hu; subst h; clear hu) | (have h := er_str hu; cases h; rename_i h; subst h; clear hu) | (have h := er_int hu; cases h; rename_i h; subst h; clear hu) | (have h := er_none hu; subst h; clear hu) | (have h := er_bool hu; subst h; clear hu) | (have h := er_type hu; subst h; clear hu) | skip))
local macro_rules | `(tactic| tm_at "ld") => `(tactic| first | refine r_loadR (by assumption) (by tm_at "mem") (by tm_at "mem") ?_ | (refine r_loadS (by assumption) (by tm_at "mem") (by tm_at "mem") ?_; intro) | (refine r_loadI (by assumption) (by tm_at "mem") (by tm_at "mem") ?_; intro) | (refine r_load (by assumption) (by tm_at "mem") (by tm_at "mem") ?_; tm_at "inv"))
local macro_rules | `(tactic| tm_at "nm") => `(tactic| (refine wpAny_Name ?_; tm_at "ld"))
local macro_rules | `(tactic| tm_at "sl") => `(tactic| first | exact List.Sublist.refl _ | (apply List.Sublist.cons; tm_at "sl") | (apply List.Sublist.cons_cons; tm_at "sl"))
section
variable {prog : Program} {w : World} {M : Model} {A : Around} {E : Value → Shared → Prop} {s B : Shared} {l l' : List (Addr × C)} {env : Env} {mg mb : Str → Option Value}

theorem Nsp.sub {m m' : List (Str × V)} (h : ∀ p ∈ m', p ∈ m) : ∀ o, Nsp m o → Nsp m' o := fun o ⟨hf, es, ep, hd, hk, hm⟩ => ⟨hf, es, ep, hd, hk, fun p hp => hm p (h p hp)⟩

noncomputable def nubK : List (Addr × Str) → List (Addr × Str) → List (Addr × Str)
  | acc, [] => acc
  | acc, p :: r => if acc.any (fun q => q.2 == p.2) then nubK acc r else nubK (acc ++ [p]) r
noncomputable def nubStep (acc : List (Addr × Str)) (p : Addr × Str) : List (Addr × Str) := if acc.any (fun q => q.2 == p.2) then acc else acc ++ [p]
theorem nubK_fold (acc r) : nubK acc r = r.foldl nubStep acc := by
  induction r generalizing acc with
  | nil => rfl
  | cons p r ih => rw [nubK, List.foldl_cons, nubStep]; split <;> simp [*]
theorem nub_take {sg : List (Addr × Str)} {i : Nat} {p : Addr × Str} (h : sg[i]? = some p) : nubK [] (sg.take (i + 1)) = nubStep (nubK [] (sg.take i)) p := by
  rw [nubK_fold, nubK_fold, List.take_add_one, h]; simp
theorem nubK_mem {acc r : List (Addr × Str)} : ∀ p ∈ nubK acc r, p ∈ acc ∨ p ∈ r := by
  induction r generalizing acc with
  | nil => intro p hp; exact .inl hp
  | cons q r ih =>
    intro p hp
    rw [nubK] at hp
    split at hp
    · exact (ih p hp).imp id (.tail _)
    · rcases ih p hp with h | h
      · rcases List.mem_append.mp h with h | h
        · exact .inl h
        · rw [List.mem_singleton.mp h]; exact .inr (.head _)
      · exact .inr (.tail _ h)
theorem nubK_len {acc r : List (Addr × Str)} : (nubK acc r).length ≤ acc.length + r.length := by
  induction r generalizing acc with
  | nil => simp [nubK]
  | cons q r ih =>
    rw [nubK]
    split
    · have := ih (acc := acc); simp; omega
    · have := ih (acc := acc ++ [q]); simp at this ⊢; omega

theorem eq_sing {a b : Addr} {x y : Str} (ha : Has s.heap a (Lst [.str x])) (hb : Has s.heap b (Lst [.str y])) (hu : A.units + 5 < cLine) : SeqAt.EqAt A s (.ref a) (.ref b) (x == y) := by
  obtain ⟨oa, hoa, va, na, rfl, hva⟩ := ha
  obtain ⟨ob, hob, vb, nb, rfl, hvb⟩ := hb
  have one : ∀ {vs : Array Value} {z : Str}, vs.toList.map er = [.str z] → ∃ t, vs = #[.str z t] := by
    intro vs z h
    obtain ⟨l⟩ := vs
    obtain ⟨v, r, rfl, h1, h2⟩ := List.map_eq_cons_iff.mp h
    rw [List.map_eq_nil_iff] at h2
    subst h2
    obtain ⟨t, rfl⟩ := er_str h1
    exact ⟨t, rfl⟩
  obtain ⟨ta, rfl⟩ := one hva
  obtain ⟨tb, rfl⟩ := one hvb
  by_cases hab : a = b
  · subst hab
    rw [hoa] at hob
    have e1 := Option.some.inj hob
    simp only [Obj.mk.injEq, Data.seq.injEq] at e1
    have e2 : x = y := by
      have := e1.2.2.1.1
      simp at this
      exact this.1
    subst e2
    rw [beq_self_eq_true]
    exact SeqAt.EqAt.same _
  · refine SeqAt.EqAt.of_refs hab ?_
    have := SeqAt.RcAt.lists (A := A) (s := s) (e := fun _ => x == y) ⟨_, hoa, rfl, na, rfl⟩ ⟨_, hob, rfl, nb, rfl⟩ rfl (by omega) (fun j h1 h2 => by
      simp at h1
      subst h1
      exact (eqGives_str x y ta tb).at _ _)
    simpa using this
end
section
variable {prog : Program} {w : World} {M : Model} {A : Around} {E : Value → Shared → Prop} {s B : Shared} {l l' : List (Addr × C)} {env : Env} {mg mb : Str → Option Value}

theorem r_list0 {pos : Pos} {Q : Value → Shared → Prop} (D : In B l s) (k : ∀ n s', In B ((n, Lst []) :: l) s' → Q (.ref n) s') : wpAny M A (eval (.List [] pos) env) Q E s :=
  wpAny_List (wpAny_items_nil ⟨by simp, k _ _ (D.push rfl ⟨#[], 0, rfl, rfl⟩)⟩)

theorem any_find {α : Type} [BEq V] {zs : List α} (f : α → V) (e : α → Bool) (hinj : ∀ z ∈ zs, ∀ z' ∈ zs, f z = f z' → e z = e z') :
    ∀ z ∈ zs, ((zs.find? fun z' => decide (f z' = f z)).map e).getD false = e z := by
  intro z hz
  cases hf : zs.find? fun z' => decide (f z' = f z) with
  | none => exact absurd (List.find?_eq_none.mp hf z hz) (by simp)
  | some z' =>
    have h1 := List.mem_of_find?_eq_some hf
    have h2 : f z' = f z := by simpa using List.find?_some hf
    exact hinj z' h1 z hz h2

theorem r_in_core {α : Type} {op : Bool} {a : Addr} {zs : List α} {x : Value} {Q : Value → Shared → Prop} (f : α → V) (e : α → Bool) (D : In B l s) (r : Rd B l a (Lst (zs.map f)))
    (hinj : ∀ z ∈ zs, ∀ z' ∈ zs, f z = f z' → e z = e z') (he : ∀ z ∈ zs, ∀ y, er y = f z → SeqAt.EqAt A.in1 s y x (e z)) (k : Q (.bool (if op then zs.any e else !zs.any e)) s) :
    wpAny (model prog w) A (compareOp (if op then .In else .NotIn) x (.ref a)) Q E s := by
  obtain ⟨o, ho, vs, n, rfl, hx⟩ := D.rd r
  let e' : Value → Bool := fun y => ((zs.find? fun z' => decide (f z' = er y)).map e).getD false
  have he' : ∀ y ∈ vs, SeqAt.EqAt A.in1 s y x (e' y) := fun y hy => by
    have hm : er y ∈ zs.map f := by rw [← hx]; exact List.mem_map_of_mem (Array.mem_toList_iff.mpr hy)
    obtain ⟨z, hz, hzy⟩ := List.mem_map.mp hm
    have : e' y = e z := by
      show ((zs.find? fun z' => decide (f z' = er y)).map e).getD false = e z
      rw [← hzy]; exact any_find f e hinj z hz
    rw [this]; exact he z hz y hzy.symm
  have hany : vs.any e' = zs.any e := by
    rw [← Array.any_toList]
    have h1 : vs.toList.any e' = (vs.toList.map er).any (fun v => ((zs.find? fun z' => decide (f z' = v)).map e).getD false) := by rw [List.any_map]; rfl
    rw [h1, hx, List.any_map]
    have : ∀ z ∈ zs, ((fun v => ((zs.find? fun z' => decide (f z' = v)).map e).getD false) ∘ f) z = e z := fun z hz => any_find f e hinj z hz
    rw [Bool.eq_iff_iff, List.any_eq_true, List.any_eq_true]
    exact ⟨fun ⟨z, hz, h⟩ => ⟨z, hz, this z hz ▸ h⟩, fun ⟨z, hz, h⟩ => ⟨z, hz, (this z hz).symm ▸ h⟩⟩
  cases op with
  | true => exact SeqAt.in_listAt (items := vs) e' ⟨_, ho, rfl, n, rfl⟩ he' (by rw [hany]; exact k)
  | false => exact SeqAt.notIn_listAt (items := vs) e' ⟨_, ho, rfl, n, rfl⟩ he' (by rw [hany]; exact k)
theorem r_notIn {α : Type} {a : Addr} {zs : List α} {x : Value} {Q : Value → Shared → Prop} (f : α → V) (e : α → Bool) (D : In B l s) (r : Rd B l a (Lst (zs.map f)))
    (hinj : ∀ z ∈ zs, ∀ z' ∈ zs, f z = f z' → e z = e z') (he : ∀ z ∈ zs, ∀ y, er y = f z → SeqAt.EqAt A.in1 s y x (e z)) (k : Q (.bool (!zs.any e)) s) :
    wpAny (model prog w) A (compareOp .NotIn x (.ref a)) Q E s := r_in_core (op := false) f e D r hinj he k
end

theorem lst_inj1 {h : Heap} {a : Addr} {x y : Str} (h1 : Has h a (Lst [.str x])) (h2 : Has h a (Lst [.str y])) : x = y := by
  obtain ⟨o, ho, vs, n, rfl, e1⟩ := h1
  obtain ⟨o', ho', vs', n', rfl, e2⟩ := h2
  rw [ho] at ho'
  have := Option.some.inj ho'
  simp only [Obj.mk.injEq, Data.seq.injEq] at this
  rw [this.2.2.1.1, e2] at e1
  simp at e1
  exact e1.symm

theorem r_truth {M : Model} {A : Around} {E : Value → Shared → Prop} {s : Shared} {b : Bool} {Q : Bool → Shared → Prop} (h : Q b s) : wpAny M A (truthy (.bool b)) Q E s := wpAny_truthy_bool h

set_option maxRecDepth 100000 in
theorem dedupU_spec {prog : Program} {w : World} {A : Around} {s B : Shared} {l : List (Addr × C)} {mg mb : Str → Option Value} {a : Addr} {sg : List (Addr × Str)} {R : Result → Shared → Prop} (G : Gd w mg mb B) (D : In B l s) (hd : A.depth < 900) (hu : A.units < 9000) (hh : A.handled = none)
    (ra : Rd B l a (Lst (sg.map fun p => V.ref p.1))) (rs : ∀ p ∈ sg, Rd B l p.1 (Lst [.str p.2])) (hlen : sg.length ≤ 100)
    (k : ∀ n s', In B ((n, Lst ((nubK [] sg).map fun p => V.ref p.1)) :: l) s' → R (.ok (.ret (.ref n))) s') : codeAny (model prog w) A (.call (.ref 36) ⟨[.ref a], []⟩) R s := by
  refine r_enter ["unhashable_params"] [.ref a] [("unhashable_params", .ref a)] G D (by rfl) (by rfl) (by show A.depth < 1000; omega) (BindsTo.of_eq rfl) (by rfl) (by decide) rfl ?_
  intro L A' s' hd' hu' hh' hf' D
  refine noE (wpAny_execs_cons (wpAny_Assign_Name (r_list0 D fun n s D => ?_)))
  refine r_store D (by tm_at "up") fun s D => ?_
  refine wpAny_execs_cons (wpAny_For ?_)
  tm_at "nm"
  refine r_iter D (xs := sg.map fun p => V.ref p.1) (ra.elim (fun h => .inl (.tail _ (.tail _ h))) .inr) fun it s D => ?_
  have D := D.weak (c' := Nsp [("unhashable_params", .ref a), ("new_unhashable", .ref n)]) (by tm_at "up") (Nsp.sub (by tm_at "sub"))
  refine r_forList (fun i l' => l' = (n, Lst ((nubK [] (sg.take i)).map fun p => V.ref p.1)) :: (L, Nsp [("unhashable_params", .ref a), ("new_unhashable", .ref n)]) :: l) (by rw [hh']; exact hh)
    (fun i l' e => by subst e; exact ra.elim (fun h => .inl (.tail _ (.tail _ h))) .inr) (by simp [nubK]) D ?_ ?_
  · rintro i x _ s v hx rfl hv D
    rw [List.getElem?_map] at hx
    obtain ⟨p, hp, rfl⟩ := Option.map_eq_some_iff.mp hx
    obtain rfl := er_ref hv
    refine wpAny_assign_Name (r_store D (by tm_at "up") fun s D => ?_)
    refine wpAny_execs_cons (wpAny_If (wpAny_isTrue_Compare1 ?_))
    tm_at "nm"
    tm_at "nm"
    have hpm : p ∈ sg := List.mem_of_getElem? hp
    have sing : ∀ q ∈ sg, Has s.heap q.1 (Lst [.str q.2]) := fun q hq => D.rd ((rs q hq).elim (fun h => .inl (.tail _ (.tail _ (.tail _ h)))) .inr)
    have nin : ∀ q ∈ nubK [] (sg.take i), q ∈ sg := fun q hq => (nubK_mem q hq).elim (fun h => nomatch h) List.mem_of_mem_take
    refine r_notIn (fun q : Addr × Str => V.ref q.1) (fun q => q.2 == p.2) D (.inl (by tm_at "mem")) ?_ ?_ (r_truth ?_)
    · intro q hq q' hq' e
      have h1 := sing q (nin q hq)
      rw [V.ref.inj e] at h1
      rw [lst_inj1 h1 (sing q' (nin q' hq'))]
    · intro q hq y hy
      obtain rfl := er_ref hy
      exact eq_sing (sing q (nin q hq)) (sing p hpm) (by show A'.units + 1 + 5 < 9900; omega)
    · have hstep := nub_take hp
      rw [nubStep] at hstep
      cases hb : (nubK [] (sg.take i)).any (fun q => q.2 == p.2) with
      | true =>
        rw [hb] at hstep
        refine wpAny_execs_nil (wpAny_execs_nil ⟨_, by rw [hstep], D.weak (by tm_at "up") (Nsp.sub (by tm_at "sub"))⟩)
      | false =>
        rw [hb] at hstep
        refine wpAny_execs_cons (wpAny_Expr (r_callAttr ?_))
        tm_at "nm"
        refine r_methList D (.inl (by tm_at "mem")) F.plainAttrs_list F.slot_list_append F.type_list_append ?_
        refine callWith_one ?_
        tm_at "nm"
        refine r_append D (by tm_at "up") ?_ fun s D => ?_
        · have := nubK_len (acc := []) (r := sg.take i); have h2 := List.length_take_le i sg; simp at this h2 ⊢; omega
        · refine wpAny_execs_nil (wpAny_execs_nil ⟨_, by rw [hstep], ?_⟩)
          simpa using D.weak (by tm_at "up") (Nsp.sub (by tm_at "sub"))
  · rintro _ s rfl D
    rw [List.length_map, List.take_length] at D
    refine wpAny_execs_cons (wpAny_Return_some ?_)
    tm_at "nm"
    exact k n s (D.sublist (.cons_cons _ (.cons _ (.refl _))))
noncomputable def Ex0 (c : Value) : C := fun o => o.cls = c ∧ ∃ vs, o.data = .fields vs ∧ vs[1]? = some .none
noncomputable def Ex1 (c : Value) (tb : Addr) : C := fun o => o.cls = c ∧ ∃ vs, o.data = .fields vs ∧ vs[1]? = some (.ref tb)
noncomputable def Tbk (fl : Value) : C := fun o => ∃ vs, o.data = .fields vs ∧ vs[3]? = some fl
noncomputable def FrOk (l : List (Addr × C)) (envs : List Env) : Prop := ∀ env ∈ envs, env.scope.kind = .function ∧ ∃ L m, env.frame = some L ∧ (L, Nsp m) ∈ l
theorem FrOk.mono {l l' : List (Addr × C)} {envs : List Env} (h : FrOk l envs) (k : ∀ p ∈ l, p ∈ l') : FrOk l' envs := fun env he => let ⟨h1, L, m, h2, h3⟩ := h env he; ⟨h1, L, m, h2, k _ h3⟩
theorem FrOk.cons {l : List (Addr × C)} {env : Env} {envs : List Env} (h : FrOk l envs) {L : Addr} {m : List (Str × V)} (hk : env.scope.kind = .function) (hf : env.frame = some L) (hm : (L, Nsp m) ∈ l) : FrOk l (env :: envs) := fun e he => by
  rcases List.mem_cons.mp he with rfl | he
  · exact ⟨hk, L, m, hf, hm⟩
  · exact h e he

theorem In.add {B l s} (D : In B l s) {a : Addr} {c : C} {h' : Heap} {tk : Nat} (he : ∀ b o, s.heap.get? b = some o → h'.get? b = some o) (hn : s.heap.get? a = none) (hc : Has h' a c) : In B ((a, c) :: l) { s with heap := h', toks := tk } := by
  have D1 : In B l { s with heap := h', toks := tk } := D.ext he
  refine ⟨D1.keep, fun p hp => ?_, fun p hp => ?_, ?_, D1.gens, D1.drawn, D1.os⟩
  · rcases List.mem_cons.mp hp with rfl | hp
    · exact hc
    · exact D1.cell p hp
  · rcases List.mem_cons.mp hp with rfl | hp
    · cases e : B.heap.get? a with
      | none => rfl
      | some o => rw [D.keep _ _ e] at hn; cases hn
    · exact D.new p hp
  · rw [List.map_cons, List.nodup_cons]
    refine ⟨fun hm => ?_, D.nd⟩
    obtain ⟨p, hp, e⟩ := List.mem_map.mp hm
    obtain ⟨o, ho, _⟩ := D.cell p hp
    rw [e, hn] at ho; cases ho
theorem In.exc {B l s} (D : In B l s) {e : Addr} {cls : String} {h' : Heap} {tk : Nat} (x : Heap.NewExc s.heap h' e cls) : In B ((e, Ex0 (.type cls)) :: l) { s with heap := h', toks := tk } := by
  obtain ⟨ob, t, h1, h2, h3⟩ := x.there
  exact D.add x.keeps x.new ⟨ob, h1, h2, _, h3, rfl⟩

section
variable {prog : Program} {w : World} {M : Model} {A : Around} {E : Value → Shared → Prop} {s B : Shared} {l l' : List (Addr × C)} {env : Env} {mg mb : Str → Option Value}

theorem In.slots {L : Addr} {m : List (Str × V)} (D : In B l s) (hm : (L, Nsp m) ∈ l) (g : Obj → Array (Option Value)) : In B l { s with heap := s.heap.update L fun o => { o with slots := g o } } := by
  have : ∃ l', Up L (Nsp m) (Nsp m) l l' ∧ l' = l := by
    clear D
    induction l with
    | nil => cases hm
    | cons p r ih =>
      cases hm with
      | head => exact ⟨_, .head rfl, rfl⟩
      | tail _ h => obtain ⟨l', u, rfl⟩ := ih h; exact ⟨_, .tail u, rfl⟩
  obtain ⟨_, u, rfl⟩ := this
  obtain ⟨o, ho, hf, es, ep, hd, hk, hmm⟩ := D.has hm
  have hf' : ({ o with slots := g o } : Obj).isFreed = false := by
    obtain ⟨c, d, dt, sl⟩ := o
    cases dt <;> first | rfl | exact hf
  exact D.upd (tk := s.toks) u (Heap.SameBut.update ..) ⟨_, Heap.get?_update_self _ ho hf', hf', es, ep, hd, hk, hmm⟩

theorem r_ready : ∀ (envs : List Env) (s : Shared) (Q : Unit → Shared → Prop), In B l s → FrOk l envs → (∀ s', In B l s' → Q () s') → wpAny M A (readyFrames envs) Q E s
  | [], s, Q, D, _, k => wpAny_pure (k s D)
  | env :: outer, s, Q, D, ok, k => by
    obtain ⟨hk, L, m, hf, hm⟩ := ok env (.head _)
    obtain ⟨o, ho, _⟩ := D.has hm
    unfold readyFrames
    simp only [hf]
    refine wpAny_bind (wpAny_load ho ?_)
    by_cases hr : ((o.slots.getD 3 none).isSome) = true
    · rw [if_pos hr]; exact wpAny_pure (k s D)
    · rw [if_neg hr]
      refine wpAny_bind (wpAny_of_eq (a := false) (by simp [behindIsImport, hk]) ?_)
      have rest : ∀ v, wpAny M A (do
          update L fun o => { o with slots := #[some env.code, some (.ref env.globals), o.slots.getD 2 none, some v, o.slots.getD 4 none, env.func.map Value.ref, some (.ref env.builtins)] ++ (env.cells.map fun c => some (Value.ref c.2)).toArray }
          readyFrames outer) Q E s := fun v =>
        wpAny_bind (wpAny_update ho (r_ready outer _ Q (D.slots hm _) (fun e he => ok e (.tail _ he)) k))
      cases outer with
      | nil => exact wpAny_bind (wpAny_keptBack_nil fun v => rest v)
      | cons c r => exact wpAny_bind (wpAny_pure (rest _))

theorem r_note {e L : Addr} {cls : Value} {envs : List Env} {Q : Unit → Shared → Prop} (D : In B ((e, Ex0 cls) :: l) s) (hfr : A.frames = some (env :: envs)) (hf : env.frame = some L) (ok : FrOk l (env :: envs))
    (k : ∀ tb s', In B ((tb, Tbk (rawInt L)) :: (e, Ex1 cls tb) :: l) s' → Q () s') : wpAny M A (noteFrame (.ref e) env) Q E s := by
  obtain ⟨oe, he, hc, vs, hd, h1⟩ := D.has (.head _)
  have hsz : 1 < vs.size := (Array.getElem?_eq_some_iff.mp h1).1
  unfold noteFrame
  simp only [hf]
  refine wpAny_bind (wpAny_field he hd h1 ?_)
  rw [if_neg (by decide)]
  unfold PySem.frameOf
  refine wpAny_bind (wpAny_bind (wpAny_frameEnvs hfr ?_))
  have hdw : ((env :: envs).dropWhile fun x => x.frame != env.frame) = env :: envs := by simp [List.dropWhile]
  rw [hdw]
  unfold frameObject
  refine wpAny_bind (wpAny_bind (r_ready (env :: envs) _ _ D (ok.mono fun _ h => .tail _ h) fun s₁ D₁ => wpAny_pure ?_))
  rw [hf]
  refine wpAny_pure ?_
  refine wpAny_bind (wpAny_entryPlaceOf fun pl hpl => ?_)
  unfold EntryCells.newEntry newFields
  refine wpAny_bind (wpAny_newObj_type ?_ (hpl.sizeOk5 _ _ _ _ _))
  have D₂ : In B ((s₁.heap.objs.size, Tbk (rawInt L)) :: (e, Ex0 cls) :: l) { s₁ with heap := s₁.heap.push { cls := .type "traceback", dict := none, data := .fields ([Value.none, .ref L, .none, rawInt L, .none] ++ (if pl.isEmpty then List.replicate 6 Value.none else pl)).toArray }, toks := s₁.toks } :=
    D₁.push rfl ⟨_, rfl, by simp⟩
  obtain ⟨oe, he, hc, vs, hd, h1⟩ := D₂.has (.tail _ (.head _))
  have hsz : 1 < vs.size := (Array.getElem?_eq_some_iff.mp h1).1
  refine wpAny_setField he hd hsz ?_
  have hd₃ := Obj.data_mapFields hd (·.setIfInBounds 1 (Value.ref s₁.heap.objs.size))
  refine k s₁.heap.objs.size _ ?_
  refine D₂.upd (tk := s₁.toks) (.tail (.head rfl)) (Heap.SameBut.update ..) ⟨_, Heap.get?_update_self _ he (Obj.isFreed_of_fields hd₃), (Obj.cls_mapFields ..).trans hc, _, hd₃, ?_⟩
  simp [hsz]

theorem r_noteAgain {e L tb : Addr} {cls : Value} {Q : Unit → Shared → Prop} (D : In B l s) (he : (e, Ex1 cls tb) ∈ l) (ht : (tb, Tbk (rawInt L)) ∈ l) (hf : env.frame = some L) (k : Q () s) : wpAny M A (noteFrame (.ref e) env) Q E s := by
  obtain ⟨oe, ho, hc, vs, hd, h1⟩ := D.has he
  obtain ⟨ot, hot, tvs, hdt, h3⟩ := D.has ht
  exact wpAny_noteFrame_inFlight hf ho hd h1 hot hdt h3 k

theorem r_flight {e tb : Addr} {cls fl : Value} {fr : Option Addr} {Q : Unit → Shared → Prop} (D : In B l s) (he : (e, Ex1 cls tb) ∈ l) (u : Up tb (Tbk fl) (Tbk (fr.elim .none fun f => rawInt f)) l l') (k : ∀ s', In B l' s' → Q () s') : wpAny M A (setFlight (.ref e) fr) Q E s := by
  obtain ⟨oe, ho, hc, vs, hd, h1⟩ := D.has he
  obtain ⟨ot, hot, tvs, hdt, h3⟩ := D.has u.mem
  have hsz : 3 < tvs.size := (Array.getElem?_eq_some_iff.mp h3).1
  unfold setFlight
  refine wpAny_bind (wpAny_field ho hd h1 ?_)
  rw [if_pos (show (Value.ref tb != Value.none) = true from by simp)]
  refine wpAny_setField hot hdt hsz (k _ ?_)
  have hd₃ := Obj.data_mapFields hdt (·.setIfInBounds 3 (fr.elim Value.none fun f => rawInt f))
  refine D.upd (tk := s.toks) u (Heap.SameBut.update ..) ⟨_, Heap.get?_update_self _ hot (Obj.isFreed_of_fields hd₃), _, hd₃, ?_⟩
  simp [hsz]

theorem r_back {e tb L : Addr} {cls fl : Value} (D : In B l s) (he : (e, Ex1 cls tb) ∈ l) (hf : env.frame = some L) (u : Up tb (Tbk fl) (Tbk (rawInt L)) l l') (k : ∀ s', In B l' s' → E (.ref e) s') : cameBackBy M A env E (.ref e) s := by
  obtain ⟨oe, ho, hc, vs, hd, h1⟩ := D.has he
  show wpAny M A _ _ _ s
  refine wpAny_bind (wpAny_field ho hd h1 ?_)
  rw [if_neg (by simp)]
  rw [hf]
  exact r_flight D he u k

theorem r_loopE {e L : Addr} {cls : Value} {envs : List Env} (D : In B ((e, Ex0 cls) :: l) s) (hfr : A.frames = some (env :: envs)) (hf : env.frame = some L) (ok : FrOk l (env :: envs))
    (k : ∀ tb s', In B ((tb, Tbk (rawInt L)) :: (e, Ex1 cls tb) :: l) s' → E (.ref e) s') : notedBy M A env (cameBackBy M A env E) (.ref e) s :=
  r_note D hfr hf ok fun tb s' D' => r_back D' (.tail _ (.head _)) hf (.head rfl) fun s'' D'' => k tb s'' D''
end
section
variable {prog : Program} {w : World} {M : Model} {A : Around} {E : Value → Shared → Prop} {s B : Shared} {l l' : List (Addr × C)} {env : Env} {mg mb : Str → Option Value}

theorem r_forListE {target : Expr} {body : List Stmt} {a it : Addr} {xs : List V} {Q : Flow → Shared → Prop} (J : Nat → List (Addr × C) → Prop) {l₀ : List (Addr × C)} (hA : A.handled = none)
    (hl : ∀ i l, J i l → Rd B l a (Lst xs)) (h0 : J 0 l₀) (D : In B ((it, Itr a 0) :: l₀) s)
    (turn : ∀ i x l s v, xs[i]? = some x → J i l → er v = x → In B ((it, Itr a (i + 1)) :: l) s →
      wpAny (model prog w) A (assign target env v) (fun _ s₂ => wpAny (model prog w) A (execs body env) (After (fun s₃ => ∃ l', J (i + 1) l' ∧ In B ((it, Itr a (i + 1)) :: l') s₃) Q)
        (notedBy (model prog w) A env (cameBackBy (model prog w) A env E)) s₂) (notedBy (model prog w) A env (cameBackBy (model prog w) A env E)) s)
    (done : ∀ l s, J xs.length l → In B l s → Q .next s) (ht : ∀ v, letOwnedTupleGo target (.ref it) v = pure () := by intro _; rfl) :
    codeAny (model prog w) A (.forLoop target (.ref it) body [] env) (fun r s' => match r with | .ok f => Q f s' | .error e => cameBackBy (model prog w) A env E e s') s := by
  refine codeAny_forLoop (fun n s => ∃ i l, i + n = xs.length ∧ J i l ∧ In B ((it, Itr a i) :: l) s) (fun n s hI => ?_) xs.length ⟨0, l₀, by omega, h0, D⟩ ht
  obtain ⟨i, l, hn, hJ, D⟩ := hI
  have hit := itr_is (D.has (.head _))
  obtain ⟨o, ho, vs, k, rfl, hx⟩ := D.drop.rd (hl i l hJ)
  have hls : s.heap.IsList a vs := ⟨_, ho, rfl, k, rfl⟩
  have hlen : vs.size = xs.length := by rw [← hx]; simp
  cases n with
  | zero =>
    refine wpAny_pyNext_list_end (items := vs) hA hit hls (by rw [Array.getElem?_eq_none_iff]; omega) fun h' he => ?_
    refine wpAny_execs_nil (done l _ (by have : i = xs.length := by omega
                                         rw [← this]; exact hJ) ?_)
    have D' := D.drop
    refine ⟨fun b o e => he b o ?_ (D'.keep b o e), fun p hp => ?_, D'.new, D'.nd, D'.gens, D'.drawn, D'.os⟩
    · rintro rfl; have := D.new _ (.head _); rw [this] at e; cases e
    · refine (D'.cell p hp).ext fun o ho => he _ _ ?_ ho
      exact fun e => D.ne hp e.symm
  | succ n =>
    have hi : i < vs.size := by omega
    refine wpAny_pyNext_list_item (items := vs) (x := vs[i]) hit hls (by simp [hi]) fun h' hit' hs' => ?_
    have D' : In B ((it, Itr a (i + 1)) :: l) { s with heap := h', toks := s.toks } := D.upd (.head rfl) hs' (is_itr hit')
    have hxi : xs[i]? = some (er vs[i]) := by rw [← hx]; simp [hi]
    refine wpAny_mono (turn i _ l _ _ hxi hJ rfl D') (fun _ s₂ h₂ => wpAny_mono h₂ (fun f s₃ h₃ => ?_) fun _ _ x => x) fun _ _ x => x
    cases f with
    | next => obtain ⟨l', h1, h2⟩ := h₃; exact ⟨n, by omega, i + 1, l', by omega, h1, h2⟩
    | cont => obtain ⟨l', h1, h2⟩ := h₃; exact ⟨n, by omega, i + 1, l', by omega, h1, h2⟩
    | brk => exact h₃
    | ret v => exact h₃

theorem r_callName {x : Str} {np pos : Pos} {e : Expr} {rest : List Expr} {f : Addr} {o : Obj} {fd : FuncData} {Q : Value → Shared → Prop} (G : Gd w mg mb B) (D : In B l s)
    (hx : nsIn (KF w) mainGlobals x = some (some (.ref f))) (ho : (KF w).lookup f = some o) (hd : o.data = .func fd)
    (h : wpAny (model prog w) A (spliced (backTo pos (starEach (e :: rest) env))) (fun vs s₁ => (∃ l₁, In B l₁ s₁) ∧ codeAny (model prog w) A (.call (.ref f) ⟨vs, []⟩) (fun r s' => match r with | .ok (.ret v) => Q v s' | .ok _ => False | .error e => E e s') s₁) E s)
    (hk : env.scope.kind = .function := by rfl) (hl : env.kindOf x = some .globalImplicit := by rfl) (hg : env.globals = mainGlobals := by rfl)
    (hdb : (x == ("__debug__" : Str)) = false := by decide)
    (he : starEach (e :: rest) env = (false, eval e env) :: starEach rest env := by rfl) :
    wpAny (model prog w) A (eval (.Call (.Name x np) (e :: rest) [] pos) env) Q E s := by
  refine wpAny_Call_ofName (wpAny_Name (r_glob G D hx ?_ hk hl hg) hdb)
  show wpAny (model prog w) A (callWith pos (.ref f) [] (backTo pos (starEach (e :: rest) env)) []) Q E s
  refine Calls.callWith_function (o := o) (fd := fd) ?_
  rw [he] at h ⊢
  refine Calls.evalArgs_plain (wpAny_mono h (fun vs s₁ h₁ => ?_) fun _ _ x => x)
  obtain ⟨⟨l₁, D₁⟩, hc⟩ := h₁
  exact ⟨⟨(G.kx.keeps D₁.keep) _ _ ho, hd⟩, wpAny_call hc⟩

theorem r_listOf {a : Addr} {xs : List V} {Q : Value → Shared → Prop} (D : In B l s) (r : Rd B l a (Lst xs)) (hsz : xs.length ≤ 1000) (k : ∀ n s', In B ((n, Lst xs) :: l) s' → Q (.ref n) s') :
    wpAny (model prog w) A (call (.type "list") [.ref a]) Q E s := by
  obtain ⟨o, ho, vs, n, rfl, hx⟩ := D.rd r
  have hlen : vs.size = xs.length := by rw [← hx]; simp
  refine call_list_seq (hsz := by rw [sizeLine_eq]; omega) a (.inl rfl) ho rfl rfl fun h' c' hk hD => k s.heap.objs.size _ ?_
  exact D.add (tk := s.toks) hk (Heap.get?_none_of_le (Nat.le_refl _)) ⟨_, hD, _, _, rfl, hx⟩
theorem r_tupList {a : Addr} {xs : List V} {Q : Value → Shared → Prop} (D : In B l s) (r : Rd B l a (Tup xs)) (hsz : xs.length ≤ 1000) (k : ∀ n s', In B ((n, Lst xs) :: l) s' → Q (.ref n) s') :
    wpAny (model prog w) A (call (.type "list") [.ref a]) Q E s := by
  obtain ⟨o, ho, vs, n, rfl, hx⟩ := D.rd r
  have hlen : vs.size = xs.length := by rw [← hx]; simp
  refine call_list_seq (hsz := by rw [sizeLine_eq]; omega) a (.inr rfl) ho rfl rfl fun h' c' hk hD => k s.heap.objs.size _ ?_
  exact D.add (tk := s.toks) hk (Heap.get?_none_of_le (Nat.le_refl _)) ⟨_, hD, _, _, rfl, hx⟩
end

theorem isExc_ValueError : isSubtype (.type "ValueError") (.type "BaseException") = pure true := by rw [isSubtype_type]; kernel_rfl
theorem notTuple_ValueError : isSubtype (.type ((Manifest.find? "ValueError").elim "type" fun x => x.metatype)) (.type "tuple") = pure false := by rw [isSubtype_type]; kernel_rfl
theorem sub_ValueError : isSubtype (.type "ValueError") (.type "ValueError") = pure true := by rw [isSubtype_type]; kernel_rfl
section
variable {prog : Program} {w : World} {M : Model} {A : Around} {E : Value → Shared → Prop} {s B : Shared} {l l' : List (Addr × C)} {env : Env} {mg mb : Str → Option Value}

theorem removeLoop (a : Addr) (vs : Array Value) (n : Nat) (x : Value) (e : Value → Bool) (hsz : vs.size ≤ 1000) (k : Nat) :
    ∀ i : Nat, vs.size - i = k → Meets (Builtin.«list.remove.loop» ⟨[.ref a, x, rawInt i], []⟩)
      (fun A R s => A.handled = none ∧ s.heap.get? a = some { cls := .type "list", data := .seq vs n } ∧ (∀ y, y ∈ vs → SeqAt.EqAt A.in1 s y x (e y)) ∧
        match (vs.toList.drop i).findIdx? e with
        | some j => R (.ok (.ret .none)) { s with heap := s.heap.update a (Obj.mapSeq fun xs => xs.eraseIdxIfInBounds (i + j)) }
        | none => raisesNew "ValueError" A R s) := by
  induction k with
  | zero =>
    intro i hk prog w A R s h
    obtain ⟨hp, g, d, tk, os⟩ := s
    obtain ⟨hh, hl, he, h⟩ := h
    wp_walk using AutoSeq1.wpAny_loadPart' hl
    have hi : vs[((i : Nat) : Int).toNat]? = none := by simp; omega
    have hd : vs.toList.drop i = [] := by simp; omega
    rw [hd] at h
    rw [hi]
    wp_walk
    exact_raiseError plainExc_ValueError h.1 h.2
  | succ k ih =>
    intro i hk prog w A R s h
    obtain ⟨hp, g, d, tk, os⟩ := s
    obtain ⟨hh, hl, he, h⟩ := h
    wp_walk using AutoSeq1.wpAny_loadPart' hl
    have hlt : i < vs.size := by omega
    have hi : vs[((i : Nat) : Int).toNat]? = some vs[i] := by simp [hlt]
    have hd : vs.toList.drop i = vs[i] :: vs.toList.drop (i + 1) := by simp [List.drop_eq_getElem_cons, hlt]
    rw [hd, List.findIdx?_cons] at h
    rw [hi]
    refine wpAny_bind (he _ (Array.getElem_mem hlt) prog w _ _ ?_)
    cases hb : e vs[i] with
    | true =>
      rw [hb] at h
      have hz' : (vs.eraseIdxIfInBounds i).size ≤ sizeLine + 1 := Nat.le_trans (MeetsSeq.size_erased vs _) (by rw [sizeLine_eq]; omega)
      wp_walk using (wpAny_updateSeq hl rfl (hz := by rw [sizeLine_eq]; omega) (_hz' := hz')), AutoSeq1.wpAny_loadPart' hl
      simpa using h
    | false =>
      rw [hb] at h
      have hc : ((i : Int) + 1) = ((i + 1 : Nat) : Int) := by push_cast; rfl
      wp_walk
      rw [hc]
      refine ⟨plainId_quiet MeetsSeq.plain_remove_loop _, codeAny_builtin MeetsSeq.entry_remove_loop (by
        rw [Around.under_plainId MeetsSeq.plain_remove_loop _]
        refine ih (i + 1) (by omega) prog w A R _ ⟨hh, hl, he, ?_⟩
        cases hf : (vs.toList.drop (i + 1)).findIdx? e with
        | none => rw [hf] at h; exact h
        | some j =>
          rw [hf] at h
          simp only [Bool.false_eq_true, if_false, Option.map_some] at h
          have : i + (j + 1) = i + 1 + j := by omega
          rw [this] at h; exact h)⟩

theorem removeBuiltin (a : Addr) (vs : Array Value) (n : Nat) (x : Value) (e : Value → Bool) (hsz : vs.size ≤ 1000) :
    Meets (Builtin.«list.remove» ⟨[.ref a, x], []⟩)
      (fun A R s => A.handled = none ∧ s.heap.get? a = some { cls := .type "list", data := .seq vs n } ∧ (∀ y, y ∈ vs → SeqAt.EqAt A.in1 s y x (e y)) ∧
        match vs.toList.findIdx? e with
        | some j => R (.ok (.ret .none)) { s with heap := s.heap.update a (Obj.mapSeq fun xs => xs.eraseIdxIfInBounds j) }
        | none => raisesNew "ValueError" A R s) := by
  intro prog w A R s h
  obtain ⟨hp, g, d, tk, os⟩ := s
  obtain ⟨hh, hl, he, h⟩ := h
  wp_walk using AutoSeq1.wpAny_loadPart' hl
  exact ⟨plainId_quiet MeetsSeq.plain_remove_loop _, codeAny_builtin MeetsSeq.entry_remove_loop (by
    rw [Around.under_plainId MeetsSeq.plain_remove_loop _]
    exact removeLoop a vs n x e hsz _ 0 rfl prog w A R _ ⟨hh, hl, he, by simpa using h⟩)⟩
end
section
variable {prog : Program} {w : World} {M : Model} {A : Around} {E : Value → Shared → Prop} {s B : Shared} {l l' : List (Addr × C)} {env : Env} {mg mb : Str → Option Value}

theorem findIdx?_congr {α : Type} {p q : α → Bool} : ∀ {zs : List α}, (∀ z ∈ zs, p z = q z) → zs.findIdx? p = zs.findIdx? q
  | [], _ => rfl
  | z :: zs, h => by rw [List.findIdx?_cons, List.findIdx?_cons, h z (.head _), findIdx?_congr fun y hy => h y (.tail _ hy)]

theorem map_eraseIdx {α β : Type} (f : α → β) : ∀ (l : List α) (j : Nat), (l.eraseIdx j).map f = (l.map f).eraseIdx j
  | [], _ => rfl
  | _ :: _, 0 => rfl
  | x :: l, j + 1 => by simp [map_eraseIdx f l j]

theorem r_remove {α : Type} {a : Addr} {zs : List α} {x : Value} {Q : Value → Shared → Prop} (f : α → V) (e : α → Bool) (D : In B l s) (hA : A.handled = none)
    (u : Up a (Lst (zs.map f)) (Lst ((zs.eraseP e).map f)) l l') (hlen : zs.length ≤ 1000)
    (hinj : ∀ z ∈ zs, ∀ z' ∈ zs, f z = f z' → e z = e z') (he : ∀ z ∈ zs, ∀ y, er y = f z → SeqAt.EqAt A.in1 s y x (e z))
    (yes : zs.any e = true → ∀ s', In B l' s' → Q .none s') (no : zs.any e = false → ∀ x s', In B ((x, Ex0 (.type "ValueError")) :: l) s' → E (.ref x) s') :
    wpAny (model prog w) A (call (.builtin "list.remove") [.ref a, x]) Q E s := by
  obtain ⟨o, ho, vs, n, rfl, hx⟩ := D.has u.mem
  have hsz : vs.size = zs.length := by have := congrArg List.length hx; simpa using this
  let e'' : V → Bool := fun v => ((zs.find? fun z' => decide (f z' = v)).map e).getD false
  have hez : ∀ z ∈ zs, e'' (f z) = e z := fun z hz => any_find f e hinj z hz
  have he' : ∀ y ∈ vs, SeqAt.EqAt A.in1 s y x ((e'' ∘ er) y) := fun y hy => by
    have hm : er y ∈ zs.map f := by rw [← hx]; exact List.mem_map_of_mem (Array.mem_toList_iff.mpr hy)
    obtain ⟨z, hz, hzy⟩ := List.mem_map.mp hm
    show SeqAt.EqAt A.in1 s y x (e'' (er y))
    rw [← hzy, hez z hz]; exact he z hz y hzy.symm
  have hfi : vs.toList.findIdx? (e'' ∘ er) = zs.findIdx? e := by
    have h1 : vs.toList.findIdx? (e'' ∘ er) = (vs.toList.map er).findIdx? e'' := by rw [List.findIdx?_map]
    rw [h1, hx, List.findIdx?_map]
    exact findIdx?_congr hez
  refine call_meets F.slot_list_remove ⟨_, ho, rfl⟩ F.entry_list_remove (F.args_list_remove_2 _ _) (removeBuiltin a vs n x (e'' ∘ er) (by omega)) ⟨hA, ho, he', ?_⟩
  rw [hfi]
  cases hz : zs.findIdx? e with
  | none =>
    refine ⟨hA, fun h' tk x hx => ?_⟩
    refine no ?_ x _ (D.exc hx)
    rw [List.findIdx?_eq_none_iff] at hz
    rw [Bool.eq_false_iff]
    intro h
    obtain ⟨z, hzm, hze⟩ := List.any_eq_true.mp h
    rw [hz z hzm] at hze; cases hze
  | some j =>
    have hj : j < zs.length := (List.findIdx?_eq_some_iff_getElem.mp hz).1
    have hany : zs.any e = true := by
      obtain ⟨h1, h2, _⟩ := List.findIdx?_eq_some_iff_getElem.mp hz
      exact List.any_eq_true.mpr ⟨_, List.getElem_mem h1, h2⟩
    refine yes hany _ ?_
    have hne : ({ cls := .type "list", data := .seq vs n } : Obj).mapSeq (fun xs => xs.eraseIdxIfInBounds j) = { cls := .type "list", data := .seq (vs.eraseIdxIfInBounds j) (if (vs.eraseIdxIfInBounds j).size == vs.size then n else n + 1) } := rfl
    refine D.upd (tk := s.toks) u (Heap.SameBut.update ..) ⟨_, Heap.get?_update_self _ ho (by rw [hne]; rfl), _, _, hne, ?_⟩
    have h1 : (vs.eraseIdxIfInBounds j).toList = vs.toList.eraseIdx j := by
      unfold Array.eraseIdxIfInBounds
      rw [dif_pos (by omega)]
      simp
    rw [h1, map_eraseIdx, hx, ← map_eraseIdx, List.eraseP_eq_eraseIdx, hz]

theorem r_catch {X T : String} {e tb L : Addr} {np hpos : Pos} {x : Str} {b₀ : Stmt} {suite : List Stmt} {Q : Flow → Shared → Prop} (G : Gd w mg mb B)
    (D : In B ((tb, Tbk (rawInt L)) :: (e, Ex1 (.type X) tb) :: l) s) (hf : env.frame = some L)
    (hx : nsIn (KF w) mainGlobals x = some none) (hb : bootBuiltins x = some (.type T)) (hexc : isSubtype (.type T) (.type "BaseException") = pure true)
    (hnt : isSubtype (.type ((Manifest.find? T).elim "type" fun x => x.metatype)) (.type "tuple") = pure false) (hsub : isSubtype (.type X) (.type T) = pure true)
    (k : ∀ s', In B l s' → wpAny (model prog w) (A.mark (some (.ref e))) (execs (b₀ :: suite) env) Q (notedBy (model prog w) (A.mark (some (.ref e))) env (cameBackBy (model prog w) A env E)) s')
    (hk : env.scope.kind = .function := by rfl) (hl : env.kindOf x = some .globalImplicit := by rfl) (hg : env.globals = mainGlobals := by rfl) (hbn : env.builtins = builtinsNs := by rfl)
    (hn : x ≠ "__name__" := by decide) (hdb : (x == ("__debug__" : Str)) = false := by decide) :
    wpAny (model prog w) A (noteFrame (.ref e) env) (fun _ s₂ => wpAny (model prog w) A (setFlight (.ref e) none) (fun _ s₃ => wpAny (model prog w) A (handleBy (.ref e) env [.ExceptHandler (some (.Name x np)) none (b₀ :: suite) hpos]) Q E s₃) E s₂) E s := by
  refine r_noteAgain D (.tail _ (.head _)) (.head _) hf ?_
  refine r_flight D (.tail _ (.head _)) (.head rfl) fun s D => ?_
  refine wpAny_handleBy_builtin hexc hnt hsub (wpAny_Name (r_bi G D hx hb ⟨rfl, ?_, ?_⟩ hn hk hl hg hbn) hdb)
  · obtain ⟨o, ho, hc, _⟩ := D.has (.tail _ (.head _))
    exact ⟨o, ho, hc⟩
  · rw [if_pos rfl]
    refine r_flight D (.tail _ (.head _)) (.head rfl) fun s D => ?_
    exact k s D.drop.drop
theorem r_catch0 {X T : String} {e L : Addr} {np hpos : Pos} {x : Str} {b₀ : Stmt} {suite : List Stmt} {envs : List Env} {Q : Flow → Shared → Prop} (G : Gd w mg mb B)
    (D : In B ((e, Ex0 (.type X)) :: l) s) (hfr : A.frames = some (env :: envs)) (ok : FrOk l (env :: envs)) (hf : env.frame = some L)
    (hx : nsIn (KF w) mainGlobals x = some none) (hb : bootBuiltins x = some (.type T)) (hexc : isSubtype (.type T) (.type "BaseException") = pure true)
    (hnt : isSubtype (.type ((Manifest.find? T).elim "type" fun x => x.metatype)) (.type "tuple") = pure false) (hsub : isSubtype (.type X) (.type T) = pure true)
    (k : ∀ s', In B l s' → wpAny (model prog w) (A.mark (some (.ref e))) (execs (b₀ :: suite) env) Q (notedBy (model prog w) (A.mark (some (.ref e))) env (cameBackBy (model prog w) A env E)) s')
    (hk : env.scope.kind = .function := by rfl) (hl : env.kindOf x = some .globalImplicit := by rfl) (hg : env.globals = mainGlobals := by rfl) (hbn : env.builtins = builtinsNs := by rfl)
    (hn : x ≠ "__name__" := by decide) (hdb : (x == ("__debug__" : Str)) = false := by decide) :
    wpAny (model prog w) A (noteFrame (.ref e) env) (fun _ s₂ => wpAny (model prog w) A (setFlight (.ref e) none) (fun _ s₃ => wpAny (model prog w) A (handleBy (.ref e) env [.ExceptHandler (some (.Name x np)) none (b₀ :: suite) hpos]) Q E s₃) E s₂) E s := by
  refine r_note D hfr hf ok fun tb s D => ?_
  refine r_flight D (.tail _ (.head _)) (.head rfl) fun s D => ?_
  refine wpAny_handleBy_builtin hexc hnt hsub (wpAny_Name (r_bi G D hx hb ⟨rfl, ?_, ?_⟩ hn hk hl hg hbn) hdb)
  · obtain ⟨o, ho, hc, _⟩ := D.has (.tail _ (.head _))
    exact ⟨o, ho, hc⟩
  · rw [if_pos rfl]
    refine r_flight D (.tail _ (.head _)) (.head rfl) fun s D => ?_
    exact k s D.drop.drop
end
noncomputable def rmAll : List (Addr × Str) → List (Addr × Str) → Option (List (Addr × Str))
  | [], t => some t
  | p :: r, t => if t.any (fun q => q.2 == p.2) then rmAll r (t.eraseP fun q => q.2 == p.2) else none
noncomputable def cmpO (sg tg : List (Addr × Str)) : Bool := match rmAll (nubK [] sg) (nubK [] tg) with
  | none => false
  | some t => t.isEmpty

theorem Rd.tail {B : Shared} {l : List (Addr × C)} {a : Addr} {c : C} {p : Addr × C} (r : Rd B l a c) : Rd B (p :: l) a c := r.imp (.tail _) id

theorem rmAll_snoc {f : List (Addr × Str)} {g : List (Addr × Str)} {p : Addr × Str} : rmAll (f ++ [p]) g = (rmAll f g).bind fun T => if T.any (fun q => q.2 == p.2) then some (T.eraseP fun q => q.2 == p.2) else none := by
  induction f generalizing g with
  | nil => simp [rmAll]
  | cons x f ih => rw [List.cons_append, rmAll, rmAll]; split <;> simp [ih]
theorem rmAll_none {f f' : List (Addr × Str)} {g : List (Addr × Str)} (h : rmAll f g = none) : rmAll (f ++ f') g = none := by
  induction f generalizing g with
  | nil => cases h
  | cons x f ih => rw [rmAll] at h; rw [List.cons_append, rmAll]; split at h <;> simp_all
theorem take_snoc {α : Type} {f : List α} {i : Nat} {p : α} (h : f[i]? = some p) : f.take (i + 1) = f.take i ++ [p] := by rw [List.take_add_one, h]; rfl
theorem rmAll_sub {f g T : List (Addr × Str)} (h : rmAll f g = some T) : ∀ q ∈ T, q ∈ g := by
  induction f generalizing g with
  | nil => cases h; exact fun _ h => h
  | cons x f ih =>
    rw [rmAll] at h
    split at h
    · exact fun q hq => List.mem_of_mem_eraseP (ih h q hq)
    · cases h
theorem rmAll_len {f g T : List (Addr × Str)} (h : rmAll f g = some T) : T.length ≤ g.length := by
  induction f generalizing g with
  | nil => cases h; exact Nat.le_refl _
  | cons x f ih =>
    rw [rmAll] at h
    split at h
    · exact Nat.le_trans (ih h) (List.length_eraseP_le ..)
    · cases h
section
variable {prog : Program} {w : World} {M : Model} {A : Around} {E : Value → Shared → Prop} {s B : Shared} {l l' : List (Addr × C)} {env : Env} {mg mb : Str → Option Value}

theorem r_truthL {a : Addr} {xs : List V} {Q : Bool → Shared → Prop} (D : In B l s) (r : Rd B l a (Lst xs)) (hl : xs.length ≤ 1000) (k : ∀ s', In B l s' → Q (!xs.isEmpty) s') : wpAny (model prog w) A (truthy (.ref a)) Q E s := by
  obtain ⟨o, ho, vs, n, rfl, hx⟩ := D.rd r
  have hlen : vs.size = xs.length := by rw [← hx]; simp
  refine wpAny_truthy_list (items := vs) ⟨_, ho, rfl, n, rfl⟩ (by omega) ?_
  have : (!vs.isEmpty) = !xs.isEmpty := by
    rw [← hx]; obtain ⟨v⟩ := vs; cases v <;> simp
  rw [this]
  exact k _ D.tk

set_option maxRecDepth 100000 in
theorem compare_spec {a b : Addr} {sg tg : List (Addr × Str)} {envs : List Env} {R : Result → Shared → Prop} (G : Gd w mg mb B) (D : In B l s) (hd : A.depth < 800) (hu : A.units < 8000) (hh : A.handled = none) (hfr : A.frames = some envs) (ok : FrOk l envs)
    (ra : Rd B l a (Lst (sg.map fun p => V.ref p.1))) (rb : Rd B l b (Lst (tg.map fun p => V.ref p.1))) (rs : ∀ p ∈ sg ++ tg, Rd B l p.1 (Lst [.str p.2])) (hl1 : sg.length ≤ 100) (hl2 : tg.length ≤ 100)
    (k : ∀ s', In B l s' → R (.ok (.ret (.bool (cmpO sg tg)))) s') : codeAny (model prog w) A (.call (.ref 43) ⟨[.ref a, .ref b], []⟩) R s := by
  refine r_enter ["first_args", "second_args"] [.ref a, .ref b] [("first_args", .ref a), ("second_args", .ref b)] G D (by rfl) (by rfl) (by show A.depth < 1000; omega) (BindsTo.of_eq rfl) (by rfl) (by decide) rfl ?_
  intro L A' s' hd' hu' hh' hf' D
  rw [hfr] at hf'
  refine noE (wpAny_execs_cons (wpAny_Assign_Name (r_callName G D (by rfl) (by rfl) rfl (wpAny_items_cons ?_))))
  tm_at "nm"
  refine wpAny_items_nil ⟨⟨_, D⟩, dedupU_spec G D (by omega) (by omega) (by rw [hh']; exact hh) ra.tail (fun p hp => (rs p (List.mem_append_left _ hp)).tail) hl1 fun n1 s D => ?_⟩
  refine r_store D (by tm_at "up") fun s D => ?_
  refine wpAny_execs_cons (wpAny_Assign_Name (r_callName G D (by rfl) (by rfl) rfl (wpAny_items_cons ?_)))
  tm_at "nm"
  refine wpAny_items_nil ⟨⟨_, D⟩, dedupU_spec G D (by omega) (by omega) (by rw [hh']; exact hh) rb.tail.tail (fun p hp => (rs p (List.mem_append_right _ hp)).tail.tail) hl2 fun n2 s D => ?_⟩
  refine r_store D (by tm_at "up") fun s D => ?_
  refine wpAny_execs_cons (wpAny_Assign_Name (wpAny_Call_ofName (wpAny_Name (r_bi G D (by rfl) (by rfl) (callWith_type1 (wpAny_items_cons ?_))))))
  tm_at "nm"
  have hg100 : (nubK [] tg).length ≤ 100 := by have := nubK_len (acc := []) (r := tg); simp at this; omega
  refine wpAny_items_nil (r_listOf D (.inl (by tm_at "mem")) (by simp; omega) fun t s D => ?_)
  refine r_store D (by tm_at "up") fun s D => ?_
  have D := D.weak (c' := Nsp [("first_unhashable", .ref n1), ("t", .ref t)]) (by tm_at "up") (Nsp.sub (by tm_at "sub"))
  have hh2 : A'.handled = none := by rw [hh']; exact hh
  refine wpAny_execs_cons (wpAny_Try_except (wpAny_execs_cons (wpAny_For ?_)))
  tm_at "nm"
  refine r_iter D (.inl (by tm_at "mem")) fun it s D => ?_
  refine r_forListE (fun i l' => ∃ T, rmAll ((nubK [] sg).take i) (nubK [] tg) = some T ∧ l' = (t, Lst (T.map fun p => V.ref p.1)) :: (n2, Lst ((nubK [] tg).map fun p => V.ref p.1)) :: (n1, Lst ((nubK [] sg).map fun p => V.ref p.1)) :: (L, Nsp [("first_unhashable", .ref n1), ("t", .ref t)]) :: l) hh2
    (fun i l' e => by obtain ⟨T, _, rfl⟩ := e; exact .inl (by tm_at "mem")) ⟨_, by simp [rmAll], rfl⟩ D ?_ ?_
  · rintro i x _ s v hx ⟨T, hT, rfl⟩ hv D
    rw [List.getElem?_map] at hx
    obtain ⟨p, hp, rfl⟩ := Option.map_eq_some_iff.mp hx
    obtain rfl := er_ref hv
    refine wpAny_assign_Name (r_store D (by tm_at "up") fun s D => ?_)
    refine wpAny_execs_cons (wpAny_Expr (r_callAttr ?_))
    tm_at "nm"
    refine r_methList D (.inl (by tm_at "mem")) F.plainAttrs_list F.slot_list_remove F.type_list_remove ?_
    refine callWith_one ?_
    tm_at "nm"
    have sing : ∀ q ∈ sg ++ tg, Has s.heap q.1 (Lst [.str q.2]) := fun q hq => D.rd (rs q hq).tail.tail.tail.tail.tail
    have hpm : p ∈ sg ++ tg := List.mem_append_left _ ((nubK_mem p (List.mem_of_getElem? hp)).elim (fun h => nomatch h) id)
    have tin : ∀ q ∈ T, q ∈ sg ++ tg := fun q hq => List.mem_append_right _ ((nubK_mem q (rmAll_sub hT q hq)).elim (fun h => nomatch h) id)
    have hTl := rmAll_len hT
    refine r_remove (fun q : Addr × Str => V.ref q.1) (fun q => q.2 == p.2) D hh2 (by tm_at "up") (by omega) ?_ ?_ ?_ ?_
    · intro q hq q' hq' e
      have h1 := sing q (tin q hq)
      rw [V.ref.inj e] at h1
      rw [lst_inj1 h1 (sing q' (tin q' hq'))]
    · intro q hq y hy
      obtain rfl := er_ref hy
      exact eq_sing (sing q (tin q hq)) (sing p hpm) (by show A'.units + 1 + 5 < 9900; omega)
    · intro hany s D
      refine wpAny_execs_nil ⟨_, ⟨_, ?_, rfl⟩, D.weak (by tm_at "up") (Nsp.sub (by tm_at "sub"))⟩
      rw [take_snoc hp, rmAll_snoc, hT]
      simp only [Option.bind_some, hany, if_true]
    · intro hany e s D
      refine r_loopE D hf' rfl ((ok.mono (fun p hp => by simp [hp])).cons rfl rfl (by tm_at "mem")) fun tb s D => ?_
      refine r_catch G D rfl (by rfl) (by rfl) isExc_ValueError notTuple_ValueError sub_ValueError fun s D => ?_
      refine wpAny_execs_cons (wpAny_Return_some (wpAny_Constant_bool ?_))
      have : cmpO sg tg = false := by
        have h1 : rmAll ((nubK [] sg).take (i + 1)) (nubK [] tg) = none := by
          rw [take_snoc hp, rmAll_snoc, hT]
          simp only [Option.bind_some, hany, Bool.false_eq_true, if_false]
        unfold cmpO
        rw [← List.take_append_drop (i + 1) (nubK [] sg), rmAll_none h1]
      rw [← this]
      exact k s (D.sublist (by tm_at "sl"))
  · rintro _ s ⟨T, hT, rfl⟩ D
    rw [List.length_map, List.take_length] at hT
    refine wpAny_execs_nil (wpAny_execs_nil (wpAny_execs_cons (wpAny_Return_some (wpAny_UnaryOp ?_))))
    tm_at "nm"
    have hTl := rmAll_len hT
    refine not_of (r_truthL D (.inl (by tm_at "mem")) (by simp; omega) fun s D => ?_)
    have : cmpO sg tg = T.isEmpty := by unfold cmpO; rw [hT]
    have h2 : (!(!(List.map (fun p : Addr × Str => V.ref p.1) T).isEmpty)) = T.isEmpty := by simp
    rw [h2, ← this]
    exact k s (D.sublist (by tm_at "sl"))
end
theorem Up.now {a c c' l l'} (u : Up a c c' l l') : (a, c') ∈ l' := by
  induction u with
  | head e => subst e; exact .head _
  | tail _ ih => exact .tail _ ih
noncomputable def Ins (Cl d : Addr) (sl : List (Option V)) : C := fun o => ∃ vs : Array (Option Value), o = { cls := .ref Cl, dict := some d, data := .plain, slots := vs } ∧ vs.toList.map (·.map er) = sl
noncomputable def Ida (m : List (Str × V)) : C := fun o => ∃ es ep, o = { cls := .type "dict", data := .dict es ep } ∧ StrKeys es ∧ es.size = m.length ∧ ∀ x, (nsFind es x).map er = m.lookup x
noncomputable def setL (x : Str) (v : V) : List (Str × V) → List (Str × V)
  | [] => [(x, v)]
  | p :: r => if p.1 = x then (x, v) :: r else p :: setL x v r
theorem lookup_setL (x : Str) (v : V) (m : List (Str × V)) (y : Str) : (setL x v m).lookup y = if y = x then some v else m.lookup y := by
  induction m with
  | nil =>
    simp only [setL, List.lookup]
    by_cases h : y = x
    · subst h; simp
    · have : (y == x) = false := by simpa using h
      rw [this, if_neg h]
  | cons p r ih =>
    obtain ⟨a, b⟩ := p
    unfold setL
    by_cases h : a = x
    · subst h
      simp only [if_true, List.lookup]
      by_cases h2 : y = a
      · subst h2; simp
      · have : (y == a) = false := by simpa using h2
        rw [this, if_neg h2]
    · simp only [if_neg h, List.lookup]
      by_cases h2 : y = a
      · subst h2; simp [h]
      · have : (y == a) = false := by simpa using h2
        rw [this]; exact ih

section
variable {prog : Program} {w : World} {A : Around} {E : Value → Shared → Prop} {s B : Shared} {l l' : List (Addr × C)} {env : Env} {mg mb : Str → Option Value} {x d Cl : Addr}

theorem lookIn_ida {o : Obj} {m : List (Str × V)} {name : Str} (h : Ida m o) : ∃ r, lookIn name o = some r ∧ r.map er = m.lookup name := by
  obtain ⟨es, ep, rfl, hk, _, hm⟩ := h
  have hany : es.toList.any (·.refKey) = false := by
    rw [List.any_eq_false]
    intro e he
    obtain ⟨n, t, h⟩ := hk e (Array.mem_toList_iff.mp he)
    simp [DictEntry.refKey, h]
  have := hm name
  unfold nsFind findBy at this
  rw [← Array.find?_toList] at this
  unfold lookIn
  dsimp only
  cases hf : es.toList.find? fun e => e.key.isStr name with
  | some e => exact ⟨some e.val, rfl, by rw [hf] at this; exact this⟩
  | none => exact ⟨none, by rw [hany]; rfl, by rw [hf] at this; exact this⟩

theorem ins_at {sl : List (Option V)} {c : C} (D : In B l s) (hx : (x, Ins Cl d sl) ∈ l) (hd : (d, c) ∈ l) : ∃ ox od, InstAt s.heap x ox Cl (some od) ∧ c od ∧ s.heap.get? d = some od ∧ (∃ vs : Array (Option Value), ox = { cls := .ref Cl, dict := some d, data := .plain, slots := vs } ∧ vs.toList.map (·.map er) = sl) := by
  obtain ⟨ox, hox, vs, rfl, hvs⟩ := D.has hx
  obtain ⟨od, hod, hc⟩ := D.has hd
  exact ⟨_, od, ⟨hox, rfl, rfl, hod⟩, hc, hod, vs, rfl, hvs⟩

theorem r_getI {sl : List (Option V)} {m : List (Str × V)} {name : Str} {v : V} {expr : Bool} {attr : Option Value} {Q : Value → Shared → Prop} (G : Gd w mg mb B) (D : In B l s) (hx : (x, Ins Cl d sl) ∈ l) (hd : (d, Ida m) ∈ l)
    (hv : m.lookup name = some v) (hg : plainGet (KF w) Cl name = true) (hh : hasDictIn (KF w) Cl = true) (ha : findIn (KF w) (.ref Cl) name = some attr) (hn : noGet (KF w) attr = true) (hb : ∀ i, v ≠ .bi i)
    (k : ∀ u s', er u = v → In B l s' → Q u s') : wpAny (model prog w) A (getAttr (.ref x) name expr) Q E s := by
  obtain ⟨ox, od, I, hc, hod, _⟩ := ins_at D hx hd
  obtain ⟨r, hr, hre⟩ := lookIn_ida (name := name) hc
  rw [hv] at hre
  cases r with
  | none => cases hre
  | some u =>
    have hu : er u = v := Option.some.inj hre
    refine get_value (G.kx.keeps D.keep) I (plainGet_of hg).1 (findObj_own hh ha hn hr) ?_ (k u _ hu D.tk)
    cases u <;> first | rfl | exact absurd hu.symm (hb _)

theorem r_methI {sl : List (Option V)} {m : List (Str × V)} {name : Str} {f : Addr} {pl : Sem Bool} {Q : Value × List Value → Shared → Prop} (G : Gd w mg mb B) (D : In B l s) (hx : (x, Ins Cl d sl) ∈ l) (hd : (d, Ida m) ∈ l)
    (hv : m.lookup name = none) (hg : plainGet (KF w) Cl name = true) (hf : findIn (KF w) (.ref Cl) name = some (some (.ref f))) (ht : isFn (KF w) (.ref f) = true)
    (k : Q (.ref f, [.ref x]) s) : wpAny (model prog w) A (getMethod (.ref x) name pl) Q E s := by
  obtain ⟨ox, od, I, hc, hod, _⟩ := ins_at D hx hd
  obtain ⟨r, hr, hre⟩ := lookIn_ida (name := name) hc
  rw [hv] at hre
  have : r = none := by cases r <;> simp_all
  subst this
  exact method_fn (G.kx.keeps D.keep) I (plainGet_of hg).1 (plainGet_of hg).2 hf (beq_iff_eq.mp ht) (by show (lookIn name od).map (·.isSome) = some false; rw [hr]; rfl) k

theorem setL_length (x : Str) (v : V) : ∀ (m : List (Str × V)), (setL x v m).length = if (m.lookup x).isSome then m.length else m.length + 1
  | [] => rfl
  | p :: r => by
    obtain ⟨a, b⟩ := p
    unfold setL
    by_cases h : a = x
    · subst h; simp [List.lookup]
    · have hb : (x == a) = false := by simpa using Ne.symm h
      rw [if_neg h, List.length_cons, setL_length x v r]
      simp only [List.lookup, hb, List.length_cons]
      split <;> rfl
theorem ida_put {es : Array DictEntry} {ep : Nat} {m : List (Str × V)} {name : Str} {hs : Int} {tk : Tok} {v : Value} (hk : StrKeys es) (hsz : es.size = m.length) (hm : ∀ x, (nsFind es x).map er = m.lookup x) :
    Ida (setL name (er v) m) (Obj.putName name hs (.str name tk) v { cls := .type "dict", data := .dict es ep }) := by
  cases hi : es.findIdx? (·.key.isStr name) with
  | some i =>
    refine ⟨es.modify i fun e => { e with val := v }, ep, by simp only [Obj.putName_eq, Obj.putNameByArray, hi], hk.modify _ _, ?_, fun x => ?_⟩
    · rw [setL_length, Array.size_modify]
      have : (m.lookup name).isSome = true := by
        rw [← hm name, Option.isSome_map]
        unfold nsFind
        rw [findBy_of_findIdx?, hi]
        obtain ⟨hlt, _⟩ := Array.findIdx?_eq_some_iff_getElem.mp hi
        simp [hlt]
      rw [this, if_pos rfl]; exact hsz
    · rw [lookup_setL, ← hm x]
      have := findBy_modify (fun n v => v.isStr n) Value.isStr_inj es name x v i hi
      unfold nsFind
      rw [this]
      split <;> rfl
  | none =>
    refine ⟨es.push ⟨hs, .str name tk, v⟩, ep + 1, by simp only [Obj.putName_eq, Obj.putNameByArray, hi], hk.push _ _ _ _, ?_, fun x => ?_⟩
    · rw [setL_length, Array.size_push]
      have : (m.lookup name).isSome = false := by
        rw [← hm name, Option.isSome_map]
        unfold nsFind
        rw [findBy_of_findIdx?, hi]; rfl
      rw [this, hsz]; rfl
    · rw [lookup_setL, ← hm x]
      have := findBy_push (fun n v => v.isStr n) es name x hs (.str name tk) v (fun y => by
        show (name == y) = decide (y = name)
        by_cases h : y = name
        · subst h; simp
        · have : ¬ name = y := fun e => h e.symm
          simp [h, this]) hi
      unfold nsFind
      rw [this]
      split <;> rfl
theorem Ida.free {m : List (Str × V)} {o : Obj} (h : Ida m o) : o.isFreed = false := by obtain ⟨es, ep, rfl, _⟩ := h; rfl
theorem r_nsSet {M : Model} {m : List (Str × V)} {name : Str} {v : Value} {Q : Unit → Shared → Prop} (D : In B l s) (u : Up d (Ida m) (Ida (setL name (er v) m)) l l') (k : ∀ s', In B l' s' → Q () s') : wpAny M A (nsSet d name v) Q E s := by
  obtain ⟨od, hod, es, ep, rfl, hk, hsz, hm⟩ := D.has u.mem
  have hany : es.any (·.refKey) = false := by
    rw [Array.any_eq_false']; intro e he; obtain ⟨n, t, h⟩ := hk e he; simp [DictEntry.refKey, h]
  unfold nsSet
  refine wpAny_bind (wpAny_bind (wpAny_askSetting (wpAny_pure (wpAny_bind (wpAny_mkText (wpAny_bind (wpAny_loadPart hod ?_)))))))
  simp only [aRefKeyMayBeTheName_eq, aRefKeyMayBeTheNameByArray, hany, Bool.and_false, Bool.false_eq_true, if_false]
  have hp := ida_put (ep := ep) (name := name) (hs := PyData.keyHash M.w.params name) (tk := s.toks) (v := v) hk hsz hm
  refine wpAny_updatePart hod (k _ (D.upd u (Heap.SameBut.update ..) ⟨_, Heap.get?_update_self _ hod hp.free, hp⟩))

theorem r_setI {sl : List (Option V)} {m : List (Str × V)} {name : Str} {v : Value} {Q : Unit → Shared → Prop} (G : Gd w mg mb B) (D : In B l s) (hx : (x, Ins Cl d sl) ∈ l) (u : Up d (Ida m) (Ida (setL name (er v) m)) l l')
    (hs : findIn (KF w) (.ref Cl) "__setattr__" = some (some (.builtin "object.__setattr__"))) (hp : plainOver (KF w) Cl = true) (ht : takerIn (KF w) Cl name = some none) (hh : hasDictIn (KF w) Cl = true) (hm : m.length ≤ 50)
    (k : ∀ s', In B l' s' → Q () s') : wpAny (model prog w) A (setAttr (.ref x) name v) Q E s := by
  obtain ⟨ox, od, I, hc, hod, vs, rfl, _⟩ := ins_at D hx u.mem
  have X := G.kx.keeps D.keep
  refine set_plain X I hs (osa_open (s := { s with toks := s.toks + 1 }) X I hp ht fun b => ?_)
  obtain ⟨cd, hcd, hcdd⟩ := any_some hh
  refine wpAny_bind (wpAny_pure (wpAny_bind (wpAny_bind (wpAny_loadPart I.at_ (wpAny_bind (Looks.here (s := { s with toks := s.toks + 1 }) (looks_clsIn X hcd) ?_))))))
  rw [hcdd]
  refine wpAny_pure (a := some d) (wpAny_bind (wpAny_pure (wpAny_bind ?_)))
  refine r_nsSet (D.tk (tk := s.toks + 1)) u fun s' D' => ?_
  obtain ⟨o', ho', hi'⟩ := D'.has u.now
  obtain ⟨es, ep, rfl, hk, hsz, hme⟩ := hi'
  refine wpAny_bind (wpAny_lookBehind ho' (pastItsLine_dict ?_) (wpAny_pure (k s' D')))
  have := setL_length name (er v) m
  rw [hsz, this, sizeLine_eq]
  split <;> omega
end

section
variable {prog : Program} {w : World} {A : Around} {E : Value → Shared → Prop} {s B : Shared} {l l' : List (Addr × C)} {env : Env} {mg mb : Str → Option Value} {x d Cl p : Addr}

theorem r_getS {sl : List (Option V)} {c : C} {name : Str} {v : V} {i : Nat} {expr : Bool} {Q : Value → Shared → Prop} (G : Gd w mg mb B) (D : In B l s) (hx : (x, Ins Cl d sl) ∈ l) (hd : (d, c) ∈ l)
    (hg : plainGet (KF w) Cl name = true) (hc : isClsIn (KF w) Cl = true) (ha : findIn (KF w) (.ref Cl) name = some (some (.ref p))) (hn : specialIn (KF w) (.ref p) "__get__" = some (some (.builtin "member_descriptor.__get__")))
    (ht : takesIn (KF w) (.ref p) = some true) (hp : slotIn (KF w) p Cl = some i) (hv : sl[i]? = some (some v)) (hb : ∀ i, v ≠ .bi i)
    (k : ∀ u s', er u = v → In B l s' → Q u s') : wpAny (model prog w) A (getAttr (.ref x) name expr) Q E s := by
  obtain ⟨ox, od, I, _, hod, vs, rfl, hvs⟩ := ins_at D hx hd
  rw [← hvs, List.getElem?_map] at hv
  obtain ⟨u', hu1, hu2⟩ := Option.map_eq_some_iff.mp hv
  obtain ⟨u, rfl, hu⟩ := Option.map_eq_some_iff.mp hu2
  have X := G.kx.keeps D.keep
  refine get_bind X I (plainGet_of hg).1 (findObj_data hc ha hn ht) (plainGet_of hg).2 (wpAny_call (slot_get (s := { s with toks := s.toks + 1 }) X I hp (v := u) ?_ (handed_on ?_ (k u _ hu D.tk))))
  · show (vs[i]?).join = some u
    rw [← Array.getElem?_toList, hu1]; rfl
  · cases u <;> first | rfl | exact absurd hu.symm (hb _)

open Builtin Builtin.ObjectAttr Builtin.Getset_descriptor in
theorem slot_store {ox od : Obj} {v : Value} {i : Nat} {R : Result → Shared → Prop} {K : Frag} (X : K.In s.heap) (I : InstAt s.heap x ox Cl (some od)) (hp : slotIn K p Cl = some i) (hi : i < 1000)
    (h : R (.ok (.ret .none)) { s with heap := s.heap.update x fun o => { o with slots := (o.slots ++ Array.replicate (i + 1 - o.slots.size) none).setIfInBounds i (some v) } }) :
    codeAny (model prog w) A (.call (.builtin "member_descriptor.__set__") ⟨[.ref p, .ref x, v], []⟩) R s := by
  obtain ⟨n, tn, owner, behind, tb, dd, sl, cd, ho, hc, hm, hb, rfl⟩ := slot_of X hp
  obtain ⟨hh, g, dr, t, os⟩ := s
  have L0 := I.type (M := model prog w)
  have L1 := looks_mroIn (M := model prog w) X hm
  have L2 : Looks (model prog w) hh (Builtin.Slots.slotNamesOf (.ref Cl)) cd.slotNames := (looks_clsIn X hc).andThen .now
  have hx := I.at_
  dsimp only at ho hx L0 L1
  have f0 := looks_field (M := model prog w) ho 0 (v := .str n tn) rfl
  have f1 := looks_field (M := model prog w) ho 1 (v := owner) rfl
  have f3 := looks_field (M := model prog w) ho 3 (v := .builtin "proto.slot#set") rfl
  have f4 := looks_field (M := model prog w) ho 4 (v := .int behind tb) rfl
  refine codeAny_call_builtin PySem.W.KF.slot_mset.plain PySem.W.KF.entry_mset (PySem.W.KF.slot_mset.check _ _ _ _ _ _ _ _ ⟨_, ho, rfl⟩ (PySem.W.KF.args_mset _ _ _) ?_)
  unfold Builtin.«member_descriptor.__set__» descrSet descrStoreThrough descrCheckInstance descrNameAndClass isInstance
  have f5 : Looks (model prog w) hh (descrItself (.ref p)) [.ref p] := ((Looks.ld (part := none) ho).andThen .now).andThen (Looks.of_pure (by kernel_rfl))
  repeat lk
  refine ⟨Code.quiet_builtin _ (by decide +kernel), codeAny_builtin PySem.W.KF.entry_slotset ?_⟩
  unfold Builtin.«proto.slot#set» Builtin.Slots.target
  repeat lk
  rw [if_neg hb]
  refine wpAny_pure (wpAny_bind ?_)
  unfold setSlotAt
  dsimp only
  rw [if_neg (by rw [sizeLine_eq]; omega)]
  exact wpAny_updatePart hx (wpAny_pure h)
end
noncomputable def setSlot (i : Nat) (v : V) (sl : List (Option V)) : List (Option V) := (sl ++ List.replicate (i + 1 - sl.length) none).set i (some v)
section
variable {prog : Program} {w : World} {A : Around} {E : Value → Shared → Prop} {s B : Shared} {l l' : List (Addr × C)} {env : Env} {mg mb : Str → Option Value} {x d Cl p : Addr}
theorem r_setS {sl : List (Option V)} {c : C} {name : Str} {v : Value} {i : Nat} {Q : Unit → Shared → Prop} (G : Gd w mg mb B) (D : In B l s) (hd : (d, c) ∈ l) (u : Up x (Ins Cl d sl) (Ins Cl d (setSlot i (er v) sl)) l l')
    (hs : findIn (KF w) (.ref Cl) "__setattr__" = some (some (.builtin "object.__setattr__"))) (hp : plainOver (KF w) Cl = true) (ht : takerIn (KF w) Cl name = some (some (.ref p))) (hT : typeIn (KF w) (.ref p) = some (.type "member_descriptor"))
    (hi : slotIn (KF w) p Cl = some i) (hz : i < 1000) (k : ∀ s', In B l' s' → Q () s') : wpAny (model prog w) A (setAttr (.ref x) name v) Q E s := by
  obtain ⟨ox, od, I, _, hod, vs, rfl, hvs⟩ := ins_at D u.mem hd
  have X := G.kx.keeps D.keep
  refine set_plain X I hs (osa_descr (s := { s with toks := s.toks + 1 }) PySem.W.KF.slot_mset X I hp ht hT (slot_store (s := { s with toks := s.toks + 1 }) X I hi hz (k _ ?_)))
  refine D.upd (tk := s.toks + 1) u (Heap.SameBut.update ..) ⟨_, Heap.get?_update_self _ I.at_ rfl, _, rfl, ?_⟩
  have hlen : vs.size = sl.length := by rw [← hvs]; simp
  rw [setSlot, ← hvs]
  simp [List.map_set, hlen]

theorem r_make {rest : List Value} {kw : List (Str × Value)} {fI : Addr} {R : Result → Shared → Prop} (G : Gd w mg mb B) (D : In B l s) (hm : makesIn (KF w) Cl = true)
    (hi : findIn (KF w) (.ref Cl) "__init__" = some (some (.ref fI))) (hf : typeIn (KF w) (.ref fI) = some (.type "function"))
    (k : ∀ x d A' s', A'.depth = A.depth + 1 → A'.units = A.units + 1 → A'.handled = A.handled → A'.frames = A.frames → In B ((x, Ins Cl d []) :: (d, Ida []) :: l) s' →
      codeAny (model prog w) A' (.call (.ref fI) ⟨.ref x :: rest, kw⟩) (InitBack x R) s') : codeAny (model prog w) A (.call (.ref Cl) ⟨rest, kw⟩) R s := by
  obtain ⟨hh, g, d, t, os⟩ := s
  have X := G.kx.keeps D.keep
  refine make_core (makes_of X hm) (looks_findIn X hi) (fun self => bind_fn X self hf) (.inl rfl) ?_
  refine k (hh.objs.size + 1) hh.objs.size _ _ ?_ ?_ ?_ ?_ ?_
  · rfl
  · rfl
  · rfl
  · rfl
  · have D1 : In B ((hh.objs.size, Ida []) :: l) ⟨hh.push emptyDict, g, d, t, os⟩ := D.push (tk := t) rfl ⟨#[], 0, rfl, fun e he => by simp at he, rfl, fun _ => rfl⟩
    have D2 := D1.push (c := Ins Cl hh.objs.size []) (o := instObj Cl hh.objs.size) (tk := t) rfl ⟨#[], rfl, rfl⟩
    have e : (hh.push emptyDict).objs.size = hh.objs.size + 1 := Heap.size_push ..
    dsimp only at D2
    rw [e] at D2
    exact D2
end
noncomputable def kv (p : Str × Value) : Str × V := (p.1, er p.2)
noncomputable def Dc (prog : Program) (w : World) (e : Option Nat) (kvs : List (Str × V)) : C := fun o =>
  ∃ es ep vs, o.ExactDict ∧ o.data = .dict es ep ∧ KeysOf (strKind prog w) es ∧ Pairs (strKind prog w) es.toList vs ∧ (vs.map (·.1)).Nodup ∧ vs.map kv = kvs ∧ ∀ n, e = some n → ep = n
noncomputable def St (prog : Program) (w : World) (S : Str → Bool) (n : Nat) : C := fun o =>
  ∃ es ep t, o.ExactSet ∧ o.data = .set es ep t ∧ ElemsOf (strKind prog w) es.toList ∧ (∀ k, S k = true ↔ ∃ e ∈ es.toList, (strKind prog w).is k e.2 = true) ∧ es.size < scanBound ∧ t.fits es.size = true ∧ es.size = n

section
variable {prog : Program} {w : World} {A : Around} {E : Value → Shared → Prop} {s B : Shared} {l l' : List (Addr × C)} {env : Env} {mg mb : Str → Option Value} {d : Addr} {e : Option Nat} {kvs : List (Str × V)}

theorem dc_of {h : Heap} (x : Has h d (Dc prog w e kvs)) : ∃ vs, h.DictOf (strKind prog w) d vs ∧ vs.map kv = kvs := by
  obtain ⟨o, ho, es, ep, vs, h1, h2, h3, h4, h5, h6, _⟩ := x
  exact ⟨vs, ⟨o, es, ep, ho, h1, h2, h3, h4, h5⟩, h6⟩
theorem of_dc {h : Heap} {vs : List (Str × Value)} (x : h.DictOf (strKind prog w) d vs) : Has h d (Dc prog w none (vs.map kv)) := by
  obtain ⟨o, es, ep, ho, h1, h2, h3, h4, h5⟩ := x
  exact ⟨o, ho, es, ep, vs, h1, h2, h3, h4, h5, rfl, fun _ h => nomatch h⟩
theorem dcAt_of {h : Heap} {n : Nat} (x : Has h d (Dc prog w (some n) kvs)) : ∃ vs, h.DictAt (strKind prog w) d vs n ∧ vs.map kv = kvs := by
  obtain ⟨o, ho, es, ep, vs, h1, h2, h3, h4, h5, h6, h7⟩ := x
  have := h7 n rfl; subst this
  exact ⟨vs, ⟨o, es, ho, h1, h2, h3, h4, h5⟩, h6⟩
theorem In.openD (D : In B l s) (hd : (d, Dc prog w e kvs) ∈ l) : ∃ n, ∀ l', Up d (Dc prog w e kvs) (Dc prog w (some n) kvs) l l' → In B l' s := by
  obtain ⟨o, ho, es, ep, vs, h1, h2, h3, h4, h5, h6, _⟩ := D.has hd
  exact ⟨ep, fun l' u => D.upd (tk := s.toks) u (Heap.SameBut.refl d s.heap) ⟨o, ho, es, ep, vs, h1, h2, h3, h4, h5, h6, fun _ h => Option.some.inj h⟩⟩
theorem Dc.any : ∀ o, Dc prog w e kvs o → Dc prog w none kvs o := fun o ⟨es, ep, vs, h1, h2, h3, h4, h5, h6, _⟩ => ⟨es, ep, vs, h1, h2, h3, h4, h5, h6, fun _ h => nomatch h⟩
theorem notSys (G : Gd w mg mb B) (D : In B l s) : (s.heap.objs.size == sysModules) = false := by
  obtain ⟨o, ho⟩ : ∃ o, (KF w).lookup 209 = some o := ⟨_, rfl⟩
  have := Heap.lt_size (D.keep _ _ (G.kx _ _ ho))
  rw [beq_eq_false_iff_ne]
  intro e
  rw [e] at this
  exact absurd this (by decide)

theorem valueAt_kv (vs : List (Str × Value)) (k : Str) : (valueAt vs k).map er = (vs.map kv).lookup k := by
  induction vs with
  | nil => rfl
  | cons p vs ih =>
    unfold valueAt at ih ⊢
    rw [List.find?_cons, List.map_cons]
    show _ = List.lookup k ((p.1, er p.2) :: vs.map kv)
    rw [List.lookup]
    by_cases h : p.1 = k
    · subst h; simp
    · have h2 : (k == p.1) = false := by simpa using Ne.symm h
      rw [h2]; simp only [decide_eq_false h]; exact ih
theorem setL_notMem {x : Str} {v : V} {m : List (Str × V)} (h : x ∉ m.map (·.1)) : setL x v m = m ++ [(x, v)] := by
  induction m with
  | nil => rfl
  | cons p m ih =>
    simp only [List.map_cons, List.mem_cons, not_or] at h
    rw [setL, if_neg (Ne.symm h.1), ih h.2]; rfl
theorem stored_kv (vs : List (Str × Value)) (k : Str) (v : Value) (nd : (vs.map (·.1)).Nodup) : (stored vs k v).map kv = setL k (er v) (vs.map kv) := by
  unfold stored
  split
  · rename_i h
    induction vs with
    | nil => simp at h
    | cons p vs ih =>
      rw [List.map_cons, List.nodup_cons] at nd
      by_cases hk : p.1 = k
      · subst hk
        rw [List.map_cons, if_pos rfl, map_store_of_not_mem _ _ _ nd.1]
        show _ = setL p.1 (er v) ((p.1, er p.2) :: vs.map kv)
        rw [setL, if_pos rfl]; rfl
      · have h' : vs.any (fun kv => decide (kv.1 = k)) = true := by simpa [hk] using h
        rw [List.map_cons, if_neg hk, List.map_cons, ih nd.2 h']
        show _ = setL k (er v) ((p.1, er p.2) :: vs.map kv)
        rw [setL, if_neg hk]; rfl
  · rename_i h
    rw [setL_notMem]
    · simp [kv]
    · simp only [List.any_eq_true, decide_eq_true_eq, not_exists, not_and] at h
      intro hm
      rw [List.map_map] at hm
      obtain ⟨p, hp, e⟩ := List.mem_map.mp hm
      exact h p hp e
theorem without_kv (vs : List (Str × Value)) (k : Str) : (without vs k).map kv = (vs.map kv).filter fun p => decide (p.1 ≠ k) := by
  unfold without
  rw [List.filter_map]; rfl

theorem r_ditem {k : Str} {t : Tok} {v : V} {Q : Value → Shared → Prop} (D : In B l s) (r : Rd B l d (Dc prog w e kvs)) (hv : kvs.lookup k = some v) (h : ∀ u s', er u = v → In B l s' → Q u s') :
    wpAny (model prog w) A (getItem (.ref d) (.str k t)) Q E s := by
  obtain ⟨vs, hd, rfl⟩ := dc_of (D.rd r)
  rw [← valueAt_kv] at hv
  obtain ⟨u, hu, hv⟩ := Option.map_eq_some_iff.mp hv
  exact wpAny_getItem_of (strKind_is prog w k t) hd.mapOf hu (h u _ hv D.tk)
theorem r_dset {k : Str} {t : Tok} {v : Value} {Q : Unit → Shared → Prop} (D : In B l s) (u : Up d (Dc prog w e kvs) (Dc prog w none (setL k (er v) kvs)) l l') (hsz : kvs.length ≤ 100) (h : ∀ s', In B l' s' → Q () s') :
    wpAny (model prog w) A (setItem (.ref d) (.str k t) v) Q E s := by
  obtain ⟨vs, hd, rfl⟩ := dc_of (D.has u.mem)
  have nd : (vs.map (·.1)).Nodup := by obtain ⟨_, _, _, _, _, _, _, _, h⟩ := hd; exact h
  refine wpAny_setItem_pairs (strKind_is prog w k t) hd (fun h' hd' hs' => h _ (D.upd u hs' ?_)) (by rw [List.length_map] at hsz; rw [sizeLine_eq]; omega)
  rw [← stored_kv _ _ _ nd]; exact of_dc hd'
theorem r_din {k : Str} {t : Tok} {Q : Value → Shared → Prop} (D : In B l s) (r : Rd B l d (Dc prog w e kvs)) (hn : (d == sysModules) = false) (h : ∀ s', In B l s' → Q (.bool (kvs.lookup k).isSome) s') :
    wpAny (model prog w) A (compareOp .In (.str k t) (.ref d)) Q E s := by
  obtain ⟨vs, hd, rfl⟩ := dc_of (D.rd r)
  refine wpAny_in_of (strKind_is prog w k t) hn hd.mapOf ?_
  have := valueAt_kv vs k
  have h2 := h _ (D.tk (tk := s.toks + 1))
  rw [← this, Option.isSome_map] at h2; exact h2
theorem r_methDict {name : Str} {id : String} {pl : Sem Bool} {Q : Value × List Value → Shared → Prop} (D : In B l s) (r : Rd B l d (Dc prog w e kvs)) (slot : Slot "dict" name id)
    (hty : typeOf (.builtin id) = pure (.type "method_descriptor")) (k : Q (.builtin id, [.ref d]) s) : wpAny (model prog w) A (getMethod (.ref d) name pl) Q E s := by
  obtain ⟨vs, hd, rfl⟩ := dc_of (D.rd r)
  exact getMethod_builtin hd.typeIs F.plainAttrs_dict slot hty hd.mapOf.noDict k
theorem r_dget {k : Str} {t : Tok} {Q : Value → Shared → Prop} (D : In B l s) (r : Rd B l d (Dc prog w e kvs)) (hn : (d == sysModules) = false) (h : ∀ u s', er u = (kvs.lookup k).getD .none → In B l s' → Q u s') :
    wpAny (model prog w) A (call (.builtin "dict.get") [.ref d, .str k t]) Q E s := by
  obtain ⟨vs, hd, rfl⟩ := dc_of (D.rd r)
  refine call_meetsIn F.slot_dict_get hd.typeIs F.entry_dict_get (F.args_dict_get_2 _ _) (meets_dict_get (strKind prog w) d (strKind_is prog w k t) hn) ⟨_, hd.mapOf, h _ _ ?_ D.tk⟩
  rw [← valueAt_kv]
  cases valueAt vs k <;> rfl
theorem r_ddel {k : Str} {t : Tok} {Q : Unit → Shared → Prop} (D : In B l s) (u : Up d (Dc prog w e kvs) (Dc prog w none (kvs.filter fun p => decide (p.1 ≠ k))) l l') (hsz : kvs.length ≤ 100) (hv : (kvs.lookup k).isSome = true) (h : ∀ s', In B l' s' → Q () s') :
    wpAny (model prog w) A (delItem (.ref d) (.str k t)) Q E s := by
  obtain ⟨vs, hd, rfl⟩ := dc_of (D.has u.mem)
  unfold delItem
  try with_reducible refine wpAny_holding ?_
  refine wpAny_bind (wpAny_sequenceKey hd.typeIs (by decide) ?_)
  refine wpAny_bind (wpAny_callSpecial?_slot (name := Str.ofString "__delitem__") hd.typeIs F.slot_dict_delitem
    (call_meetsIn F.slot_dict_delitem hd.typeIs F.entry_dict_delitem (F.args_dict_delitem_2 _ _) (meets_dict_delitem_pairs (strKind prog w) d (strKind_is prog w k t)) ⟨vs, hd, by rw [List.length_map] at hsz; rw [sizeLine_eq]; omega, ?_, fun h' hd' hs' => ?_⟩))
  · rw [← valueAt_kv, Option.isSome_map] at hv; exact hv
  · refine wpAny_pure (h _ (D.upd u hs' ?_))
    rw [← without_kv]; exact of_dc hd'

theorem st_of {h : Heap} {S : Str → Bool} {n : Nat} {a : Addr} (x : Has h a (St prog w S n)) : h.SetOf (strKind prog w) a S n := let ⟨o, ho, es, ep, t, h1, h2, h3, h4, h5, h6, h7⟩ := x; ⟨o, es, ep, t, ho, h1, h2, h3, h4, h5, h6, h7⟩
theorem of_st {h : Heap} {S : Str → Bool} {n : Nat} {a : Addr} (x : h.SetOf (strKind prog w) a S n) : Has h a (St prog w S n) := let ⟨o, es, ep, t, ho, h1, h2, h3, h4, h5, h6, h7⟩ := x; ⟨o, ho, es, ep, t, h1, h2, h3, h4, h5, h6, h7⟩
theorem r_inSet {a : Addr} {S : Str → Bool} {n : Nat} {k : Str} {t : Tok} {Q : Value → Shared → Prop} (D : In B l s) (r : Rd B l a (St prog w S n)) (h : ∀ s', In B l s' → Q (.bool (S k)) s') :
    wpAny (model prog w) A (compareOp .In (.str k t) (.ref a)) Q E s :=
  wpAny_inSet_of (strKind_is prog w k t) rfl (st_of (D.rd r)) (h _ D.tk)
theorem r_methSet {a : Addr} {S : Str → Bool} {n : Nat} {pl : Sem Bool} {Q : Value × List Value → Shared → Prop} (D : In B l s) (r : Rd B l a (St prog w S n)) (k : Q (.builtin "set.add", [.ref a]) s) : wpAny (model prog w) A (getMethod (.ref a) "add" pl) Q E s :=
  getMethod_set_add (st_of (D.rd r)) k
theorem r_setAdd {a : Addr} {S : Str → Bool} {n : Nat} {k : Str} {t : Tok} {Q : Value → Shared → Prop} (D : In B l s) (u : Up a (St prog w S n) (St prog w (fun k' => S k' || decide (k' = k)) (if S k then n else n + 1)) l l') (hn : n < 1000) (h : ∀ s', In B l' s' → Q .none s') :
    wpAny (model prog w) A (call (.builtin "set.add") [.ref a, .str k t]) Q E s :=
  call_set_add (strKind_is prog w k t) rfl (st_of (D.has u.mem)) (by show n + 1 < 4096; omega) fun h' hs hS => h _ (D.upd u hs (of_st hS))

noncomputable def KIt (d : Addr) (i n ep : Nat) : C := fun o => o.cls = .type "dict_keyiterator" ∧ o.data = .fields #[.ref d, .int i 0, .int n 0, .int ep 0]
theorem r_iterD {ep : Nat} {Q : Value → Shared → Prop} (D : In B l s) (r : Rd B l d (Dc prog w (some ep) kvs)) (hn : (d == sysModules) = false) (k : ∀ it s', In B ((it, KIt d 0 kvs.length ep) :: l) s' → Q (.ref it) s') : wpAny (model prog w) A (pyIter (.ref d)) Q E s := by
  obtain ⟨vs, hd, rfl⟩ := dcAt_of (D.rd r)
  refine wpAny_pyIter_dict hn hd (k _ _ ?_)
  rw [List.length_map]
  exact D.push (tk := s.toks) rfl ⟨rfl, rfl⟩
theorem kit_is {h : Heap} {it : Addr} {i n ep : Nat} (x : Has h it (KIt d i n ep)) : h.IsKeyIter it d i n ep := let ⟨o, ho, h1, h2⟩ := x; ⟨o, ho, h1, h2⟩
theorem is_kit {h : Heap} {it : Addr} {i n ep : Nat} (x : h.IsKeyIter it d i n ep) : Has h it (KIt d i n ep) := let ⟨o, ho, h1, h2⟩ := x; ⟨o, ho, h1, h2⟩
theorem In.dropExt {it : Addr} {c : C} {h' : Heap} (D : In B ((it, c) :: l) s) (he : Heap.ExtBut it s.heap h') : In B l { s with heap := h' } := by
  have D' := D.drop
  refine ⟨fun b o e => he b o ?_ (D'.keep b o e), fun p hp => ?_, D'.new, D'.nd, D'.gens, D'.drawn, D'.os⟩
  · rintro rfl; have := D.new _ (.head _); rw [this] at e; cases e
  · refine (D'.cell p hp).ext fun o ho => he _ _ ?_ ho
    exact fun e => D.ne hp e.symm
theorem r_forDict {target : Expr} {body : List Stmt} {it : Addr} {ep : Nat} {Q : Flow → Shared → Prop} (J : Nat → List (Addr × C) → Prop) {l₀ : List (Addr × C)} (hA : A.handled = none)
    (hl : ∀ i l, J i l → Rd B l d (Dc prog w (some ep) kvs)) (h0 : J 0 l₀) (D : In B ((it, KIt d 0 kvs.length ep) :: l₀) s)
    (turn : ∀ i x l s t, (kvs.map (·.1))[i]? = some x → J i l → In B ((it, KIt d (i + 1) kvs.length ep) :: l) s →
      wpAny (model prog w) A (assign target env (.str x t)) (fun _ s₂ => wpAny (model prog w) A (execs body env) (After (fun s₃ => ∃ l', J (i + 1) l' ∧ In B ((it, KIt d (i + 1) kvs.length ep) :: l') s₃) Q) NoE s₂) NoE s)
    (done : ∀ l s, J kvs.length l → In B l s → Q .next s) (ht : ∀ v, letOwnedTupleGo target (.ref it) v = pure () := by intro _; rfl) :
    codeAny (model prog w) A (.forLoop target (.ref it) body [] env) (fun r s' => match r with | .ok f => Q f s' | .error e => cameBackBy (model prog w) A env E e s') s := by
  refine codeAny_forLoop (fun n s => ∃ i l, i + n = kvs.length ∧ J i l ∧ In B ((it, KIt d i kvs.length ep) :: l) s) (fun n s hI => ?_) kvs.length ⟨0, l₀, by omega, h0, D⟩ ht
  obtain ⟨i, l, hn, hJ, D⟩ := hI
  have hit := kit_is (D.has (.head _))
  obtain ⟨vs, hd, hkv⟩ := dcAt_of (D.drop.rd (hl i l hJ))
  have hlen : vs.length = kvs.length := by rw [← hkv, List.length_map]
  rw [← hlen] at hit
  cases n with
  | zero =>
    refine wpAny_pyNext_dict_end hA hit hd (by rw [List.getElem?_eq_none_iff]; omega) fun h' he => ?_
    refine wpAny_execs_nil (done l _ (by have : i = kvs.length := by omega
                                         rw [← this]; exact hJ) (D.dropExt he))
  | succ n =>
    have hi : i < vs.length := by omega
    obtain ⟨⟨k, v⟩, hkv'⟩ : ∃ p, vs[i]? = some p := ⟨_, List.getElem?_eq_getElem hi⟩
    refine wpAny_pyNext_dict_item hit hd hkv' fun key h' hk hit' hs' => ?_
    obtain ⟨t, rfl⟩ := Value.isStrOf_shape hk
    rw [hlen] at hit'
    have D' : In B ((it, KIt d (i + 1) kvs.length ep) :: l) { s with heap := h', toks := s.toks } := D.upd (.head rfl) hs' (is_kit hit')
    have hxi : (kvs.map (·.1))[i]? = some k := by rw [← hkv, List.map_map, List.getElem?_map, hkv']; rfl
    refine noE (wpAny_mono (turn i _ l _ t hxi hJ D') (fun _ s₂ h₂ => wpAny_mono h₂ (fun f s₃ h₃ => ?_) fun _ _ x => x.elim) fun _ _ x => x)
    cases f with
    | next => obtain ⟨l', h1, h2⟩ := h₃; exact ⟨n, by omega, i + 1, l', by omega, h1, h2⟩
    | cont => obtain ⟨l', h1, h2⟩ := h₃; exact ⟨n, by omega, i + 1, l', by omega, h1, h2⟩
    | brk => exact h₃
    | ret v => exact h₃
end
structure Nd where
  nm : Str
  x : Addr
  d : Addr
  sc : Addr
  np : Int
  su : List Str
noncomputable def Nd.ins (n : Nd) : C := Ins 62 n.d [some (.str n.nm), some (.int n.np), some (.ref n.sc)]
noncomputable def Nd.lst (n : Nd) : C := Lst (n.su.map V.str)
noncomputable def Nd.rows (n : Nd) : List (Addr × C) := [(n.x, n.ins), (n.d, Ida []), (n.sc, n.lst)]
noncomputable def rowsN (ns : List Nd) : List (Addr × C) := ns.flatMap Nd.rows
noncomputable def dictN (ns : List Nd) : List (Str × V) := ns.map fun n => (n.nm, .ref n.x)
noncomputable def modN (k : Str) (f : Nd → Nd) (ns : List Nd) : List Nd := ns.map fun n => if n.nm = k then f n else n

theorem rowsN_append (a b : List Nd) : rowsN (a ++ b) = rowsN a ++ rowsN b := List.flatMap_append
theorem rowsN_cons (n : Nd) (b : List Nd) : rowsN (n :: b) = n.rows ++ rowsN b := rfl
theorem mem_ins {ns : List Nd} {n : Nd} (h : n ∈ ns) : (n.x, n.ins) ∈ rowsN ns := List.mem_flatMap.mpr ⟨n, h, .head _⟩
theorem mem_ida {ns : List Nd} {n : Nd} (h : n ∈ ns) : (n.d, Ida []) ∈ rowsN ns := List.mem_flatMap.mpr ⟨n, h, .tail _ (.head _)⟩
theorem mem_lst {ns : List Nd} {n : Nd} (h : n ∈ ns) : (n.sc, n.lst) ∈ rowsN ns := List.mem_flatMap.mpr ⟨n, h, .tail _ (.tail _ (.head _))⟩
theorem modN_nm {k : Str} {f : Nd → Nd} (hf : ∀ n, (f n).nm = n.nm) (ns : List Nd) : (modN k f ns).map Nd.nm = ns.map Nd.nm := by
  unfold modN; rw [List.map_map]; refine List.map_congr_left fun n _ => ?_
  show (if n.nm = k then f n else n).nm = n.nm
  split
  · exact hf n
  · rfl
theorem modN_none {k : Str} {f : Nd → Nd} {ns : List Nd} (h : k ∉ ns.map Nd.nm) : modN k f ns = ns := by
  unfold modN
  have : ∀ n ∈ ns, (if n.nm = k then f n else n) = id n := fun n hn => by
    rw [if_neg]; rfl
    rintro rfl; exact h (List.mem_map_of_mem hn)
  rw [List.map_congr_left this, List.map_id]
theorem up_np {ns : List Nd} {n : Nd} (nd : (ns.map Nd.nm).Nodup) (h : n ∈ ns) (p : Int) : Up n.x n.ins ({ n with np := p } : Nd).ins (rowsN ns) (rowsN (modN n.nm (fun m => { m with np := p }) ns)) := by
  induction ns with
  | nil => cases h
  | cons m ns ih =>
    rw [List.map_cons, List.nodup_cons] at nd
    rcases List.mem_cons.mp h with rfl | h
    · have e : modN n.nm (fun m => { m with np := p }) (n :: ns) = { n with np := p } :: ns := by
        show (if n.nm = n.nm then { n with np := p } else n) :: modN n.nm (fun m => { m with np := p }) ns = _
        rw [if_pos rfl, modN_none nd.1]
      rw [e]; exact .head rfl
    · have hne : m.nm ≠ n.nm := fun e => nd.1 (e ▸ List.mem_map_of_mem h)
      have e : modN n.nm (fun m => { m with np := p }) (m :: ns) = m :: modN n.nm (fun m => { m with np := p }) ns := by
        show (if m.nm = n.nm then { m with np := p } else m) :: modN n.nm (fun m => { m with np := p }) ns = _
        rw [if_neg hne]
      rw [e, rowsN_cons, rowsN_cons]; exact (ih nd.2 h).app2 _
theorem up_su {ns : List Nd} {n : Nd} (nd : (ns.map Nd.nm).Nodup) (h : n ∈ ns) (y : Str) : Up n.sc n.lst (Lst (n.su.map V.str ++ [V.str y])) (rowsN ns) (rowsN (modN n.nm (fun m => { m with su := m.su ++ [y] }) ns)) := by
  induction ns with
  | nil => cases h
  | cons m ns ih =>
    rw [List.map_cons, List.nodup_cons] at nd
    rcases List.mem_cons.mp h with rfl | h
    · have e : modN n.nm (fun m => { m with su := m.su ++ [y] }) (n :: ns) = { n with su := n.su ++ [y] } :: ns := by
        show (if n.nm = n.nm then { n with su := n.su ++ [y] } else n) :: modN n.nm (fun m => { m with su := m.su ++ [y] }) ns = _
        rw [if_pos rfl, modN_none nd.1]
      rw [e, rowsN_cons, rowsN_cons]
      have e2 : (n.su ++ [y]).map V.str = n.su.map V.str ++ [V.str y] := by simp
      show Up n.sc n.lst _ ((n.x, n.ins) :: (n.d, Ida []) :: (n.sc, n.lst) :: rowsN ns) ((n.x, n.ins) :: (n.d, Ida []) :: (n.sc, Lst ((n.su ++ [y]).map V.str)) :: rowsN ns)
      rw [e2]
      exact .tail (.tail (.head rfl))
    · have hne : m.nm ≠ n.nm := fun e => nd.1 (e ▸ List.mem_map_of_mem h)
      have e : modN n.nm (fun m => { m with su := m.su ++ [y] }) (m :: ns) = m :: modN n.nm (fun m => { m with su := m.su ++ [y] }) ns := by
        show (if m.nm = n.nm then { m with su := m.su ++ [y] } else m) :: modN n.nm (fun m => { m with su := m.su ++ [y] }) ns = _
        rw [if_neg hne]
      rw [e, rowsN_cons, rowsN_cons]; exact (ih nd.2 h).app2 _
theorem dictN_lookup {ns : List Nd} (k : Str) : (∃ n ∈ ns, n.nm = k ∧ (dictN ns).lookup k = some (.ref n.x)) ∨ (k ∉ ns.map Nd.nm ∧ (dictN ns).lookup k = none) := by
  induction ns with
  | nil => exact .inr ⟨List.not_mem_nil, rfl⟩
  | cons m ns ih =>
    by_cases h : m.nm = k
    · subst h; exact .inl ⟨m, .head _, rfl, by show List.lookup _ ((_, _) :: _) = _; simp [List.lookup]⟩
    · have hb : (k == m.nm) = false := by simpa using Ne.symm h
      have e : (dictN (m :: ns)).lookup k = (dictN ns).lookup k := by
        show List.lookup k ((m.nm, _) :: dictN ns) = _
        simp [List.lookup, hb]
      rw [e]
      rcases ih with ⟨n, h1, h2, h3⟩ | ⟨h1, h2⟩
      · exact .inl ⟨n, .tail _ h1, h2, h3⟩
      · refine .inr ⟨?_, h2⟩
        rw [List.map_cons, List.mem_cons, not_or]
        exact ⟨Ne.symm h, h1⟩

section
variable {prog : Program} {w : World} {A : Around} {E : Value → Shared → Prop} {s B : Shared} {l l' : List (Addr × C)} {env : Env} {mg mb : Str → Option Value}

theorem is_none_ref {M : Model} {a : Addr} {Q : Value → Shared → Prop} (h : Q (.bool false) s) : wpAny M A (compareOp .Is (.ref a) .none) Q E s := wpAny_is_other rfl (by intro h; cases h) h
theorem is_none_none {M : Model} {Q : Value → Shared → Prop} (h : Q (.bool true) s) : wpAny M A (compareOp .Is .none .none) Q E s := wpAny_is_self rfl h
theorem isnot_none_ref {M : Model} {a : Addr} {Q : Value → Shared → Prop} (h : Q (.bool true) s) : wpAny M A (compareOp .IsNot (.ref a) .none) Q E s := wpAny_isNot_other rfl (by intro h; cases h) h
theorem isnot_none_none {M : Model} {Q : Value → Shared → Prop} (h : Q (.bool false) s) : wpAny M A (compareOp .IsNot .none .none) Q E s := wpAny_isNot_self rfl h
theorem r_int {M : Model} {i : Int} {kk : Nat} {pos : Pos} {Q : Value → Shared → Prop} (D : In B l s) (k : ∀ t s', In B l s' → Q (.int i t) s') : wpAny M A (eval (.Constant (.int i) kk pos) env) Q E s := wpAny_Constant_int (k _ _ D.tk)
theorem r_strC {M : Model} {x : Str} {kk : Nat} {pos : Pos} {Q : Value → Shared → Prop} (D : In B l s) (k : ∀ t s', In B l s' → Q (.str x t) s') : wpAny M A (eval (.Constant (.str x) kk pos) env) Q E s := wpAny_Constant_str (k _ _ D.tk)
theorem r_dict0 {M : Model} {pos : Pos} {Q : Value → Shared → Prop} (G : Gd w mg mb B) (D : In B l s) (k : ∀ n s', (n == sysModules) = false → In B ((n, Dc prog w none []) :: l) s' → Q (.ref n) s') : wpAny M A (eval (.Dict [] [] pos) env) Q E s :=
  wpAny_Dict_empty (k _ _ (notSys G D) (D.push (tk := s.toks) rfl ⟨#[], 0, [], ⟨rfl, rfl, rfl⟩, rfl, fun _ he => by simp at he, Pairs.nil, List.nodup_nil, rfl, fun _ h => nomatch h⟩))

set_option maxRecDepth 100000 in
theorem node_init {x d : Addr} {k : Str} {t : Tok} {R : Result → Shared → Prop} (G : Gd w mg mb B) (D : In B ((x, Ins 62 d []) :: (d, Ida []) :: l) s) (hd : A.depth < 900)
    (h : ∀ sc s', In B ((x, Ins 62 d [some (.str k), some (.int 0), some (.ref sc)]) :: (d, Ida []) :: (sc, Lst []) :: l) s' → R (.ok (.ret .none)) s') :
    codeAny (model prog w) A (.call (.ref 58) ⟨[.ref x, .str k t], []⟩) R s := by
  refine r_enter ["self", "node"] [.ref x, .str k t] [("self", .ref x), ("node", .str k)] G D (by rfl) (by rfl) (by show A.depth < 1000; omega) (BindsTo.of_eq rfl) (by rfl) (by decide) rfl ?_
  intro L A' s' hd' hu' hh' hf' D
  refine noE (wpAny_execs_cons (plainObj_wpAny_Assign_Attribute ?_))
  tm_at "nm"
  tm_at "nm"
  refine r_setS G D (.tail _ (.tail _ (.head _))) (.tail (.head rfl)) (by rfl) (by rfl) (by rfl) (by rfl) (by rfl) (by decide) fun s D => ?_
  refine wpAny_execs_cons (plainObj_wpAny_Assign_Attribute (r_int D fun t s D => ?_))
  tm_at "nm"
  refine r_setS G D (.tail _ (.tail _ (.head _))) (.tail (.head rfl)) (by rfl) (by rfl) (by rfl) (by rfl) (by rfl) (by decide) fun s D => ?_
  refine wpAny_execs_cons (plainObj_wpAny_Assign_Attribute (r_list0 D fun n s D => ?_))
  tm_at "nm"
  refine r_setS G D (.tail _ (.tail _ (.tail _ (.head _)))) (.tail (.tail (.head rfl))) (by rfl) (by rfl) (by rfl) (by rfl) (by rfl) (by decide) fun s D => ?_
  refine wpAny_execs_nil (h n s ?_)
  refine D.sub ?_ ?_
  · intro p hp
    rcases List.mem_cons.mp hp with rfl | hp
    · exact .tail _ (.tail _ (.head _))
    · rcases List.mem_cons.mp hp with rfl | hp
      · exact .tail _ (.tail _ (.tail _ (.head _)))
      · rcases List.mem_cons.mp hp with rfl | hp
        · exact .head _
        · exact .tail _ (.tail _ (.tail _ (.tail _ hp)))
  · have nd := D.nd
    simp only [List.map_cons, List.nodup_cons, List.mem_cons, not_or] at nd ⊢
    simp_all
    exact ⟨fun e => nd.1.2.1 e.symm, fun e => nd.1.2.2.1 e.symm⟩
end
theorem len_set {x : Str} {v : V} {m : List (Str × V)} {n : Nat} (h : m.length ≤ n) : (setL x v m).length ≤ n + 1 := by rw [setL_length]; split <;> omega
section
variable {prog : Program} {w : World} {A : Around} {E : Value → Shared → Prop} {s B : Shared} {l l' : List (Addr × C)} {env : Env} {mg mb : Str → Option Value}
theorem In.mvA {p : Addr × C} (r : List (Addr × C)) (D : In B (p :: (r ++ l)) s) : In B (r ++ p :: l) s := D.perm List.perm_middle
theorem In.mv1 {p a : Addr × C} (D : In B (p :: a :: l) s) : In B (a :: p :: l) s := D.mvA [a]
theorem In.mv2 {p a b : Addr × C} (D : In B (p :: a :: b :: l) s) : In B (a :: b :: p :: l) s := D.mvA [a, b]
theorem In.mv3 {p a b c : Addr × C} (D : In B (p :: a :: b :: c :: l) s) : In B (a :: b :: c :: p :: l) s := D.mvA [a, b, c]
theorem In.mv4 {p a b c d : Addr × C} (D : In B (p :: a :: b :: c :: d :: l) s) : In B (a :: b :: c :: d :: p :: l) s := D.mvA [a, b, c, d]

theorem r_enterB {R : Result → Shared → Prop} {name qual : Str} {params : Arguments} {body : List Stmt} {scope : Scope} {dV kV doc pm cdv ct oc : Value} {an od : Option Addr} {osl : Array (Option Value)} {f : Addr} {args : Args}
    (names : List Str)
    (G : Gd w mg mb B) (D : In B l s)
    (ho : (KF w).lookup f = some ⟨oc, od, .func (fnOf name qual params body scope dV kV doc pm an cdv ct), osl⟩) (hcd : codeIn (KF w) cdv qual = true) (hroom : A.depth < recursionLimit)
    (Bd : List Value → List (Addr × C) → Prop)
    (hbind : ∀ (A₁ : Around) (E₁ : Value → Shared → Prop) (Q : List (Str × Value) → Shared → Prop), (∀ vals l₁ s₁, Bd vals l₁ → In B l₁ s₁ → Q (names.zip vals) s₁) → wpAny (model prog w) A₁ (bindArgs (fnOf name qual params body scope dV kV doc pm an cdv ct) args) Q E₁ s)
    (hloc : (names.all fun x => decide (scope.names.lookup x = some .local)) = true) (hnd : names.Nodup)
    (h : ∀ vals l₁ L A' s', Bd vals l₁ → A'.depth = A.depth + 1 → A'.units = A.units + 3 → A'.handled = A.handled → A'.frames = A.frames.map (envOf qual scope L f cdv :: ·) →
      In B ((L, Nsp ((names.zip vals).map fun p => (p.1, er p.2))) :: l₁) s' →
      wpAny (model prog w) A' (execs body (envOf qual scope L f cdv)) (fun fl s' => R (.ok (.ret (match fl with | .ret v => v | _ => .none))) s')
        (fun e s' => wpAny (model prog w) A' (leaving (envOf qual scope L f cdv) e) (fun _ s'' => R (.error e) s'') (fun e' s'' => R (.error e') s'') s') s')
    (hco : scope.isCoroutine = false := by rfl) (hgen : scope.isGenerator = false := by rfl) (hk : scope.kind = .function := by rfl)
    (hcell : ∀ x ∈ scope.names, x.2 ≠ .cell := by decide) : codeAny (model prog w) A (.call (.ref f) args) R s := by
  have kx := G.kx.keeps D.keep
  refine codeAny_call_function (fd := fnOf name qual params body scope dV kV doc pm an cdv ct) (body := body) hroom (kx _ _ ho) rfl hco hgen rfl (codeRec_of kx hcd) ?_
  refine hbind _ _ _ fun vals l₁ s₁ hB D => ?_
  have hnd' : ((names.zip vals).map (·.1)).Nodup := hnd.sublist (zip_fst_sublist names vals)
  have hloc' : ∀ x ∈ names.zip vals, scope.names.lookup x.1 = some .local := fun x hx => of_decide_eq_true (List.all_eq_true.mp hloc x.1 (List.of_mem_zip hx).1)
  refine wpAny_newFunctionEnv hcell hloc' (fun h₁ hns hsb => ⟨(G.lim.keeps D.keep).fresh _ hsb, codeAny_func ?_⟩) hk
  have hk₁ : ∀ b o, s₁.heap.get? b = some o → h₁.get? b = some o := fun b o e => hsb.extBut b o (Nat.ne_of_lt (Heap.lt_size e)) (Heap.get?_push_of_some _ e)
  refine h vals l₁ s₁.heap.objs.size _ _ hB rfl rfl rfl rfl ?_
  refine D.add (tk := s₁.toks + (names.zip vals).length) hk₁ (Heap.get?_none_of_le (Nat.le_refl _)) (ns_has hns fun p hp => ?_)
  obtain ⟨q, hq, rfl⟩ := List.mem_map.mp hp
  show ((names.zip vals).reverse.lookup q.1).map er = _
  rw [lookup_rev hnd' q hq]; rfl

theorem binds_peek {s : Shared} {fd : FuncData} {args : Args} {binds : List (Str × Value)} (X : (KF w).In s.heap) (e : ∀ S, peek (KF w) S (bindArgs fd args) = some binds) : BindsTo s fd args binds :=
  fun M _ _ _ q => (Looks.of_peek (M := M) X (e _)).here q

theorem bind_var1 {fd : FuncData} {a1 va : Arg} {kd : List (Option Expr)} {ds : List Expr} {v1 : Value} {vs : List Value} (hp : fd.params = ⟨[], [a1], some va, [], kd, none, ds⟩) (hd : fd.defaults = .none) :
    bindArgs fd ⟨v1 :: vs, []⟩ = (newTuple vs >>= fun t => pure [(a1.arg, v1), (va.arg, t)]) := by
  unfold bindArgs
  rw [hp, hd]
  simp [seqItems?, List.lookup]
  rfl
theorem bind_var2 {fd : FuncData} {a1 a2 va : Arg} {kd : List (Option Expr)} {ds : List Expr} {v1 v2 : Value} {vs : List Value} (hp : fd.params = ⟨[], [a1, a2], some va, [], kd, none, ds⟩) (hd : fd.defaults = .none) (hne : (a2.arg == a1.arg) = false) :
    bindArgs fd ⟨v1 :: v2 :: vs, []⟩ = (newTuple vs >>= fun t => pure [(a1.arg, v1), (a2.arg, v2), (va.arg, t)]) := by
  unfold bindArgs
  rw [hp, hd]
  simp [seqItems?, List.lookup, hne]
  rfl
end
local macro_rules | `(tactic| tm_at "ln") => `(tactic| first | decide | (apply len_set; tm_at "ln"))
section
variable {prog : Program} {w : World} {A : Around} {E : Value → Shared → Prop} {s B : Shared} {l l' : List (Addr × C)} {env : Env} {mg mb : Str → Option Value}

noncomputable def sorM (n2i : Addr) (rdy : V) (po nf : Int) : List (Str × V) := [("_node2info", .ref n2i), ("_ready_nodes", rdy), ("_npassedout", .int po), ("_nfinished", .int nf)]
noncomputable def SorL (prog : Program) (w : World) (x d n2i : Addr) (rdy : V) (po nf : Int) (ns : List Nd) (l : List (Addr × C)) : List (Addr × C) :=
  (x, Ins 159 d []) :: (d, Ida (sorM n2i rdy po nf)) :: (n2i, Dc prog w none (dictN ns)) :: (rowsN ns ++ l)

set_option maxRecDepth 100000 in
theorem sorter_make {R : Result → Shared → Prop} (G : Gd w mg mb B) (D : In B l s) (hd : A.depth < 800)
    (h : ∀ x d n2i s', (n2i == sysModules) = false → In B (SorL prog w x d n2i .none 0 0 [] l) s' → R (.ok (.ret (.ref x))) s') :
    codeAny (model prog w) A (.call (.ref 159) ⟨[], []⟩) R s := by
  refine r_make G D (by rfl) (by rfl) (by rfl) fun x d A' s hd' hu' hh' hf' D => ?_
  refine r_enter ["self", "graph"] [.ref x, .none] [("self", .ref x), ("graph", .none)] G D (by rfl) (by rfl) (by show A'.depth < 1000; omega) (binds_peek (G.kx.keeps D.keep) fun S => by rfl) (by rfl) (by decide) rfl ?_
  intro L A'' s hd'' hu'' hh'' hf'' D
  refine noE (wpAny_execs_cons (plainObj_wpAny_Assign_Attribute (r_dict0 (prog := prog) G D fun n s hn D => ?_)))
  tm_at "nm"
  refine r_setI G D (by tm_at "mem") (by tm_at "up") (by rfl) (by rfl) (by rfl) (by rfl) (by tm_at "ln") fun s D => ?_
  refine wpAny_execs_cons (plainObj_wpAny_Assign_Attribute (wpAny_Constant_none ?_))
  tm_at "nm"
  refine r_setI G D (by tm_at "mem") (by tm_at "up") (by rfl) (by rfl) (by rfl) (by rfl) (by tm_at "ln") fun s D => ?_
  refine wpAny_execs_cons (plainObj_wpAny_Assign_Attribute (r_int D fun t s D => ?_))
  tm_at "nm"
  refine r_setI G D (by tm_at "mem") (by tm_at "up") (by rfl) (by rfl) (by rfl) (by rfl) (by tm_at "ln") fun s D => ?_
  refine wpAny_execs_cons (plainObj_wpAny_Assign_Attribute (r_int D fun t s D => ?_))
  tm_at "nm"
  refine r_setI G D (by tm_at "mem") (by tm_at "up") (by rfl) (by rfl) (by rfl) (by rfl) (by tm_at "ln") fun s D => ?_
  refine wpAny_execs_cons (wpAny_If (wpAny_isTrue_Compare1 ?_))
  tm_at "nm"
  refine wpAny_Constant_none (isnot_none_none (r_truth ?_))
  refine wpAny_execs_nil (wpAny_execs_nil ⟨rfl, h x d n s hn ?_⟩)
  exact D.mv3.drop
end
section
variable {prog : Program} {w : World} {A : Around} {E : Value → Shared → Prop} {s B : Shared} {l l' : List (Addr × C)} {env : Env} {mg mb : Str → Option Value}

theorem r_assignSub {M : Model} {o i : Expr} {pos : Pos} {v : Value} {Q : Unit → Shared → Prop}
    (h : wpAny M A (eval o env) (fun ov s₂ => wpAny M A (eval i env) (fun iv s₃ => wpAny M A (setItem ov iv v) (fun _ => Q ()) E s₃) E s₂) E s) : wpAny M A (assign (.Subscript o i pos) env v) Q E s := by
  rw [assign_Subscript]
  refine wpAny_bind (wpAny_holding (wpAny_mono h (fun ov s₂ h₂ => wpAny_bind (wpAny_holding (wpAny_mono h₂ (fun iv s₃ h₃ => wpAny_bind (wpAny_standAt (wpAny_bind (wpAny_holding (wpAny_mono h₃ (fun _ s₄ h₄ => wpAny_release h₄) fun _ _ x => x))))) fun _ _ x => x))) fun _ _ x => x))

theorem r_callK {x : Str} {np pos : Pos} {e : Expr} {rest : List Expr} {f : Value} {Q : Value → Shared → Prop} (G : Gd w mg mb B) (D : In B l s)
    (hx : nsIn (KF w) mainGlobals x = some (some f)) (hkp : keepIn (KF w) f = true)
    (h : wpAny (model prog w) A (spliced (backTo pos (starEach (e :: rest) env))) (fun vs s₁ => (∃ l₁, In B l₁ s₁) ∧ codeAny (model prog w) A (.call f ⟨vs, []⟩) (fun r s' => match r with | .ok (.ret v) => Q v s' | .ok _ => False | .error e => E e s') s₁) E s)
    (hk : env.scope.kind = .function := by rfl) (hl : env.kindOf x = some .globalImplicit := by rfl) (hg : env.globals = mainGlobals := by rfl)
    (hdb : (x == ("__debug__" : Str)) = false := by decide)
    (he : starEach (e :: rest) env = (false, eval e env) :: starEach rest env := by rfl) (hpl : (backTo pos (starEach rest env)).any (·.1) = false := by rfl) :
    wpAny (model prog w) A (eval (.Call (.Name x np) (e :: rest) [] pos) env) Q E s := by
  refine wpAny_Call_ofName (wpAny_Name (r_glob G D hx ?_ hk hl hg) hdb)
  show wpAny (model prog w) A (callWith pos f [] (backTo pos (starEach (e :: rest) env)) []) Q E s
  refine callWith_K (G.kx.keeps D.keep) hkp (wpAny_mono h (fun vs s₁ h₁ => ?_) fun _ _ x => x) he hpl
  obtain ⟨⟨l₁, D₁⟩, hc⟩ := h₁
  exact ⟨G.kx.keeps D₁.keep, wpAny_call hc⟩
theorem r_callK0 {x : Str} {np pos : Pos} {f : Value} {Q : Value → Shared → Prop} (G : Gd w mg mb B) (D : In B l s)
    (hx : nsIn (KF w) mainGlobals x = some (some f)) (hkp : keepIn (KF w) f = true)
    (hc : codeAny (model prog w) A (.call f ⟨[], []⟩) (fun r s' => match r with | .ok (.ret v) => Q v s' | .ok _ => False | .error e => E e s') s)
    (hk : env.scope.kind = .function := by rfl) (hl : env.kindOf x = some .globalImplicit := by rfl) (hg : env.globals = mainGlobals := by rfl)
    (hdb : (x == ("__debug__" : Str)) = false := by decide) :
    wpAny (model prog w) A (eval (.Call (.Name x np) [] [] pos) env) Q E s := by
  refine wpAny_Call_ofName (wpAny_Name (r_glob G D hx ?_ hk hl hg) hdb)
  show wpAny (model prog w) A (callWith pos f [] (backTo pos (starEach [] env)) []) Q E s
  exact callWith_K0 (G.kx.keeps D.keep) hkp (wpAny_call hc)

theorem dictN_snoc (ns : List Nd) (n : Nd) : dictN (ns ++ [n]) = dictN ns ++ [(n.nm, .ref n.x)] := by simp [dictN]
theorem dictN_keys (ns : List Nd) : (dictN ns).map (·.1) = ns.map Nd.nm := by simp [dictN]
theorem dictN_mod (k : Str) (f : Nd → Nd) (hf : ∀ n, (f n).nm = n.nm ∧ (f n).x = n.x) (ns : List Nd) : dictN (modN k f ns) = dictN ns := by
  unfold dictN modN; rw [List.map_map]; refine List.map_congr_left fun n _ => ?_
  show ((if n.nm = k then f n else n).nm, V.ref (if n.nm = k then f n else n).x) = _
  split
  · rw [(hf n).1, (hf n).2]
  · rfl

theorem In.toEnd {p : Addr × C} (a b q : List (Addr × C)) (D : In B (a ++ (p :: (b ++ (q ++ l)))) s) : In B (b ++ (q ++ (a ++ l))) s := by
  have D1 : In B (a ++ (b ++ (q ++ l))) s := D.sublist (List.Sublist.append (.refl a) (List.sublist_cons_self _ _))
  exact D1.perm ((List.Perm.append_left b (List.perm_append_comm_assoc _ _ _)).trans (List.perm_append_comm_assoc _ _ _))
noncomputable def Ens (k : Str) (ns ns' : List Nd) (n : Nd) : Prop := n ∈ ns' ∧ n.nm = k ∧ (ns' = ns ∨ (k ∉ ns.map Nd.nm ∧ ns' = ns ++ [n] ∧ n.np = 0 ∧ n.su = []))
theorem Ens.nodup {k : Str} {ns ns' : List Nd} {n : Nd} (h : Ens k ns ns' n) (nd : (ns.map Nd.nm).Nodup) : (ns'.map Nd.nm).Nodup := by
  obtain ⟨_, hk, rfl | ⟨h1, rfl, _⟩⟩ := h
  · exact nd
  · rw [List.map_append, List.map_cons, List.map_nil, hk]
    exact List.nodup_append.mpr ⟨nd, by simp, fun a ha b hb => by simp at hb; subst hb; rintro rfl; exact h1 ha⟩
theorem Ens.len {k : Str} {ns ns' : List Nd} {n : Nd} (h : Ens k ns ns' n) : ns'.length ≤ ns.length + 1 := by
  obtain ⟨_, hk, rfl | ⟨h1, rfl, _⟩⟩ := h <;> simp

set_option maxRecDepth 100000 in
theorem getinfo_spec {x d n2i : Addr} {rdy : V} {po nf : Int} {ns : List Nd} {k : Str} {t : Tok} {R : Result → Shared → Prop} (G : Gd w mg mb B) (D : In B (SorL prog w x d n2i rdy po nf ns l) s) (hd : A.depth < 700)
    (hn : (n2i == sysModules) = false) (nd : (ns.map Nd.nm).Nodup) (hlen : ns.length ≤ 90)
    (h : ∀ ns' n s', Ens k ns ns' n → In B (SorL prog w x d n2i rdy po nf ns' l) s' → R (.ok (.ret (.ref n.x))) s') :
    codeAny (model prog w) A (.call (.ref 102) ⟨[.ref x, .str k t], []⟩) R s := by
  refine r_enter ["self", "node"] [.ref x, .str k t] [("self", .ref x), ("node", .str k)] G D (by rfl) (by rfl) (by show A.depth < 1000; omega) (BindsTo.of_eq rfl) (by rfl) (by decide) rfl ?_
  intro L A' s' hd' hu' hh' hf' D
  unfold SorL at D
  refine noE (wpAny_execs_cons (wpAny_If (wpAny_isTrue_Compare1 (wpAny_NamedExpr (r_callAttr (Attribute_any_ ?_))))))
  tm_at "nm"
  refine r_getI G D (by tm_at "mem") (by tm_at "mem") rfl (by rfl) (by rfl) (by rfl) (by rfl) (by intro i h; cases h) fun u s hu D => ?_
  obtain rfl := er_ref hu
  refine r_methDict D (.inl (by tm_at "mem")) F.slot_dict_get F.type_dict_get ?_
  refine callWith_one ?_
  tm_at "nm"
  refine r_dget D (.inl (by tm_at "mem")) hn fun u s hu D => ?_
  refine wpAny_assign_Name (r_store D (by tm_at "up") fun s D => ?_)
  refine wpAny_Constant_none ?_
  rcases dictN_lookup (ns := ns) k with ⟨n, hm, hk, hl⟩ | ⟨hk, hl⟩
  · rw [hl] at hu
    obtain rfl := er_ref hu
    refine is_none_ref (r_truth (wpAny_execs_nil (wpAny_execs_cons (wpAny_Return_some ?_))))
    refine wpAny_Name (r_load D (by tm_at "mem") (v := .ref n.x) (by tm_at "mem") ?_)
    tm_at "inv"
    exact h ns n s ⟨hm, hk, .inl rfl⟩ D.drop
  · rw [hl] at hu
    obtain rfl := er_none hu
    refine is_none_none (r_truth ?_)
    refine wpAny_execs_cons (wpAny_Assign_two (r_callK G D (by rfl) (by rfl) (wpAny_items_cons ?_)))
    tm_at "nm"
    refine wpAny_items_nil ⟨⟨_, D⟩, r_make G D (by rfl) (by rfl) (by rfl) fun xi di A'' s hd'' hu'' hh'' hf'' D => ?_⟩
    refine node_init G D (by omega) fun sc s D => ⟨rfl, ?_⟩
    refine r_assignSub (Attribute_any_ ?_)
    tm_at "nm"
    refine r_getI G D (by tm_at "mem") (by tm_at "mem") rfl (by rfl) (by rfl) (by rfl) (by rfl) (by intro i h; cases h) fun u s hu D => ?_
    obtain rfl := er_ref hu
    tm_at "nm"
    refine r_dset D (by tm_at "up") (by rw [dictN, List.length_map]; omega) fun s D => ?_
    refine wpAny_assign_Name (r_store D (by tm_at "up") fun s D => ?_)
    refine wpAny_execs_nil (wpAny_execs_cons (wpAny_Return_some ?_))
    refine wpAny_Name (r_load D (by tm_at "mem") (v := .ref xi) (by tm_at "mem") ?_)
    tm_at "inv"
    refine h (ns ++ [⟨k, xi, di, sc, 0, []⟩]) ⟨k, xi, di, sc, 0, []⟩ s ⟨by simp, rfl, .inr ⟨hk, rfl, rfl, rfl⟩⟩ ?_
    rw [setL_notMem (by rw [dictN_keys]; exact hk)] at D
    unfold SorL
    rw [dictN_snoc, rowsN_append, List.append_assoc]
    exact In.toEnd [(xi, Ins 62 di [some (.str k), some (.int 0), some (.ref sc)]), (di, Ida []), (sc, Lst [])] [(x, Ins 159 d []), (d, Ida (sorM n2i rdy po nf)), (n2i, Dc prog w none (dictN ns ++ [(k, .ref xi)]))] (rowsN ns) D
end
section
variable {prog : Program} {w : World} {A : Around} {E : Value → Shared → Prop} {s B : Shared} {l l' : List (Addr × C)} {env : Env} {mg mb : Str → Option Value}

theorem r_iadd {a b : Int} {t u : Tok} {Q : Value → Shared → Prop} (D : In B l s) (k : ∀ t s', In B l s' → Q (.int (a + b) t) s') : wpAny (model prog w) A (inplaceOp .Add (.int a t) (.int b u)) Q E s := AutoIntOps.iadd_0 (k _ _ D.tk)
theorem r_isub {a b : Int} {t u : Tok} {Q : Value → Shared → Prop} (D : In B l s) (k : ∀ t s', In B l s' → Q (.int (a - b) t) s') : wpAny (model prog w) A (inplaceOp .Sub (.int a t) (.int b u)) Q E s := AutoIntOps.isub_0 (k _ _ D.tk)
theorem r_addI {a b : Int} {t u : Tok} {Q : Value → Shared → Prop} (D : In B l s) (k : ∀ t s', In B l s' → Q (.int (a + b) t) s') : wpAny (model prog w) A (binaryOp .Add (.int a t) (.int b u)) Q E s := AutoIntOps.add_0 (k _ _ D.tk)
theorem r_lenT {a : Addr} {xs : List V} {Q : Value → Shared → Prop} (D : In B l s) (r : Rd B l a (Tup xs)) (hl : xs.length ≤ 1000) (k : ∀ t s', In B l s' → Q (.int xs.length t) s') : wpAny (model prog w) A (call (.builtin "len") [.ref a]) Q E s := by
  obtain ⟨o, ho, vs, n, rfl, hx⟩ := D.rd r
  have hlen : vs.size = xs.length := by rw [← hx]; simp
  refine P.len_tuple (n := n) ho (by omega) ?_
  rw [hlen]
  exact k _ _ D.tk
theorem r_lenL {a : Addr} {xs : List V} {Q : Value → Shared → Prop} (D : In B l s) (r : Rd B l a (Lst xs)) (hl : xs.length ≤ 1000) (k : ∀ t s', In B l s' → Q (.int xs.length t) s') : wpAny (model prog w) A (call (.builtin "len") [.ref a]) Q E s := by
  obtain ⟨o, ho, vs, n, rfl, hx⟩ := D.rd r
  have hlen : vs.size = xs.length := by rw [← hx]; simp
  refine Calls.call_len_list ⟨_, ho, rfl, n, rfl⟩ (by omega) ?_
  rw [hlen]
  exact k _ _ D.tk
theorem r_callB1 {x : Str} {np pos : Pos} {e : Expr} {id : String} {Q : Value → Shared → Prop} (G : Gd w mg mb B) (D : In B l s) (hx : nsIn (KF w) mainGlobals x = some none) (hb : bootBuiltins x = some (.builtin id))
    (h : wpAny (model prog w) A (eval e env) (fun v s₁ => wpAny (model prog w) A (call (.builtin id) [v]) Q E s₁) E s)
    (hn : x ≠ "__name__" := by decide) (hdb : (x == ("__debug__" : Str)) = false := by decide)
    (hk : env.scope.kind = .function := by rfl) (hl : env.kindOf x = some .globalImplicit := by rfl) (hg : env.globals = mainGlobals := by rfl) (hbn : env.builtins = builtinsNs := by rfl)
    (he : backTo pos (starEach [e] env) = [(false, eval e env)] := by rfl) : wpAny (model prog w) A (eval (.Call (.Name x np) [e] [] pos) env) Q E s :=
  wpAny_Call_ofName (wpAny_Name (r_bi G D hx hb (callWith_one (first := []) h he) hn hk hl hg hbn) hdb)

noncomputable def TIt (t : Addr) (i : Nat) : C := fun o => o.cls = .type "tuple_iterator" ∧ o.data = .fields #[.ref t, .int i 0]
theorem tit_is {h : Heap} {it a : Addr} {i : Nat} (x : Has h it (TIt a i)) : h.IsTupleIter it a i := let ⟨o, ho, h1, h2⟩ := x; ⟨o, ho, h1, h2⟩
theorem is_tit {h : Heap} {it a : Addr} {i : Nat} (x : h.IsTupleIter it a i) : Has h it (TIt a i) := let ⟨o, ho, h1, h2⟩ := x; ⟨o, ho, h1, h2⟩
theorem r_iterT {a : Addr} {xs : List V} {Q : Value → Shared → Prop} (D : In B l s) (r : Rd B l a (Tup xs)) (k : ∀ it s', In B ((it, TIt a 0) :: l) s' → Q (.ref it) s') : wpAny (model prog w) A (pyIter (.ref a)) Q E s := by
  obtain ⟨o, ho, vs, n, rfl, hx⟩ := D.rd r
  exact wpAny_pyIter_tuple ⟨_, ho, rfl, n, rfl⟩ (k _ _ (D.push rfl ⟨rfl, rfl⟩))
theorem r_forTup {target : Expr} {body : List Stmt} {a it : Addr} {xs : List V} {Q : Flow → Shared → Prop} (J : Nat → List (Addr × C) → Prop) {l₀ : List (Addr × C)} (hA : A.handled = none)
    (hl : ∀ i l, J i l → Rd B l a (Tup xs)) (h0 : J 0 l₀) (D : In B ((it, TIt a 0) :: l₀) s)
    (turn : ∀ i x l s v, xs[i]? = some x → J i l → er v = x → In B ((it, TIt a (i + 1)) :: l) s →
      wpAny (model prog w) A (assign target env v) (fun _ s₂ => wpAny (model prog w) A (execs body env) (After (fun s₃ => ∃ l', J (i + 1) l' ∧ In B ((it, TIt a (i + 1)) :: l') s₃) Q) NoE s₂) NoE s)
    (done : ∀ l s, J xs.length l → In B l s → Q .next s) (ht : ∀ v, letOwnedTupleGo target (.ref it) v = pure () := by intro _; rfl) :
    codeAny (model prog w) A (.forLoop target (.ref it) body [] env) (fun r s' => match r with | .ok f => Q f s' | .error e => cameBackBy (model prog w) A env E e s') s := by
  refine codeAny_forLoop (fun n s => ∃ i l, i + n = xs.length ∧ J i l ∧ In B ((it, TIt a i) :: l) s) (fun n s hI => ?_) xs.length ⟨0, l₀, by omega, h0, D⟩ ht
  obtain ⟨i, l, hn, hJ, D⟩ := hI
  have hit := tit_is (D.has (.head _))
  obtain ⟨o, ho, vs, k, rfl, hx⟩ := D.drop.rd (hl i l hJ)
  have hls : s.heap.IsTuple a vs := ⟨_, ho, rfl, k, rfl⟩
  have hlen : vs.size = xs.length := by rw [← hx]; simp
  cases n with
  | zero =>
    refine wpAny_pyNext_tuple_end (items := vs) hA hit hls (by rw [Array.getElem?_eq_none_iff]; omega) fun h' he => ?_
    exact wpAny_execs_nil (done l _ (by have : i = xs.length := by omega
                                        rw [← this]; exact hJ) (D.dropExt he))
  | succ n =>
    have hi : i < vs.size := by omega
    refine wpAny_pyNext_tuple_item (items := vs) (x := vs[i]) hit hls (by simp [hi]) fun h' hit' hs' => ?_
    have D' : In B ((it, TIt a (i + 1)) :: l) { s with heap := h', toks := s.toks } := D.upd (.head rfl) hs' (is_tit hit')
    have hxi : xs[i]? = some (er vs[i]) := by rw [← hx]; simp [hi]
    refine noE (wpAny_mono (turn i _ l _ _ hxi hJ rfl D') (fun _ s₂ h₂ => wpAny_mono h₂ (fun f s₃ h₃ => ?_) fun _ _ x => x.elim) fun _ _ x => x)
    cases f with
    | next => obtain ⟨l', h1, h2⟩ := h₃; exact ⟨n, by omega, i + 1, l', by omega, h1, h2⟩
    | cont => obtain ⟨l', h1, h2⟩ := h₃; exact ⟨n, by omega, i + 1, l', by omega, h1, h2⟩
    | brk => exact h₃
    | ret v => exact h₃
theorem r_newTuple {M : Model} {vs : List Value} {Q : Value → Shared → Prop} (D : In B l s) (hsz : vs.length ≤ 1000) (k : ∀ n s', In B ((n, Tup (vs.map er)) :: l) s' → Q (.ref n) s') : wpAny M A (newTuple vs) Q E s := by
  unfold newTuple
  refine wpAny_newObj_type (k _ _ (D.push (tk := s.toks) rfl ⟨vs.toArray, 0, rfl, by simp⟩)) ?_
  show (vs.toArray.size ≤ sizeLine)
  rw [sizeLine_eq]; simp; omega
end

theorem In.sorIn {prog : Program} {w : World} {B s : Shared} {l : List (Addr × C)} {x d n2i : Addr} {rdy : V} {po nf : Int} {ns : List Nd} (a : List (Addr × C)) (D : In B (a ++ SorL prog w x d n2i rdy po nf ns l) s) : In B (SorL prog w x d n2i rdy po nf ns (a ++ l)) s :=
  D.perm (List.Perm.symm ((List.perm_append_comm_assoc a [(x, Ins 159 d []), (d, Ida (sorM n2i rdy po nf)), (n2i, Dc prog w none (dictN ns))] (rowsN ns ++ l)).trans (List.Perm.append_left [(x, Ins 159 d []), (d, Ida (sorM n2i rdy po nf)), (n2i, Dc prog w none (dictN ns))] (List.perm_append_comm_assoc a (rowsN ns) l))))
theorem In.sorOut {prog : Program} {w : World} {B s : Shared} {l : List (Addr × C)} {x d n2i : Addr} {rdy : V} {po nf : Int} {ns : List Nd} (a : List (Addr × C)) (D : In B (SorL prog w x d n2i rdy po nf ns (a ++ l)) s) : In B (a ++ SorL prog w x d n2i rdy po nf ns l) s :=
  D.perm ((List.perm_append_comm_assoc a [(x, Ins 159 d []), (d, Ida (sorM n2i rdy po nf)), (n2i, Dc prog w none (dictN ns))] (rowsN ns ++ l)).trans (List.Perm.append_left [(x, Ins 159 d []), (d, Ida (sorM n2i rdy po nf)), (n2i, Dc prog w none (dictN ns))] (List.perm_append_comm_assoc a (rowsN ns) l)))
noncomputable abbrev GS := List (Str × Int × List Str)
noncomputable def abs (ns : List Nd) : GS := ns.map fun n => (n.nm, n.np, n.su)
noncomputable def ensG (k : Str) (g : GS) : GS := if k ∈ g.map (·.1) then g else g ++ [(k, 0, [])]
noncomputable def modG (k : Str) (f : Int × List Str → Int × List Str) (g : GS) : GS := g.map fun p => if p.1 = k then (p.1, f p.2) else p
noncomputable def predG (k : Str) (g : GS) (p : Str) : GS := modG p (fun q => (q.1, q.2 ++ [k])) (ensG p g)
noncomputable def addG (k : Str) (ps : List Str) (g : GS) : GS := ps.foldl (predG k) (modG k (fun q => (q.1 + ps.length, q.2)) (ensG k g))
theorem abs_nm (ns : List Nd) : (abs ns).map (·.1) = ns.map Nd.nm := by simp [abs]
theorem Ens.abs {k : Str} {ns ns' : List Nd} {n : Nd} (h : Ens k ns ns' n) : abs ns' = ensG k (abs ns) := by
  obtain ⟨h0, hk, rfl | ⟨h1, rfl, h2, h3⟩⟩ := h
  · unfold ensG; rw [if_pos]; rw [abs_nm, ← hk]; exact List.mem_map_of_mem h0
  · unfold ensG; rw [if_neg (by rw [abs_nm]; exact h1)]; simp [Mine.abs, hk, h2, h3]
theorem abs_np {ns : List Nd} {n : Nd} (nd : (ns.map Nd.nm).Nodup) (hn : n ∈ ns) (p : Int) : abs (modN n.nm (fun m => { m with np := n.np + p }) ns) = modG n.nm (fun q => (q.1 + p, q.2)) (abs ns) := by
  unfold abs modN modG
  rw [List.map_map, List.map_map]
  refine List.map_congr_left fun m hm => ?_
  simp only [Function.comp]
  by_cases h : m.nm = n.nm
  · have : m = n := by
      clear p
      induction ns with
      | nil => cases hm
      | cons y ns ih =>
        rw [List.map_cons, List.nodup_cons] at nd
        rcases List.mem_cons.mp hm with h1 | h1
        · rcases List.mem_cons.mp hn with h2 | h2
          · rw [h1, h2]
          · subst h1; exact absurd (List.mem_map.mpr ⟨n, h2, h.symm⟩) nd.1
        · rcases List.mem_cons.mp hn with h2 | h2
          · subst h2; exact absurd (List.mem_map.mpr ⟨m, h1, h⟩) nd.1
          · exact ih nd.2 h2 h1
    subst this
    simp
  · simp [h]
theorem abs_su (k y : Str) (ns : List Nd) : abs (modN k (fun m => { m with su := m.su ++ [y] }) ns) = modG k (fun q => (q.1, q.2 ++ [y])) (abs ns) := by
  unfold abs modN modG
  rw [List.map_map, List.map_map]
  refine List.map_congr_left fun m hm => ?_
  simp only [Function.comp]
  split <;> rfl
noncomputable def suB (b : Nat) (ns : List Nd) : Prop := ∀ n ∈ ns, n.su.length ≤ b
theorem Ens.suB {k : Str} {ns ns' : List Nd} {n : Nd} {b : Nat} (h : Ens k ns ns' n) (hb : suB b ns) : suB b ns' := by
  obtain ⟨h0, hk, rfl | ⟨h1, rfl, h2, h3⟩⟩ := h
  · exact hb
  · intro m hm
    rcases List.mem_append.mp hm with hm | hm
    · exact hb m hm
    · rw [List.mem_singleton.mp hm, h3]; exact Nat.zero_le _
theorem suB_mod {k : Str} {f : Nd → Nd} {ns : List Nd} {b b' : Nat} (hb : suB b ns) (h : b ≤ b') (hf : ∀ n, n.su.length ≤ b → (f n).su.length ≤ b') : suB b' (modN k f ns) := by
  intro m hm
  obtain ⟨n, hn, rfl⟩ := List.mem_map.mp hm
  show (if n.nm = k then f n else n).su.length ≤ b'
  split
  · exact hf n (hb n hn)
  · exact Nat.le_trans (hb n hn) h
section
variable {prog : Program} {w : World} {A : Around} {E : Value → Shared → Prop} {s B : Shared} {l l' : List (Addr × C)} {env : Env} {mg mb : Str → Option Value}

theorem r_callF1 {pos : Pos} {f : Addr} {first : List Value} {e : Expr} {Q : Value → Shared → Prop} (G : Gd w mg mb B) (D : In B l s) (hkp : keepIn (KF w) (.ref f) = true)
    (h : wpAny (model prog w) A (eval e env) (fun v s₁ => (∃ l₁, In B l₁ s₁) ∧ codeAny (model prog w) A (.call (.ref f) ⟨first ++ [v], []⟩) (fun r s' => match r with | .ok (.ret v) => Q v s' | .ok _ => False | .error e => E e s') s₁) E s)
    (he : starEach [e] env = (false, eval e env) :: starEach [] env := by rfl) :
    wpAny (model prog w) A (callWith pos (.ref f) first (backTo pos (starEach [e] env)) []) Q E s := by
  refine callWith_K (G.kx.keeps D.keep) hkp ?_ he rfl
  rw [he]
  refine Calls.spliced_cons (wpAny_mono h (fun v s₁ h₁ => Calls.spliced_nil ?_) fun _ _ x => x)
  obtain ⟨⟨l₁, D₁⟩, hc⟩ := h₁
  exact ⟨G.kx.keeps D₁.keep, wpAny_call hc⟩
theorem r_callF0 {pos : Pos} {f : Addr} {first : List Value} {Q : Value → Shared → Prop} (G : Gd w mg mb B) (D : In B l s) (hkp : keepIn (KF w) (.ref f) = true)
    (hc : codeAny (model prog w) A (.call (.ref f) ⟨first, []⟩) (fun r s' => match r with | .ok (.ret v) => Q v s' | .ok _ => False | .error e => E e s') s) :
    wpAny (model prog w) A (callWith pos (.ref f) first (backTo pos (starEach [] env)) []) Q E s :=
  callWith_K0 (G.kx.keeps D.keep) hkp (wpAny_call (by rw [List.append_nil]; exact hc))

set_option maxRecDepth 100000 in
set_option maxHeartbeats 1000000 in
theorem add_spec {x d n2i : Addr} {po nf : Int} {ns : List Nd} {k : Str} {t : Tok} {ps : List Str} {vs : List Value} {b : Nat} {R : Result → Shared → Prop} (G : Gd w mg mb B) (D : In B (SorL prog w x d n2i .none po nf ns l) s) (hd : A.depth < 600) (hh : A.handled = none)
    (hn : (n2i == sysModules) = false) (nd : (ns.map Nd.nm).Nodup) (hlen : ns.length + 1 + ps.length ≤ 90) (hb : suB b ns) (hbl : b + ps.length ≤ 900) (hvs : vs.map er = ps.map V.str)
    (h : ∀ ns' s', (ns'.map Nd.nm).Nodup → abs ns' = addG k ps (abs ns) → ns'.length ≤ ns.length + 1 + ps.length → suB (b + ps.length) ns' → In B (SorL prog w x d n2i .none po nf ns' l) s' → R (.ok (.ret .none)) s') :
    codeAny (model prog w) A (.call (.ref 109) ⟨.ref x :: .str k t :: vs, []⟩) R s := by
  have hvl : vs.length = ps.length := by have := congrArg List.length hvs; simpa using this
  refine r_enterB ["self", "node", "predecessors"] G D (by rfl) (by rfl) (by show A.depth < 1000; omega)
    (fun vals l₁ => ∃ tp, vals = [.ref x, .str k t, .ref tp] ∧ l₁ = (tp, Tup (ps.map V.str)) :: SorL prog w x d n2i .none po nf ns l) ?_ (by rfl) (by decide) ?_
  · intro A₁ E₁ Q hQ
    rw [bind_var2 rfl rfl (by decide)]
    refine wpAny_bind (r_newTuple D (by omega) fun tp s D => wpAny_pure ?_)
    rw [hvs] at D
    exact hQ _ _ _ ⟨tp, rfl, rfl⟩ D
  rintro _ _ L A' s ⟨tp, rfl, rfl⟩ hd' hu' hh' hf' D
  have D : In B ((L, Nsp [("self", .ref x), ("node", .str k), ("predecessors", .ref tp)]) :: (tp, Tup (ps.map V.str)) :: SorL prog w x d n2i .none po nf ns l) s := D
  have hh2 : A'.handled = none := by rw [hh']; exact hh
  refine noE (wpAny_execs_cons (wpAny_If (wpAny_isTrue_Compare1 (Attribute_any_ ?_))))
  unfold SorL at D
  tm_at "nm"
  refine r_getI G D (by tm_at "mem") (by tm_at "mem") rfl (by rfl) (by rfl) (by rfl) (by rfl) (by intro i h; cases h) fun u s hu D => ?_
  obtain rfl := er_none hu
  refine wpAny_Constant_none (isnot_none_none (r_truth ?_))
  refine wpAny_execs_nil (wpAny_execs_cons (wpAny_Assign_Name (r_callAttr ?_)))
  tm_at "nm"
  refine r_methI G D (by tm_at "mem") (by tm_at "mem") rfl (by rfl) (by rfl) (by rfl) ?_
  refine r_callF1 G D (by rfl) ?_
  tm_at "nm"
  refine ⟨⟨_, D⟩, getinfo_spec G (D.sorIn [(L, Nsp [("self", .ref x), ("node", .str k), ("predecessors", .ref tp)]), (tp, Tup (ps.map V.str))]) (by omega) hn nd (by omega) fun ns₁ n s hE D => ?_⟩
  have D := D.sorOut [(L, Nsp [("self", .ref x), ("node", .str k), ("predecessors", .ref tp)]), (tp, Tup (ps.map V.str))]
  have nd₁ := hE.nodup nd
  have hl₁ := hE.len
  have hb₁ := hE.suB hb
  have ha₁ := hE.abs
  obtain ⟨hm, hk, _⟩ := hE
  unfold SorL at D
  refine r_store D (by tm_at "up") fun s D => ?_
  refine wpAny_execs_cons (wpAny_AugAssign_AttributeAny ?_)
  tm_at "nm"
  have hin : ∀ {p : Addr × C}, p ∈ rowsN ns₁ → p ∈ rowsN ns₁ ++ l := fun h => List.mem_append_left _ h
  refine r_getS G D (.tail _ (.tail _ (.tail _ (.tail _ (.tail _ (hin (mem_ins hm))))))) (.tail _ (.tail _ (.tail _ (.tail _ (.tail _ (hin (mem_ida hm))))))) (by rfl) (by rfl) (by rfl) (by rfl) (by rfl) (by rfl) rfl (by intro i h; cases h) fun u s hu D => ?_
  obtain ⟨tu, rfl⟩ := er_int hu
  refine r_callB1 G D (by rfl) (by rfl) ?_
  tm_at "nm"
  refine r_lenT D (by tm_at "rd") (by simp; omega) fun tl s D => ?_
  refine r_iadd D fun tq s D => ?_
  refine r_setS (Cl := 62) (i := 1) (sl := [some (.str n.nm), some (.int n.np), some (.ref n.sc)]) G D (.tail _ (.tail _ (.tail _ (.tail _ (.tail _ (hin (mem_ida hm))))))) (.tail (.tail (.tail (.tail (.tail (up_np nd₁ hm (n.np + ((ps.map V.str).length : Nat))).app1))))) (by rfl) (by rfl) (by rfl) (by rfl) (by rfl) (by decide) fun s D => ?_
  refine wpAny_execs_cons (wpAny_For ?_)
  tm_at "nm"
  refine r_iterT D (by tm_at "rd") fun it s D => ?_
  have D := D.weak (c' := Nsp [("self", .ref x), ("node", .str k)]) (by tm_at "up") (Nsp.sub (by tm_at "sub"))
  refine r_forTup (fun i l' => ∃ ns', (ns'.map Nd.nm).Nodup ∧ abs ns' = (ps.take i).foldl (predG k) (modG k (fun q => (q.1 + ps.length, q.2)) (ensG k (abs ns))) ∧ ns'.length ≤ ns.length + 1 + i ∧ suB (b + i) ns' ∧
      l' = (L, Nsp [("self", .ref x), ("node", .str k)]) :: (tp, Tup (ps.map V.str)) :: SorL prog w x d n2i .none po nf ns' l) hh2 (fun i l' e => by obtain ⟨_, _, _, _, _, rfl⟩ := e; tm_at "rd") ?_ D ?_ ?_
  · refine ⟨modN n.nm (fun m => { m with np := n.np + ((ps.map V.str).length : Nat) }) ns₁, ?_, ?_, ?_, ?_, ?_⟩
    · rw [modN_nm (by intro _; rfl)]; exact nd₁
    · rw [abs_np nd₁ hm, hk, ha₁, List.length_map]; simp
    · rw [modN, List.length_map]; exact hl₁
    · exact suB_mod hb₁ (Nat.le_refl _) fun _ h => h
    · unfold SorL
      rw [dictN_mod _ _ (by intro _; exact ⟨rfl, rfl⟩)]
  · rintro i y _ s v hy ⟨ns₂, nd₂, ha₂, hl₂, hb₂, rfl⟩ hv D
    rw [List.getElem?_map] at hy
    obtain ⟨p, hp, rfl⟩ := Option.map_eq_some_iff.mp hy
    obtain ⟨tv, rfl⟩ := er_str hv
    have hi : i < ps.length := (List.getElem?_eq_some_iff.mp hp).1
    refine wpAny_assign_Name (r_store D (by tm_at "up") fun s D => ?_)
    refine wpAny_execs_cons (wpAny_Assign_Name (r_callAttr ?_))
    unfold SorL at D
    tm_at "nm"
    refine r_methI G D (by tm_at "mem") (by tm_at "mem") rfl (by rfl) (by rfl) (by rfl) ?_
    refine r_callF1 G D (by rfl) ?_
    tm_at "nm"
    refine ⟨⟨_, D⟩, getinfo_spec G (D.sorIn [_, _, _]) (by omega) hn nd₂ (by omega) fun ns₃ m s hE D => ?_⟩
    have D := D.sorOut [_, _, _]
    have nd₃ := hE.nodup nd₂
    have hl₃ := hE.len
    have hb₃ := hE.suB hb₂
    have ha₃ := hE.abs
    obtain ⟨hm₃, hk₃, _⟩ := hE
    unfold SorL at D
    have D := D
    refine r_store D (by tm_at "up") fun s D => ?_
    refine wpAny_execs_cons (wpAny_Expr (r_callAttr (Attribute_any_ ?_)))
    tm_at "nm"
    have hin : ∀ {p : Addr × C}, p ∈ rowsN ns₃ → p ∈ rowsN ns₃ ++ l := fun h => List.mem_append_left _ h
    refine r_getS G D (.tail _ (.tail _ (.tail _ (.tail _ (.tail _ (.tail _ (hin (mem_ins hm₃)))))))) (.tail _ (.tail _ (.tail _ (.tail _ (.tail _ (.tail _ (hin (mem_ida hm₃)))))))) (by rfl) (by rfl) (by rfl) (by rfl) (by rfl) (by rfl) rfl (by intro i h; cases h) fun u s hu D => ?_
    obtain rfl := er_ref hu
    refine r_methList D (.inl (.tail _ (.tail _ (.tail _ (.tail _ (.tail _ (.tail _ (hin (mem_lst hm₃))))))))) F.plainAttrs_list F.slot_list_append F.type_list_append ?_
    refine callWith_one ?_
    tm_at "nm"
    have hsl := hb₃ m hm₃
    refine r_append D (.tail (.tail (.tail (.tail (.tail (.tail (up_su nd₃ hm₃ k).app1)))))) (by rw [List.length_map]; omega) fun s D => ?_
    refine wpAny_execs_nil ⟨_, ⟨modN m.nm (fun q => { q with su := q.su ++ [k] }) ns₃, ?_, ?_, ?_, ?_, rfl⟩, ?_⟩
    · rw [modN_nm (by intro _; rfl)]; exact nd₃
    · rw [abs_su, hk₃, ha₃, ha₂, take_snoc hp, List.foldl_append]; rfl
    · rw [modN, List.length_map]; omega
    · exact suB_mod hb₃ (by omega) fun q hq => by simp; omega
    · unfold SorL
      rw [dictN_mod _ _ (by intro _; exact ⟨rfl, rfl⟩)]
      exact D.weak (by tm_at "up") (Nsp.sub (by tm_at "sub"))
  · rintro _ s ⟨ns', h1, h2, h3, h4, rfl⟩ D
    rw [List.length_map] at h2 h3 h4
    rw [List.take_length] at h2
    refine wpAny_execs_nil (h ns' s h1 h2 h3 h4 D.drop.drop)
end
set_option maxRecDepth 100000
theorem nx_type : typeOf (.builtin "list_iterator.__next__") = pure (.type "wrapper_descriptor") := by kernel_rfl
theorem nx_slot_get : Slot "wrapper_descriptor" "__get__" "wrapper_descriptor.__get__" :=
  .of (owner := "wrapper_descriptor") (n := "__get__") (by rw [typeLookup_type, builtinLookup_eq_fast]; kernel_rfl) (by decide +kernel) (by decide +kernel) (by decide +kernel)
    (by first | exact .inl (by decide +kernel) | exact .inr (by decide +kernel)) (by rw [isSubtype_type]; kernel_rfl)
theorem nx_noset : typeLookup (.type "wrapper_descriptor") "__set__" = pure none := by rw [typeLookup_type, builtinLookup_eq_fast]; kernel_rfl
theorem nx_nodel : typeLookup (.type "wrapper_descriptor") "__delete__" = pure none := by rw [typeLookup_type, builtinLookup_eq_fast]; kernel_rfl
theorem nx_entry_get : entryFor table "wrapper_descriptor.__get__" = some Builtin.«wrapper_descriptor.__get__» := entryFor_of_tree (by kernel_rfl)
theorem nx_args_get (a b c : Value) : argsOk "wrapper_descriptor.__get__" ⟨[a, b, c], []⟩ := by unfold argsOk; kernel_rfl
theorem nx_owner : (".".intercalate ("list_iterator.__next__".cutAt '.').dropLast) = "list_iterator" := by
  have e0 : "list_iterator.__next__".cutAt '.' = ["list_iterator", "__next__"] := by first | rfl | decide +kernel
  rw [e0]; decide +kernel
theorem nx_sub : isSubtype (.type "list_iterator") (.type (".".intercalate ("list_iterator.__next__".cutAt '.').dropLast)) = pure true := by
  rw [nx_owner, isSubtype_type]; kernel_rfl
theorem nx_slot_ga : Slot "list_iterator" "__getattribute__" "object.__getattribute__" :=
  .of (owner := "object") (n := "__getattribute__") (by rw [typeLookup_type, builtinLookup_eq_fast]; kernel_rfl) (by decide +kernel) (by decide +kernel) (by decide +kernel)
    (by first | exact .inl (by decide +kernel) | exact .inr (by decide +kernel)) (by rw [isSubtype_type]; kernel_rfl)
theorem nx_check (a : Value) : checkBoundCall "list_iterator.__next__" ⟨[a], []⟩ = pure () := by first | kernel_rfl | rfl
theorem nx_plain : plainId "list_iterator.__next__" = true := by decide +kernel
section
variable {prog : Program} {w : World} {A : Around} {E : Value → Shared → Prop} {h : Heap} {g : Array GenState} {d : Drawn} {t : Nat} {os : OsState} {a : Addr} {o : Obj}
noncomputable def mwObj (it : Addr) : Obj := { cls := .type "method-wrapper", data := .fields #[.builtin "list_iterator.__next__", .ref it] }
theorem nx_get {R : Result → Shared → Prop} (hx : h.get? a = some o) (hc : o.cls = .type "list_iterator") (hq : R (.ok (.ret (.ref h.objs.size))) ⟨h.push (mwObj a), g, d, t, os⟩) :
    codeAny (model prog w) A (.call (.builtin "wrapper_descriptor.__get__") ⟨[.builtin "list_iterator.__next__", .ref a, .type "list_iterator"], []⟩) R ⟨h, g, d, t, os⟩ := by
  have hT : (⟨h, g, d, t, os⟩ : Shared).TypeIs (.ref a) "list_iterator" := ⟨_, hx, hc⟩
  have hT5 : (⟨h, g, d, t, os⟩ : Shared).TypeIs (.builtin "list_iterator.__next__") "wrapper_descriptor" := nx_type
  have f8 := nx_sub
  refine codeAny_call_builtin nx_slot_get.plain nx_entry_get (nx_slot_get.check _ _ _ _ _ _ _ _ hT5 (nx_args_get _ _ _) ?_)
  unfold Builtin.«wrapper_descriptor.__get__»
  repeat (any_goals (first | assumption | wp_step))
noncomputable def itObj (l : Addr) (i : Nat) : Obj := { cls := .type "list_iterator", data := .fields #[.ref l, .int i 0] }
theorem nx_ga {l : Addr} {i : Nat} {tk : Tok} {Q : Fin → Shared → Prop} (hx : h.get? a = some (itObj l i)) (hq : Q (.done (.ret (.ref h.objs.size))) ⟨h.push (mwObj a), g, d, t, os⟩) :
    wpAny (model prog w) A (Builtin.«object.__getattribute__» ⟨[.ref a, .str "__next__" tk], []⟩) Q E ⟨h, g, d, t, os⟩ := by
  have hT : (⟨h, g, d, t, os⟩ : Shared).TypeIs (.ref a) "list_iterator" := ⟨_, hx, rfl⟩
  have hT5 : (⟨h, g, d, t, os⟩ : Shared).TypeIs (.builtin "list_iterator.__next__") "wrapper_descriptor" := nx_type
  unfold itObj at hx
  have f4 := slot_listiter_next.lookup
  have f5 := nx_type
  have f6 := nx_slot_get.lookup
  have f7 := nx_noset
  have f8 := nx_nodel
  repeat (any_goals (first | assumption | wp_step))
  refine nx_get hx rfl ?_
  repeat (any_goals (first | assumption | wp_step))
theorem nx_attr {l : Addr} {i : Nat} {Q : Value → Shared → Prop} (hx : h.get? a = some (itObj l i)) (hq : Q (.ref h.objs.size) ⟨h.push (mwObj a), g, d, t + 1, os⟩) :
    wpAny (model prog w) A (getAttr (.ref a) "__next__" true) Q E ⟨h, g, d, t, os⟩ := by
  have hT : (⟨h, g, d, t, os⟩ : Shared).TypeIs (.ref a) "list_iterator" := ⟨_, hx, rfl⟩
  have f2 := nx_slot_ga.lookup
  have f3 := nx_slot_ga.bind (.ref a)
  have hx' := hx
  unfold itObj at hx'
  unfold getAttr getAttrBy
  repeat (any_goals (first | assumption | wp_step))
  refine codeAny_call_builtin nx_slot_ga.plain F.entry_object_getattribute (nx_slot_ga.check _ _ _ _ _ _ _ _ (show (⟨h, g, d, t + 1, os⟩ : Shared).TypeIs (.ref a) "list_iterator" from ⟨_, hx, rfl⟩) (F.args_object_getattribute_2 _ _) (nx_ga hx ?_))
  repeat (any_goals (first | assumption | wp_step))
end
set_option maxRecDepth 100000
noncomputable def Any : C := fun _ => True
noncomputable def StL (prog : Program) (w : World) (xs : List Str) : C := fun o => ∃ S n, St prog w S n o ∧ n ≤ xs.length ∧ ∀ k, S k = true ↔ k ∈ xs
section
variable {prog : Program} {w : World} {A : Around} {E : Value → Shared → Prop} {s B : Shared} {l l' : List (Addr × C)} {env : Env} {mg mb : Str → Option Value}

theorem r_set0 {Q : Value → Shared → Prop} (D : In B l s) (k : ∀ n s', In B ((n, StL prog w []) :: l) s' → Q (.ref n) s') : wpAny (model prog w) A (call (.type "set") []) Q E s :=
  call_set_0 fun led => k _ _ (D.push (tk := s.toks) rfl ⟨fun _ => false, 0, ⟨#[], 0, .fresh 0 0 led, ⟨rfl, rfl, rfl⟩, rfl, fun e he => by simp at he, fun k => by simp, by show 0 < 4096; omega, rfl, rfl⟩, Nat.zero_le _, fun k => by simp⟩)
theorem r_inSetL {a : Addr} {xs : List Str} {k : Str} {t : Tok} {Q : Value → Shared → Prop} (D : In B l s) (r : Rd B l a (StL prog w xs)) (h : ∀ s', In B l s' → Q (.bool (decide (k ∈ xs))) s') :
    wpAny (model prog w) A (compareOp .In (.str k t) (.ref a)) Q E s := by
  obtain ⟨o, ho, S, n, hS, _, hx⟩ := D.rd r
  refine wpAny_inSet_of (strKind_is prog w k t) rfl (st_of ⟨o, ho, hS⟩) ?_
  have : S k = decide (k ∈ xs) := by rw [Bool.eq_iff_iff, hx k]; simp
  rw [this]; exact h _ D.tk
theorem r_methSetL {a : Addr} {xs : List Str} {pl : Sem Bool} {Q : Value × List Value → Shared → Prop} (D : In B l s) (r : Rd B l a (StL prog w xs)) (k : Q (.builtin "set.add", [.ref a]) s) : wpAny (model prog w) A (getMethod (.ref a) "add" pl) Q E s := by
  obtain ⟨o, ho, S, n, hS, _, hx⟩ := D.rd r
  exact getMethod_set_add (st_of ⟨o, ho, hS⟩) k
theorem r_setAddL {a : Addr} {xs : List Str} {k : Str} {t : Tok} {Q : Value → Shared → Prop} (D : In B l s) (u : Up a (StL prog w xs) (StL prog w (k :: xs)) l l') (hn : xs.length < 1000) (h : ∀ s', In B l' s' → Q .none s') :
    wpAny (model prog w) A (call (.builtin "set.add") [.ref a, .str k t]) Q E s := by
  obtain ⟨o, ho, S, n, hS, hl, hx⟩ := D.has u.mem
  refine call_set_add (strKind_is prog w k t) rfl (st_of ⟨o, ho, hS⟩) (by show n + 1 < 4096; omega) fun h' hs hS' => h _ (D.upd u hs ?_)
  obtain ⟨o', ho', hS''⟩ := of_st hS'
  refine ⟨o', ho', _, _, hS'', ?_, fun k' => ?_⟩
  · split <;> simp <;> omega
  · rw [Bool.or_eq_true, hx k', decide_eq_true_eq, List.mem_cons]
    exact ⟨fun h => h.elim .inr .inl, fun h => h.elim .inr .inl⟩

theorem iter_entry : entryFor table "iter" = some Builtin.«iter» := entryFor_of_fast (by kernel_rfl)
theorem iter_args (a : Value) : argsOk "iter" ⟨[a], []⟩ := by unfold argsOk; kernel_rfl
theorem r_iterB {a : Addr} {xs : List V} {Q : Value → Shared → Prop} (D : In B l s) (r : Rd B l a (Lst xs)) (k : ∀ it s', In B ((it, Ob (itObj a 0)) :: l) s' → Q (.ref it) s') : wpAny (model prog w) A (call (.builtin "iter") [.ref a]) Q E s := by
  obtain ⟨o, ho, vs, n, rfl, hx⟩ := D.rd r
  refine Calls.call_function_entry (by decide +kernel) (by decide +kernel) iter_entry (iter_args _) ?_
  unfold Builtin.«iter»
  refine wpAny_bind (m := someArgs "iter" 1 2 _) (wpAny_of_eq (a := [Value.ref a]) (by first | rfl | kernel_rfl) ?_)
  show wpAny _ _ (pyIter (.ref a) >>= _) _ _ _
  refine wpAny_bind (wpAny_pyIter_list ⟨_, ho, rfl, n, rfl⟩ ?_)
  exact wpAny_pure ⟨_, rfl, k _ _ (D.push (tk := s.toks) rfl rfl)⟩
theorem r_nextAttr {it a : Addr} {i : Nat} {Q : Value → Shared → Prop} (D : In B l s) (hi : (it, Ob (itObj a i)) ∈ l) (k : ∀ mw s', In B ((mw, Ob (mwObj it)) :: l) s' → Q (.ref mw) s') : wpAny (model prog w) A (getAttr (.ref it) "__next__" true) Q E s := by
  obtain ⟨o, ho, he⟩ := D.has hi
  have he : o = itObj a i := he
  subst he
  obtain ⟨h, g, d, t, os⟩ := s
  exact nx_attr ho (k _ _ (D.push (tk := t + 1) rfl rfl))

theorem nx_body_item {it a : Addr} {i : Nat} {vs : Array Value} {x : Value} {n : Nat} {Q : Fin → Shared → Prop} (ho : s.heap.get? it = some (itObj a i)) (hl : s.heap.get? a = some { cls := .type "list", data := .seq vs n }) (hx : vs[i]? = some x)
    (hQ : Q (.done (.ret x)) { s with heap := s.heap.update it (Obj.mapFields (·.setIfInBounds 1 (rawInt ((i : Int) + 1)))) }) : wpAny (model prog w) A (Builtin.«list_iterator.__next__» ⟨[.ref it], []⟩) Q E s := by
  show wpAny _ _ (field (.ref it) 0 >>= _) _ _ s
  refine wpAny_bind (wpAny_field ho rfl (x := .ref a) rfl ?_)
  show wpAny _ _ (if (Value.ref a == Value.none) = true then _ else _) _ _ s
  rw [if_neg (show ¬ ((Value.ref a == Value.none) = true) from Bool.false_ne_true)]
  show wpAny _ _ (field (.ref it) 1 >>= _) _ _ s
  refine wpAny_bind (wpAny_field ho rfl (x := .int i 0) rfl ?_)
  show wpAny _ _ (seqItems? (.ref a) >>= _) _ _ s
  refine wpAny_bind (wpAny_seqItems hl rfl ?_)
  simp only [Int.toNat_natCast, hx]
  exact wpAny_bind (wpAny_setField ho rfl (by simp) (wpAny_pure hQ))
theorem nx_body_end {it a : Addr} {i : Nat} {vs : Array Value} {n : Nat} {Q : Fin → Shared → Prop} (hh : A.handled = none) (ho : s.heap.get? it = some (itObj a i)) (hl : s.heap.get? a = some { cls := .type "list", data := .seq vs n }) (hx : vs[i]? = none)
    (hE : ∀ h1 h' e, Heap.SameBut it s.heap h1 → Has h1 it Any → (∀ b o, h1.get? b = some o → h'.get? b = some o) → h1.get? e = none → Has h' e (Ex0 (.type "StopIteration")) → E (.ref e) { s with heap := h' }) : wpAny (model prog w) A (Builtin.«list_iterator.__next__» ⟨[.ref it], []⟩) Q E s := by
  show wpAny _ _ (field (.ref it) 0 >>= _) _ _ s
  refine wpAny_bind (wpAny_field ho rfl (x := .ref a) rfl ?_)
  show wpAny _ _ (if (Value.ref a == Value.none) = true then _ else _) _ _ s
  rw [if_neg (show ¬ ((Value.ref a == Value.none) = true) from Bool.false_ne_true)]
  show wpAny _ _ (field (.ref it) 1 >>= _) _ _ s
  refine wpAny_bind (wpAny_field ho rfl (x := .int i 0) rfl ?_)
  show wpAny _ _ (seqItems? (.ref a) >>= _) _ _ s
  refine wpAny_bind (wpAny_seqItems hl rfl ?_)
  simp only [Int.toNat_natCast, hx]
  refine wpAny_bind (wpAny_rule (wpAny_bind (wpAny_setField ho rfl (by simp) ?_)))
  show wpAny _ _ (newExc (.type "StopIteration") [] >>= _) _ _ _
  refine wpAny_bind ?_
  simp only [newExc, newTuple]
  refine wpAny_bind (wpAny_newObj_type ?_ (by size_fits))
  refine wpAny_bind (m := firstArgMember _ _) (wpAny_of_eq (a := Value.none) (by first | rfl | (simp only [firstArgMember]; rfl)) ?_)
  refine wpAny_newObj_type ?_ (by size_fits)
  simp only [raiseNew]
  refine wpAny_bind (wpAny_handled ?_)
  rw [hh]
  refine wpAny_bind (wpAny_pure (wpAny_throw ?_))
  refine hE _ _ _ (Heap.SameBut.update ..) ⟨_, Heap.get?_update_self _ ho rfl, trivial⟩ (fun b o hb => Heap.get?_push_of_some _ (Heap.get?_push_of_some _ hb)) ?_ ⟨_, Heap.get?_push_size _ rfl, rfl, _, rfl, rfl⟩
  refine Heap.get?_none_of_le ?_
  simp only [Heap.size_push]
  exact Nat.le_succ _
end
section
variable {prog : Program} {w : World} {A : Around} {E : Value → Shared → Prop} {s B : Shared} {l l' : List (Addr × C)} {env : Env} {mg mb : Str → Option Value}

theorem r_mwCall {mw it a : Addr} {i : Nat} {xs : List V} {Q : Value → Shared → Prop} (D : In B l s) (hA : A.handled = none) (hm : (mw, Ob (mwObj it)) ∈ l) (r : Rd B l a (Lst xs))
    {lI lE : List (Addr × C)} (u₁ : Up it (Ob (itObj a i)) (Ob (itObj a (i + 1))) l lI) (uE : Up it (Ob (itObj a i)) Any l lE)
    (item : ∀ v s', (xs[i]? = some (er v)) → In B lI s' → Q v s')
    (stop : xs[i]? = none → ∀ e s', In B ((e, Ex0 (.type "StopIteration")) :: lE) s' → E (.ref e) s') :
    wpAny (model prog w) A (call (.ref mw) []) Q E s := by
  obtain ⟨om, hom, hem⟩ := D.has hm
  have hem : om = mwObj it := hem
  subst hem
  obtain ⟨oi, hoi, hei⟩ := D.has uE.mem
  have hei : oi = itObj a i := hei
  subst hei
  obtain ⟨oa, hoa, vs, n, rfl, hx⟩ := D.rd r
  refine wpAny_call (codeAny_of_tree ?_)
  show wpAny _ A.in1 (callAny (.ref mw) ⟨[], []⟩) _ _ s
  simp only [callAny]
  refine wpAny_bind (wpAny_load hom ?_)
  simp only [mwObj, show (Value.type "method-wrapper" == Value.type "method" || Value.type "method-wrapper" == Value.type "builtin_function_or_method" || Value.type "method-wrapper" == Value.type "method-wrapper") = true by decide, if_true]
  show wpAny _ _ (if (Value.type "method-wrapper" != Value.type "method") = true then _ else _) _ _ _
  rw [if_pos (by decide)]
  refine wpAny_bind (wpAny_of_eq (a := ()) (nx_check _) ?_)
  refine wpAny_pure ?_
  refine ⟨plainId_quiet nx_plain _, codeAny_builtin entry_listiter_next ?_⟩
  rw [Around.under_plainId nx_plain _]
  cases hv : vs[i]? with
  | some v =>
    have hxi : xs[i]? = some (er v) := by rw [← hx]; simp [hv]
    refine nx_body_item hoi hoa hv ?_
    refine item v _ hxi (D.upd (tk := s.toks) u₁ (Heap.SameBut.update ..) ⟨_, Heap.get?_update_self _ hoi rfl, ?_⟩)
    simp [Obj.mapFields, itObj, Ob, rawInt]
  | none =>
    have hxi : xs[i]? = none := by rw [← hx]; simpa using hv
    refine nx_body_end (A := A.in1) (by exact hA) hoi hoa hv fun h1 h' e hs1 ha hext hn hE => ?_
    refine stop hxi e _ ?_
    have D1 : In B lE { s with heap := h1, toks := s.toks } := D.upd uE hs1 ha
    exact D1.add (tk := s.toks) hext hn hE
end
set_option maxRecDepth 100000
section
variable {prog : Program} {w : World} {A : Around} {E : Value → Shared → Prop} {s B : Shared} {l l' : List (Addr × C)} {env : Env} {mg mb : Str → Option Value}

theorem map_get {vs : Array Value} {xs : List V} {i : Nat} {x : V} (hx : vs.toList.map er = xs) (h : xs[i]? = some x) : ∃ v, vs[i]? = some v ∧ er v = x := by
  rw [← hx, List.getElem?_map] at h
  obtain ⟨v, h1, h2⟩ := Option.map_eq_some_iff.mp h
  exact ⟨v, by rw [← Array.getElem?_toList]; exact h1, h2⟩

theorem r_idx {value slice : Expr} {a : Addr} {xs : List V} {i : Nat} {u : Tok} {x : V} {Q : Value → Shared → Prop} (D : In B l s) (r : Rd B l a (Lst xs)) (hl : xs.length ≤ 1000) (hi : xs[i]? = some x) (k : ∀ v, er v = x → Q v s)
    (hs : subscripted slice false (.ref a) (.int (i : Int) u) = operate [.ref a, .int (i : Int) u] (getItem (.ref a) (.int (i : Int) u)) := by with_unfolding_all rfl) :
    wpAny (model prog w) A (subscriptTail value slice (.ref a) (.int (i : Int) u)) Q E s := by
  obtain ⟨o, ho, vs, n, rfl, hx⟩ := D.rd r
  obtain ⟨v, hv, he⟩ := map_get hx hi
  have hlt : i < xs.length := (List.getElem?_eq_some_iff.mp hi).1
  exact tail_any (ops := _) (s := s) ⟨_, ho, rfl⟩ slot_list_getitem.lookup (wpAny_getItem_list (items := vs) (x := v) ⟨_, ho, rfl, n, rfl⟩ (by omega) (by omega) (by simpa using hv) (k v he)) hs
theorem r_idxLast {value slice : Expr} {a : Addr} {xs : List V} {u : Tok} {x : V} {Q : Value → Shared → Prop} (D : In B l s) (r : Rd B l a (Lst xs)) (hl : xs.length ≤ 1000) (hi : xs.getLast? = some x) (k : ∀ v, er v = x → Q v s)
    (hs : subscripted slice false (.ref a) (.int (-1) u) = operate [.ref a, .int (-1) u] (getItem (.ref a) (.int (-1) u)) := by with_unfolding_all rfl) :
    wpAny (model prog w) A (subscriptTail value slice (.ref a) (.int (-1) u)) Q E s := by
  obtain ⟨o, ho, vs, n, rfl, hx⟩ := D.rd r
  have hlen : vs.size = xs.length := by rw [← hx]; simp
  rw [List.getLast?_eq_getElem?] at hi
  obtain ⟨v, hv, he⟩ := map_get hx hi
  have hlt : xs.length - 1 < xs.length := (List.getElem?_eq_some_iff.mp hi).1
  refine tail_any (ops := _) (s := s) ⟨_, ho, rfl⟩ slot_list_getitem.lookup (wpAny_getItem_list_neg (items := vs) (x := v) ⟨_, ho, rfl, n, rfl⟩ (by omega) (by omega) (by omega) ?_ (k v he)) hs
  have : (-1 + (vs.size : Int)).toNat = xs.length - 1 := by omega
  rw [this]; exact hv
theorem r_idxD {value slice : Expr} {d : Addr} {e : Option Nat} {kvs : List (Str × V)} {k : Str} {t : Tok} {v : V} {Q : Value → Shared → Prop} (D : In B l s) (r : Rd B l d (Dc prog w e kvs)) (hv : kvs.lookup k = some v) (h : ∀ u s', er u = v → In B l s' → Q u s')
    (hs : subscripted slice false (.ref d) (.str k t) = operate [.ref d, .str k t] (getItem (.ref d) (.str k t)) := by with_unfolding_all rfl) :
    wpAny (model prog w) A (subscriptTail value slice (.ref d) (.str k t)) Q E s := by
  obtain ⟨vs, hd, _⟩ := dc_of (D.rd r)
  exact tail_any (ops := _) (s := s) hd.typeIs slot_dict_getitem.lookup (r_ditem D r hv h) hs
theorem r_sliceFrom {value : Expr} {lo : Expr} {p pos : Pos} {a : Addr} {xs : List V} {i : Nat} {Q : Value → Shared → Prop}
    (h : wpAny (model prog w) A (eval value env) (fun o s₁ => wpAny (model prog w) A (eval lo env) (fun vl s₂ => ∃ t l₂, o = .ref a ∧ vl = .int i t ∧ In B l₂ s₂ ∧ Rd B l₂ a (Lst xs) ∧ xs.length ≤ 1000 ∧ i ≤ xs.length ∧
      ∀ n s', In B ((n, Lst (xs.drop i)) :: l₂) s' → Q (.ref n) s') E s₁) E s) (ht : ∀ o r, letTemporaryGo value o r = pure () := by intro _ _; rfl) :
    wpAny (model prog w) A (eval (.Subscript value (.Slice (some lo) none none p) pos) env) Q E s := by
  refine wpAny_Subscript_list_slice (wpAny_mono h (fun o s₁ h₁ => ?_) fun _ _ x => x) ht
  rw [evalPart_some]
  refine wpAny_mono h₁ (fun vl s₂ h₂ => ?_) fun _ _ x => x
  obtain ⟨t, l₂, rfl, rfl, D, r, hl, hi, k⟩ := h₂
  rw [evalPart_none]
  obtain ⟨ob, ho, vs, n, rfl, hx⟩ := D.rd r
  have hlen : vs.size = xs.length := by rw [← hx]; simp
  refine wpAny_pure ⟨a, vs, some (i : Int), none, rfl, ⟨_, ho, rfl, n, rfl⟩, by rw [sizeLine_eq]; omega, .int _ _, .none, k _ _ ?_⟩
  rw [slicePick_from vs i (by omega)]
  have D1 := D.push (c := Any) (o := { cls := .type "slice", data := .fields #[.int i t, .none, .none] }) (tk := s₂.toks) rfl trivial
  have D2 := D1.push (c := Lst (xs.drop i)) (o := { cls := .type "list", data := .seq (vs.toList.drop i).toArray }) (tk := s₂.toks) rfl ⟨_, _, rfl, by simp [List.map_drop, hx]⟩
  have := D2.mv1.drop
  dsimp only at this
  rwa [Heap.size_push] at this
theorem r_addL {a b : Addr} {xs ys : List V} {Q : Value → Shared → Prop} (D : In B l s) (ra : Rd B l a (Lst xs)) (rb : Rd B l b (Lst ys)) (h1 : xs.length ≤ 1000) (h2 : ys.length ≤ 1000) (k : ∀ n s', In B ((n, Lst (xs ++ ys)) :: l) s' → Q (.ref n) s') :
    wpAny (model prog w) A (binaryOp .Add (.ref a) (.ref b)) Q E s := by
  obtain ⟨oa, ha, va, na, rfl, hxa⟩ := D.rd ra
  obtain ⟨ob, hb, vb, nb, rfl, hxb⟩ := D.rd rb
  have hla : va.size = xs.length := by rw [← hxa]; simp
  have hlb : vb.size = ys.length := by rw [← hxb]; simp
  exact P.add_list (n := na) (n2 := nb) ha hb (k _ _ (D.push (tk := s.toks) rfl ⟨_, _, rfl, by simp [hxa, hxb]⟩)) (by rw [sizeLine_eq]; omega)
theorem r_pop {a : Addr} {xs : List V} {x : V} {Q : Value → Shared → Prop} (D : In B l s) (u : Up a (Lst (xs ++ [x])) (Lst xs) l l') (hl : xs.length ≤ 900) (k : ∀ v s', er v = x → In B l' s' → Q v s') :
    wpAny (model prog w) A (call (.builtin "list.pop") [.ref a]) Q E s := by
  obtain ⟨o, ho, vs, n, rfl, hx⟩ := D.has u.mem
  have hlen : vs.size = xs.length + 1 := by have := congrArg List.length hx; simpa using this
  obtain ⟨v, hv, he⟩ := map_get hx (i := xs.length) (x := x) (by simp)
  have e1 : vs.size - 1 = xs.length := by omega
  refine call_meets F.slot_list_pop ⟨_, ho, rfl⟩ F.entry_list_pop (F.args_list_pop_1 _) (MeetsSeq.list_pop_last a vs n v (by rw [e1]; exact hv) (by rw [sizeLine_eq]; omega)) ⟨ho, k v _ he ?_⟩
  have hne : ({ cls := .type "list", data := .seq vs n } : Obj).mapSeq (fun xs => xs.eraseIdxIfInBounds (vs.size - 1)) = { cls := .type "list", data := .seq (vs.eraseIdxIfInBounds (vs.size - 1)) (if (vs.eraseIdxIfInBounds (vs.size - 1)).size == vs.size then n else n + 1) } := rfl
  refine D.upd (tk := s.toks) u (Heap.SameBut.update ..) ⟨_, Heap.get?_update_self _ ho (by rw [hne]; rfl), _, _, hne, ?_⟩
  have h1 : (vs.eraseIdxIfInBounds (vs.size - 1)).toList = vs.toList.eraseIdx xs.length := by
    rw [e1]
    unfold Array.eraseIdxIfInBounds
    rw [dif_pos (by omega)]
    simp
  rw [h1, map_eraseIdx, hx, List.eraseIdx_append_of_length_le (Nat.le_refl _)]
  simp
theorem callWith_zero {M : Model} {pos : Pos} {id : String} {first : List Value} {Q : Value → Shared → Prop} (h : wpAny M A (call (.builtin id) (first ++ [])) Q E s) :
    wpAny M A (callWith pos (.builtin id) first (backTo pos (starEach [] env)) []) Q E s :=
  Calls.callWith_builtin rfl (evalArgs_nil3 h)
theorem r_while {test : Expr} {body orelse : List Stmt} {pos : Pos} {Q : Flow → Shared → Prop} (I : Nat → Shared → Prop)
    (turn : ∀ n s, I n s → wpAny (model prog w) A (isTrue test env (eval test env)) (fun b s₂ =>
        if b then wpAny (model prog w) A (execs body env) (fun f s₃ => match f with
            | .next | .cont => ∃ m, m < n ∧ I m s₃
            | .brk => Q .next s₃
            | .ret v => Q (.ret v) s₃) NoE s₂
        else wpAny (model prog w) A (execs orelse env) Q NoE s₂) NoE s)
    (n : Nat) (h : I n s) : wpAny (model prog w) A (exec (.While test body orelse pos) env) Q E s := by
  refine wpAny_While (codeAny_whileLoop I (fun n s hI => noE (wpAny_mono (turn n s hI) (fun b s₂ h₂ => ?_) fun _ _ x => x)) n h)
  cases b with
  | true => exact noE h₂
  | false => exact noE h₂
theorem r_callE {func : Expr} {pos : Pos} {Q : Value → Shared → Prop} (h : wpAny (model prog w) A (eval func env) (fun f s₁ => wpAny (model prog w) A (callWith pos f [] (backTo pos (starEach [] env)) []) Q E s₁) E s)
    (he : eval (.Call func [] [] pos) env = (do callWith pos (← eval func env) [] (backTo pos (starEach [] env)) (backToKw pos (keywordEach [] env))) := by rfl) :
    wpAny (model prog w) A (eval (.Call func [] [] pos) env) Q E s := by
  rw [he]
  exact wpAny_bind h
theorem callWith_mw {pos : Pos} {mw it : Addr} {Q : Value → Shared → Prop} (D : In B l s) (hm : (mw, Ob (mwObj it)) ∈ l) (h : wpAny (model prog w) A (call (.ref mw) []) Q E s) :
    wpAny (model prog w) A (callWith pos (.ref mw) [] (backTo pos (starEach [] env)) []) Q E s := by
  obtain ⟨om, hom, hem⟩ := D.has hm
  have hem : om = mwObj it := hem
  subst hem
  refine callWith_of (P := fun h => h.get? mw = some (mwObj it)) rfl (fun h hp => ⟨.machine, .inr (.inl rfl), ?_⟩) (evalArgs_nil3 ⟨hom, h⟩)
  exact (Looks.ld (part := none) hp).andThen .now
theorem r_list1 {M : Model} {e : Expr} {pos : Pos} {Q : Value → Shared → Prop} (h : wpAny M A (eval e env) (fun v s₁ => ∃ l₁, In B l₁ s₁ ∧ ∀ n s', In B ((n, Lst [er v]) :: l₁) s' → Q (.ref n) s') E s)
    (he : starEach [e] env = (false, eval e env) :: starEach [] env := by rfl) : wpAny M A (eval (.List [e] pos) env) Q E s := by
  refine wpAny_List ?_
  refine wpAny_items_cons (wpAny_mono h (fun v s₁ h₁ => ?_) fun _ _ x => x) he
  obtain ⟨l₁, D, k⟩ := h₁
  exact wpAny_items_nil ⟨by rw [sizeLine_eq]; simp, k _ _ (D.push (tk := s₁.toks) rfl ⟨#[v], 0, rfl, rfl⟩)⟩
theorem r_expr {e : Expr} {pos : Pos} {Q : Flow → Shared → Prop} (h : wpAny (model prog w) A (eval e env) (fun _ s' => Q .next s') E s)
    (hi : interactive env = false := by rfl) (hs : swapsWith e none pos.line env = pure false := by rfl) : wpAny (model prog w) A (exec (.Expr e pos) env) Q E s := by
  rw [exec_Expr env e pos hi hs]
  exact wpAny_bind (wpAny_standAt (wpAny_bind (wpAny_mono h (fun v s' h' => wpAny_dropValue h') fun _ _ x => x)))
end
section
variable {α : Type} {su : α → List α} {names fin : List α}

noncomputable def FinOk (su : α → List α) : List α → Prop
  | [] => True
  | m :: r => (∀ n ∈ su m, n ∈ r) ∧ FinOk su r
noncomputable def StkOk (su : α → List α) (fin : List α) : Option α → List (α × Nat) → Prop
  | _, [] => True
  | some c, p :: r => (∃ j, p.2 = j + 1 ∧ (su p.1)[j]? = some c ∧ ∀ y ∈ (su p.1).take j, y ∈ fin) ∧ StkOk su fin (some p.1) r
  | none, p :: r => (∀ y ∈ (su p.1).take p.2, y ∈ fin) ∧ StkOk su fin (some p.1) r
inductive Rch (su : α → List α) : α → α → Prop
  | one {m n} : n ∈ su m → Rch su m n
  | step {m k n} : k ∈ su m → Rch su k n → Rch su m n
theorem Rch.snoc {m k n : α} (h : Rch su m k) (h2 : n ∈ su k) : Rch su m n := by
  induction h with
  | one h => exact .step h (.one h2)
  | step h _ ih => exact .step h (ih h2)

theorem StkOk.mono {fin' : List α} (h : ∀ x ∈ fin, x ∈ fin') : ∀ {stk : List (α × Nat)} {c : Option α}, StkOk su fin c stk → StkOk su fin' c stk
  | [], _, _ => by cases ‹Option α› <;> exact trivial
  | p :: r, some c, ⟨⟨j, h1, h2, h3⟩, h4⟩ => ⟨⟨j, h1, h2, fun y hy => h y (h3 y hy)⟩, StkOk.mono h h4⟩
  | p :: r, none, ⟨h3, h4⟩ => ⟨fun y hy => h y (h3 y hy), StkOk.mono h h4⟩
theorem StkOk.child {stk : List (α × Nat)} {c : α} (h : StkOk su fin (some c) stk) (hc : c ∈ fin) : StkOk su fin none stk := by
  cases stk with
  | nil => exact trivial
  | cons p r =>
    obtain ⟨⟨j, h1, h2, h3⟩, h4⟩ := h
    refine ⟨fun y hy => ?_, h4⟩
    rw [h1, List.take_add_one, h2] at hy
    rcases List.mem_append.mp hy with hy | hy
    · exact h3 y hy
    · simp at hy; subst hy; exact hc
theorem StkOk.reach {stk : List (α × Nat)} : ∀ {c : α}, StkOk su fin (some c) stk → ∀ m ∈ stk.map (·.1), Rch su m c := by
  induction stk with
  | nil => intro c _ m hm; cases hm
  | cons p r ih =>
    intro c ⟨⟨j, h1, h2, _⟩, h4⟩ m hm
    have h2 := List.mem_of_getElem? h2
    rcases List.mem_cons.mp hm with rfl | hm
    · exact .one h2
    · exact (ih h4 m hm).snoc h2

structure DI (su : α → List α) (names fin : List α) (stk : List (α × Nat)) (cur : Option α) : Prop where
  nd : (stk.map (·.1) ++ fin).Nodup
  sub : ∀ x ∈ stk.map (·.1) ++ fin, x ∈ names
  ib : ∀ p ∈ stk, p.2 ≤ (su p.1).length
  fo : FinOk su fin
  so : StkOk su fin cur stk
noncomputable def spent (su : α → List α) (fin : List α) (stk : List (α × Nat)) : Nat := (stk.map (·.2)).sum + (fin.map fun m => (su m).length).sum

theorem DI.push {stk : List (α × Nat)} {c : α} (h : DI su names fin stk (some c)) (hc : c ∈ names) (hn : c ∉ stk.map (·.1) ++ fin) : DI su names fin ((c, 0) :: stk) none where
  nd := by rw [List.map_cons, List.cons_append, List.nodup_cons]; exact ⟨hn, h.nd⟩
  sub := fun x hx => by
    rw [List.map_cons, List.cons_append, List.mem_cons] at hx
    rcases hx with rfl | hx
    · exact hc
    · exact h.sub x hx
  ib := fun p hp => by
    rcases List.mem_cons.mp hp with rfl | hp
    · exact Nat.zero_le _
    · exact h.ib p hp
  fo := h.fo
  so := ⟨fun y hy => by simp at hy, h.so⟩
theorem spent_push {stk : List (α × Nat)} {c : α} : spent su fin ((c, 0) :: stk) = spent su fin stk := by simp [spent]
theorem DI.child {stk : List (α × Nat)} {c : α} (h : DI su names fin stk (some c)) (hc : c ∈ fin) : DI su names fin stk none := ⟨h.nd, h.sub, h.ib, h.fo, h.so.child hc⟩
theorem DI.adv {stk : List (α × Nat)} {m y : α} {i : Nat} (h : DI su names fin ((m, i) :: stk) none) (hy : (su m)[i]? = some y) : DI su names fin ((m, i + 1) :: stk) (some y) where
  nd := h.nd
  sub := h.sub
  ib := fun p hp => by
    rcases List.mem_cons.mp hp with rfl | hp
    · exact (List.getElem?_eq_some_iff.mp hy).1
    · exact h.ib p (.tail _ hp)
  fo := h.fo
  so := ⟨⟨i, rfl, hy, h.so.1⟩, h.so.2⟩
theorem spent_adv {stk : List (α × Nat)} {m : α} {i : Nat} : spent su fin ((m, i + 1) :: stk) = spent su fin ((m, i) :: stk) + 1 := by simp [spent]; omega
theorem DI.pop {stk : List (α × Nat)} {m : α} {i : Nat} (h : DI su names fin ((m, i) :: stk) none) (hy : (su m)[i]? = none) : DI su names (m :: fin) stk none := by
  have hi : i = (su m).length := by
    have h1 := h.ib _ (.head _)
    rw [List.getElem?_eq_none_iff] at hy
    exact Nat.le_antisymm h1 hy
  have hp : (stk.map (·.1) ++ m :: fin).Perm (((m, i) :: stk).map (·.1) ++ fin) := List.perm_middle
  refine ⟨hp.nodup_iff.mpr h.nd, fun x hx => h.sub x (hp.mem_iff.mp hx), fun p hp => h.ib p (.tail _ hp), ⟨fun n hn => ?_, h.fo⟩, ?_⟩
  · refine h.so.1 n ?_
    show n ∈ (su m).take i
    rw [hi, List.take_length]; exact hn
  · exact (h.so.2.mono (fun x hx => List.mem_cons_of_mem m hx)).child (List.mem_cons_self ..)
theorem spent_pop {stk : List (α × Nat)} {m : α} {i : Nat} (h : DI su names fin ((m, i) :: stk) none) (hy : (su m)[i]? = none) : spent su (m :: fin) stk = spent su fin ((m, i) :: stk) := by
  have hi : i = (su m).length := by
    have h1 := h.ib _ (.head _)
    rw [List.getElem?_eq_none_iff] at hy
    exact Nat.le_antisymm h1 hy
  simp [spent]; omega

theorem sum_le_of_sub [DecidableEq α] (f : α → Nat) : ∀ (a b : List α), a.Nodup → (∀ x ∈ a, x ∈ b) → (a.map f).sum ≤ (b.map f).sum
  | [], _, _, _ => Nat.zero_le _
  | x :: a, b, nd, h => by
    have hx := h x (.head _)
    rw [List.nodup_cons] at nd
    have hp := List.perm_cons_erase hx
    have e : (b.map f).sum = f x + ((b.erase x).map f).sum := by
      have := (hp.map f).sum_nat
      simpa using this
    rw [e, List.map_cons, List.sum_cons]
    refine Nat.add_le_add_left (sum_le_of_sub f a (b.erase x) nd.2 fun y hy => ?_) _
    have hne : y ≠ x := by rintro rfl; exact nd.1 hy
    exact (List.mem_erase_of_ne hne).mpr (h y (.tail _ hy))
theorem DI.bound [DecidableEq α] {stk : List (α × Nat)} {cur : Option α} (h : DI su names fin stk cur) : spent su fin stk ≤ (names.map fun m => (su m).length).sum := by
  have h1 := sum_le_of_sub (fun m => (su m).length) _ names h.nd h.sub
  have h2 : (stk.map (·.2)).sum ≤ ((stk.map (·.1)).map fun m => (su m).length).sum := by
    have hb := h.ib
    clear h1 h
    induction stk with
    | nil => simp
    | cons p r ih =>
      have := hb p (.head _)
      have := ih fun q hq => hb q (.tail _ hq)
      simp only [List.map_cons, List.sum_cons]
      omega
  rw [List.map_append, List.sum_append_nat] at h1
  unfold spent
  omega

theorem FinOk.rank {fin : List α} [DecidableEq α] (h : FinOk su fin) : ∃ r : α → Nat, (∀ m ∈ fin, r m < fin.length) ∧ ∀ m ∈ fin, ∀ n ∈ su m, n ∈ fin ∧ r n < r m := by
  induction fin with
  | nil => exact ⟨fun _ => 0, fun m hm => (nomatch hm), fun m hm => (nomatch hm)⟩
  | cons a fin ih =>
    obtain ⟨r, h1, h2⟩ := ih h.2
    refine ⟨fun m => if m ∈ fin then r m else fin.length, fun m hm => ?_, fun m hm n hn => ?_⟩
    · show (if m ∈ fin then r m else fin.length) < fin.length + 1
      split
      · rename_i hf; have := h1 m hf; omega
      · omega
    · by_cases hf : m ∈ fin
      · obtain ⟨h3, h4⟩ := h2 m hf n hn
        exact ⟨List.mem_cons_of_mem _ h3, by simp only [hf, h3, if_true]; exact h4⟩
      · have hma : m = a := (List.mem_cons.mp hm).resolve_right hf
        subst hma
        have h3 := h.1 n hn
        exact ⟨List.mem_cons_of_mem _ h3, by simp only [hf, h3, if_true, if_false]; exact h1 n h3⟩
end
set_option maxRecDepth 100000
structure Fm where
  nm : Str
  i : Nat
  mw : Addr
  it : Addr
  sc : Addr
noncomputable def Fm.rows (f : Fm) : List (Addr × C) := [(f.mw, Ob (mwObj f.it)), (f.it, Ob (itObj f.sc f.i))]
noncomputable def rowsF (stk : List Fm) : List (Addr × C) := stk.flatMap Fm.rows
noncomputable def Fm.key (f : Fm) : Str × Nat := (f.nm, f.i)
noncomputable def idxD (xs : List Str) : List (Str × V) := xs.zipIdx.map fun p => (p.1, .int p.2)
theorem idxD_snoc (xs : List Str) (x : Str) : idxD (xs ++ [x]) = idxD xs ++ [(x, .int xs.length)] := by simp [idxD, List.zipIdx_append]
theorem idxD_keys (xs : List Str) : (idxD xs).map (·.1) = xs := by
  unfold idxD; rw [List.map_map]
  show xs.zipIdx.map Prod.fst = xs
  simp
theorem idxD_len (xs : List Str) : (idxD xs).length = xs.length := by simp [idxD]
theorem idxD_pop (xs : List Str) (x : Str) (h : x ∉ xs) : (idxD (xs ++ [x])).filter (fun p => decide (p.1 ≠ x)) = idxD xs := by
  rw [idxD_snoc, List.filter_append]
  have h1 : (idxD xs).filter (fun p => decide (p.1 ≠ x)) = idxD xs := by
    rw [List.filter_eq_self]
    intro p hp
    have : p.1 ∈ xs := by rw [← idxD_keys xs]; exact List.mem_map_of_mem hp
    simp only [decide_eq_true_eq]
    rintro rfl; exact h this
  rw [h1]; simp
theorem lookup_mem {m : List (Str × V)} {k : Str} (h : k ∈ m.map (·.1)) : ∃ v, m.lookup k = some v ∧ (k, v) ∈ m := by
  induction m with
  | nil => cases h
  | cons p m ih =>
    obtain ⟨a, b⟩ := p
    by_cases e : k = a
    · subst e; exact ⟨b, by simp [List.lookup], .head _⟩
    · have hb : (k == a) = false := by simpa using e
      obtain ⟨v, h1, h2⟩ := ih ((List.mem_cons.mp h).resolve_left e)
      exact ⟨v, by simp [List.lookup, hb, h1], .tail _ h2⟩
theorem lookup_none {m : List (Str × V)} {k : Str} (h : k ∉ m.map (·.1)) : m.lookup k = none := by
  rw [List.lookup_eq_none_iff]
  intro p hp
  have : p.1 ≠ k := fun e => h (e ▸ List.mem_map_of_mem hp)
  simpa using Ne.symm this
theorem idxD_lookup {xs : List Str} {x : Str} (h : x ∈ xs) : ∃ j : Nat, (idxD xs).lookup x = some (.int j) ∧ j < xs.length := by
  obtain ⟨v, h1, h2⟩ := lookup_mem (m := idxD xs) (k := x) (by rw [idxD_keys]; exact h)
  obtain ⟨p, hp, e⟩ := List.mem_map.mp h2
  obtain ⟨e1, e2⟩ := Prod.mk.inj e
  refine ⟨p.2, by rw [h1, ← e2], ?_⟩
  obtain ⟨a, b⟩ := p
  have := List.mem_zipIdx hp
  omega
noncomputable def suOf (ns : List Nd) (k : Str) : List Str := ((ns.find? fun n => decide (n.nm = k)).map Nd.su).getD []
theorem suOf_mem {ns : List Nd} {n : Nd} (nd : (ns.map Nd.nm).Nodup) (h : n ∈ ns) : suOf ns n.nm = n.su := by
  unfold suOf
  induction ns with
  | nil => cases h
  | cons m ns ih =>
    rw [List.map_cons, List.nodup_cons] at nd
    rcases List.mem_cons.mp h with rfl | h
    · simp
    · have hne : m.nm ≠ n.nm := fun e => nd.1 (e ▸ List.mem_map_of_mem h)
      rw [List.find?_cons]
      simp only [decide_eq_false hne]
      exact ih nd.2 h
theorem StL.perm {prog : Program} {w : World} {xs ys : List Str} (h : ys.Perm xs) : ∀ o, StL prog w xs o → StL prog w ys o := fun o ⟨S, n, h1, h2, h3⟩ => ⟨S, n, h1, by rw [h.length_eq]; exact h2, fun k => (h3 k).trans h.mem_iff.symm⟩

section
variable {prog : Program} {w : World} {A : Around} {E : Value → Shared → Prop} {s B : Shared} {l l' : List (Addr × C)} {env : Env} {mg mb : Str → Option Value}

noncomputable abbrev cyN (n2i st its se si : Addr) : List (Str × V) := [("n2i", .ref n2i), ("stack", .ref st), ("itstack", .ref its), ("seen", .ref se), ("node2stacki", .ref si)]
noncomputable abbrev LG (prog : Program) (w : World) (L st its se si : Addr) (m : List (Str × V)) (stk : List Fm) (fin : List Str) (Z : List (Addr × C)) : List (Addr × C) :=
  rowsF stk ++ (L, Nsp m) :: (st, Lst (stk.reverse.map fun f => V.str f.nm)) :: (its, Lst (stk.reverse.map fun f => V.ref f.mw)) ::
    (se, StL prog w (stk.map Fm.nm ++ fin)) :: (si, Dc prog w none (idxD (stk.reverse.map Fm.nm))) :: Z

theorem stopIter_exc : isSubtype (.type "StopIteration") (.type "BaseException") = pure true := by rw [isSubtype_type]; kernel_rfl
theorem stopIter_nt : isSubtype (.type ((Manifest.find? "StopIteration").elim "type" fun x => x.metatype)) (.type "tuple") = pure false := by rw [isSubtype_type]; kernel_rfl
theorem stopIter_sub : isSubtype (.type "StopIteration") (.type "StopIteration") = pure true := by rw [isSubtype_type]; kernel_rfl

noncomputable def Cy1 (prog : Program) (w : World) (B : Shared) (ns : List Nd) (root : Str) (fin₀ : List Str) (r0 : Addr × C) (L st its se si n2i : Addr) (Z : List (Addr × C)) (n : Nat) (s : Shared) : Prop :=
  ∃ stk fin c, DI (suOf ns) (ns.map Nd.nm) fin (stk.map Fm.key) (some c) ∧ c ∈ ns.map Nd.nm ∧ (root = c ∨ root ∈ stk.map Fm.nm ++ fin) ∧ (∀ f ∈ stk, ∃ n ∈ ns, n.nm = f.nm ∧ n.sc = f.sc) ∧ (∀ k ∈ fin₀, k ∈ fin) ∧
    n + spent (suOf ns) fin (stk.map Fm.key) = ((ns.map Nd.nm).map fun m => (suOf ns m).length).sum ∧ In B (r0 :: LG prog w L st its se si (("node", .str c) :: cyN n2i st its se si) stk fin Z) s
noncomputable def Cy2 (prog : Program) (w : World) (B : Shared) (ns : List Nd) (root : Str) (fin₀ : List Str) (r0 : Addr × C) (L st its se si n2i : Addr) (Z : List (Addr × C)) (n k : Nat) (s : Shared) : Prop :=
  ∃ stk fin, stk.length = k ∧ DI (suOf ns) (ns.map Nd.nm) fin (stk.map Fm.key) none ∧ root ∈ stk.map Fm.nm ++ fin ∧ (∀ f ∈ stk, ∃ n ∈ ns, n.nm = f.nm ∧ n.sc = f.sc) ∧ (∀ k ∈ fin₀, k ∈ fin) ∧
    n + spent (suOf ns) fin (stk.map Fm.key) = ((ns.map Nd.nm).map fun m => (suOf ns m).length).sum ∧ In B (r0 :: LG prog w L st its se si (cyN n2i st its se si) stk fin Z) s
set_option maxHeartbeats 2000000 in
theorem cycle_spec {x d n2i : Addr} {rdy : V} {po nf : Int} {ns : List Nd} {envs : List Env} {R : Result → Shared → Prop} (G : Gd w mg mb B) (D : In B (SorL prog w x d n2i rdy po nf ns l) s) (hd : A.depth < 600) (hh : A.handled = none)
    (hfr : A.frames = some envs) (ok : FrOk l envs)
    (hn : (n2i == sysModules) = false) (nd : (ns.map Nd.nm).Nodup) (hlen : ns.length ≤ 90) (hb : suB 900 ns) (hcl : ∀ n ∈ ns, ∀ y ∈ n.su, y ∈ ns.map Nd.nm)
    (no : ∀ fin s', FinOk (suOf ns) fin → (∀ k ∈ ns.map Nd.nm, k ∈ fin) → fin.length ≤ ns.length → In B (SorL prog w x d n2i rdy po nf ns l) s' → R (.ok (.ret .none)) s')
    (yes : ∀ c r xs s', Rch (suOf ns) c c → c ∈ ns.map Nd.nm → xs ≠ [] → xs.length ≤ 500 → In B ((r, Lst xs) :: SorL prog w x d n2i rdy po nf ns l) s' → R (.ok (.ret (.ref r))) s') :
    codeAny (model prog w) A (.call (.ref 149) ⟨[.ref x], []⟩) R s := by
  refine r_enter ["self"] [.ref x] [("self", .ref x)] G D (by rfl) (by rfl) (by show A.depth < 1000; omega) (BindsTo.of_eq rfl) (by rfl) (by decide) rfl ?_
  intro L A' s' hd' hu' hh' hf' D
  rw [hfr] at hf'
  have hh2 : A'.handled = none := by rw [hh']; exact hh
  unfold SorL at D
  refine noE (wpAny_execs_cons (wpAny_Assign_Name (Attribute_any_ ?_)))
  tm_at "nm"
  refine r_getI G D (by tm_at "mem") (by tm_at "mem") rfl (by rfl) (by rfl) (by rfl) (by rfl) (by intro i h; cases h) fun u s hu D => ?_
  obtain rfl := er_ref hu
  refine r_store D (by tm_at "up") fun s D => ?_
  refine wpAny_execs_cons (wpAny_Assign_Name (r_list0 D fun st s D => ?_))
  refine r_store D (by tm_at "up") fun s D => ?_
  refine wpAny_execs_cons (wpAny_Assign_Name (r_list0 D fun its s D => ?_))
  refine r_store D (by tm_at "up") fun s D => ?_
  refine wpAny_execs_cons (wpAny_Assign_Name (wpAny_Call_ofName (wpAny_Name (r_bi G D (by rfl) (by rfl) (callWith_type0 (r_set0 D fun se s D => ?_))))))
  refine r_store D (by tm_at "up") fun s D => ?_
  refine wpAny_execs_cons (wpAny_Assign_Name (r_dict0 (prog := prog) G D fun si s hsi D => ?_))
  refine r_store D (by tm_at "up") fun s D => ?_
  obtain ⟨ep, hop⟩ := D.openD (d := n2i) (e := none) (kvs := dictN ns) (by tm_at "mem")
  have D := hop _ (by tm_at "up")
  clear hop
  have D := D.weak (a := L) (c' := Nsp [("n2i", .ref n2i), ("stack", .ref st), ("itstack", .ref its), ("seen", .ref se), ("node2stacki", .ref si)]) (by tm_at "up") (Nsp.sub (by tm_at "sub"))
  refine wpAny_execs_cons (wpAny_For ?_)
  tm_at "nm"
  refine r_iterD D (.inl (by tm_at "mem")) hn fun it0 s D => ?_
  have D : In B ((it0, KIt n2i 0 (dictN ns).length ep) :: LG prog w L st its se si (cyN n2i st its se si) [] [] ((x, Ins 159 d []) :: (d, Ida (sorM n2i rdy po nf)) :: (n2i, Dc prog w (some ep) (dictN ns)) :: (rowsN ns ++ l))) s :=
    D.perm (List.Perm.cons _ ((List.reverse_perm [(L, Nsp (cyN n2i st its se si)), (st, Lst []), (its, Lst []), (se, StL prog w []), (si, Dc prog w none [])]).symm.append_right _))
  have hZd : (n2i, Dc prog w (some ep) (dictN ns)) ∈ ((x, Ins 159 d []) :: (d, Ida (sorM n2i rdy po nf)) :: (n2i, Dc prog w (some ep) (dictN ns)) :: (rowsN ns ++ l)) := by tm_at "mem"
  have hZn : ∀ p ∈ rowsN ns, p ∈ ((x, Ins 159 d []) :: (d, Ida (sorM n2i rdy po nf)) :: (n2i, Dc prog w (some ep) (dictN ns)) :: (rowsN ns ++ l)) := fun p hp => .tail _ (.tail _ (.tail _ (List.mem_append_left _ hp)))
  have hZl : ∀ p ∈ l, p ∈ ((x, Ins 159 d []) :: (d, Ida (sorM n2i rdy po nf)) :: (n2i, Dc prog w (some ep) (dictN ns)) :: (rowsN ns ++ l)) := fun p hp => .tail _ (.tail _ (.tail _ (List.mem_append_right _ hp)))
  have hZe : ∀ s, In B ((x, Ins 159 d []) :: (d, Ida (sorM n2i rdy po nf)) :: (n2i, Dc prog w (some ep) (dictN ns)) :: (rowsN ns ++ l)) s → In B (SorL prog w x d n2i rdy po nf ns l) s := fun s D => D.weak (by unfold SorL; tm_at "up") Dc.any
  have hZe2 : ∀ p s, In B (p :: (x, Ins 159 d []) :: (d, Ida (sorM n2i rdy po nf)) :: (n2i, Dc prog w (some ep) (dictN ns)) :: (rowsN ns ++ l)) s → In B (p :: SorL prog w x d n2i rdy po nf ns l) s := fun p s D => D.weak (by unfold SorL; tm_at "up") Dc.any
  generalize ((x, Ins 159 d []) :: (d, Ida (sorM n2i rdy po nf)) :: (n2i, Dc prog w (some ep) (dictN ns)) :: (rowsN ns ++ l)) = Z at D hZd hZn hZl hZe hZe2
  have hsl : ∀ fin (stk : List Fm) c, DI (suOf ns) (ns.map Nd.nm) fin (stk.map Fm.key) c → stk.length + fin.length ≤ 90 := by
    intro fin stk c h
    have h1 := List.Nodup.length_le_of_subset h.nd (fun x hx => h.sub x hx)
    simp only [List.length_append, List.length_map] at h1
    omega
  have hkey : ∀ stk : List Fm, (stk.map Fm.key).map (·.1) = stk.map Fm.nm := fun stk => by rw [List.map_map]; rfl
  refine r_forDict (fun i l' => ∃ fin, DI (suOf ns) (ns.map Nd.nm) fin [] none ∧ (∀ k ∈ (ns.map Nd.nm).take i, k ∈ fin) ∧ l' = LG prog w L st its se si (cyN n2i st its se si) [] fin Z) hh2
    (fun i l' e => by obtain ⟨fin, _, _, rfl⟩ := e; exact .inl (by tm_at "mem")) ⟨[], ⟨by simp, by simp, by simp, trivial, trivial⟩, by simp, rfl⟩ D ?_ ?_
  · rintro i root _ s t hroot ⟨fin₀, hDI, hfin, rfl⟩ D
    rw [dictN_keys] at hroot
    have hrn : root ∈ ns.map Nd.nm := List.mem_of_getElem? hroot
    refine wpAny_assign_Name (r_store D (by tm_at "up") fun s D => ?_)
    refine wpAny_execs_cons (wpAny_If (wpAny_isTrue_Compare1 ?_))
    tm_at "nm"
    tm_at "nm"
    refine r_inSetL D (.inl (by tm_at "mem")) fun s D => r_truth ?_
    by_cases hsn : root ∈ (([] : List Fm).map Fm.nm ++ fin₀)
    · rw [decide_eq_true hsn]
      refine wpAny_execs_cons (wpAny_Continue ?_)
      refine ⟨_, ⟨fin₀, hDI, ?_, rfl⟩, D.weak (by tm_at "up") (Nsp.sub (by tm_at "sub"))⟩
      intro k hk
      rw [take_snoc hroot] at hk
      rcases List.mem_append.mp hk with hk | hk
      · exact hfin k hk
      · simp at hk; subst hk; simpa using hsn
    · rw [decide_eq_false hsn]
      have D : In B ((it0, KIt n2i (i + 1) (dictN ns).length ep) :: LG prog w L st its se si (("node", .str root) :: cyN n2i st its se si) [] fin₀ Z) s := D.weak (by tm_at "up") (Nsp.sub (by tm_at "sub"))
      refine wpAny_execs_nil (wpAny_execs_cons ?_)
      refine r_while (fun n s => Cy1 prog w B ns root fin₀ (it0, KIt n2i (i + 1) (dictN ns).length ep) L st its se si n2i Z n s) ?_
        (((ns.map Nd.nm).map fun m => (suOf ns m).length).sum - spent (suOf ns) fin₀ []) ⟨[], fin₀, root, ⟨hDI.nd, hDI.sub, hDI.ib, hDI.fo, trivial⟩, hrn, .inl rfl, by simp, fun _ h => h, by have := hDI.bound; simp only [List.map_nil]; omega, D⟩
      clear D
      rintro n s ⟨stk, fin, c, hDI, hcn, hrt, hok, hf0, hms, D⟩
      have hsz := hsl _ _ _ hDI
      refine isTrue_plain (wpAny_Constant_bool (r_truth ?_))
      refine wpAny_execs_cons (wpAny_mono (Q := fun f s₁ => (f = .next ∧ ∃ k, Cy2 prog w B ns root fin₀ (it0, KIt n2i (i + 1) (dictN ns).length ep) L st its se si n2i Z n k s₁) ∨
          (∃ v, f = .ret v ∧ R (.ok (.ret v)) s₁)) (E := NoE) ?_ ?_ fun _ _ x => x)
      · refine wpAny_If (wpAny_isTrue_Compare1 ?_)
        tm_at "nm"
        tm_at "nm"
        refine r_inSetL D (.inl (by tm_at "mem")) fun s D => r_truth ?_
        by_cases hcs : c ∈ stk.map Fm.nm ++ fin
        · rw [decide_eq_true hcs]
          refine wpAny_execs_cons (wpAny_If (wpAny_isTrue_Compare1 ?_))
          tm_at "nm"
          tm_at "nm"
          refine r_din D (.inl (by tm_at "mem")) hsi fun s D => r_truth ?_
          by_cases hck : c ∈ stk.map Fm.nm
          · have hck' : c ∈ stk.reverse.map Fm.nm := by rw [List.map_reverse, List.mem_reverse]; exact hck
            obtain ⟨j, hj, hjl⟩ := idxD_lookup hck'
            rw [hj]
            refine wpAny_execs_cons (wpAny_Return_some (wpAny_BinOp (r_sliceFrom (B := B) (a := st) (xs := stk.reverse.map fun f => V.str f.nm) (i := j) ?_)))
            tm_at "nm"
            refine Subscript_ ?_
            tm_at "nm"
            tm_at "nm"
            refine r_idxD D (.inl (by tm_at "mem")) hj fun u s hu D => ?_
            obtain ⟨tj, rfl⟩ := er_int hu
            refine ⟨tj, _, rfl, rfl, D, .inl (by tm_at "mem"), by simp; omega, by simp at hjl ⊢; omega, fun sl s D => ?_⟩
            refine r_list1 (B := B) ?_
            tm_at "nm"
            refine ⟨_, D, fun sn s D => ?_⟩
            refine r_addL D (.inl (by tm_at "mem")) (.inl (by tm_at "mem")) (by simp; omega) (by simp) fun r s D => ?_
            refine .inr ⟨_, rfl, yes c r (List.drop j (stk.reverse.map fun f => V.str f.nm) ++ [V.str c]) s (hDI.so.reach c ?_) hcn ?_ ?_ (hZe2 _ s (D.sublist ?_))⟩
            · rw [hkey]; exact hck
            · simp
            · simp; omega
            · refine .cons_cons _ (.cons _ (.cons _ (.cons _ ?_)))
              exact List.Sublist.trans (by tm_at "sl") (List.sublist_append_right (rowsF stk) _)
          · have : (idxD (stk.reverse.map Fm.nm)).lookup c = none := lookup_none (by rw [idxD_keys, List.map_reverse, List.mem_reverse]; exact hck)
            rw [this]
            have hcf : c ∈ fin := (List.mem_append.mp hcs).resolve_left hck
            refine wpAny_execs_nil (wpAny_execs_nil (.inl ⟨rfl, _, stk, fin, rfl, hDI.child hcf, ?_, hok, hf0, hms, D.weak (by tm_at "up") (Nsp.sub (by tm_at "sub"))⟩))
            exact hrt.elim (fun e => e ▸ hcs) id
        · rw [decide_eq_false hcs]
          obtain ⟨nn, hnn, hnc, hlk⟩ := (dictN_lookup (ns := ns) c).resolve_right fun h => h.1 hcn
          refine wpAny_execs_cons (wpAny_Expr (r_callAttr ?_))
          tm_at "nm"
          refine r_methSetL D (.inl (by tm_at "mem")) ?_
          refine callWith_one ?_
          tm_at "nm"
          refine r_setAddL D (by tm_at "up") (by simp; omega) fun s D => ?_
          refine wpAny_execs_cons (wpAny_Expr (r_callAttr ?_))
          tm_at "nm"
          refine r_methList D (.inl (by tm_at "mem")) F.plainAttrs_list F.slot_list_append F.type_list_append ?_
          refine callWith_one (Attribute_any_ (r_callB1 G D (by rfl) (by rfl) (Attribute_any_ (Subscript_ ?_))))
          tm_at "nm"
          tm_at "nm"
          refine r_idxD D (.inl (by tm_at "mem")) hlk fun u s hu D => ?_
          obtain rfl := er_ref hu
          have hin := hZn _ (mem_ins hnn)
          have hid := hZn _ (mem_ida hnn)
          have hil := hZn _ (mem_lst hnn)
          refine r_getS G D (x := nn.x) (d := nn.d) (by tm_at "mem") (by tm_at "mem") (by rfl) (by rfl) (by rfl) (by rfl) (by rfl) (by rfl) rfl (by intro i h; cases h) fun u s hu D => ?_
          obtain rfl := er_ref hu
          refine r_iterB D (a := nn.sc) (xs := nn.su.map V.str) (.inl (by tm_at "mem")) fun it s D => ?_
          refine r_nextAttr D (.head _) fun mw s D => ?_
          refine r_append D (by tm_at "up") (by simp; omega) fun s D => ?_
          refine wpAny_execs_cons (wpAny_Assign_Subscript (r_callB1 G D (by rfl) (by rfl) ?_))
          tm_at "nm"
          refine r_lenL D (.inl (by tm_at "mem")) (by simp; omega) fun tl s D => ?_
          tm_at "nm"
          tm_at "nm"
          refine r_dset D (by tm_at "up") (by rw [idxD_len]; simp; omega) fun s D => ?_
          refine wpAny_execs_cons (wpAny_Expr (r_callAttr ?_))
          tm_at "nm"
          refine r_methList D (.inl (by tm_at "mem")) F.plainAttrs_list F.slot_list_append F.type_list_append ?_
          refine callWith_one ?_
          tm_at "nm"
          refine r_append D (by tm_at "up") (by simp; omega) fun s D => ?_
          refine wpAny_execs_nil (.inl ⟨rfl, _, ⟨c, 0, mw, it, nn.sc⟩ :: stk, fin, rfl, hDI.push hcn (by rw [hkey]; exact hcs), ?_, ?_, hf0, ?_, ?_⟩)
          · exact hrt.elim (fun e => by subst e; exact .head _) (fun h => .tail _ h)
          · intro f hf
            rcases List.mem_cons.mp hf with rfl | hf
            · exact ⟨nn, hnn, hnc, rfl⟩
            · exact hok f hf
          · show n + spent (suOf ns) fin ((c, 0) :: stk.map Fm.key) = _
            rw [spent_push]; exact hms
          · have hcr : c ∉ (idxD (stk.reverse.map Fm.nm)).map (·.1) := by
              rw [idxD_keys, List.map_reverse, List.mem_reverse]
              exact fun h => hcs (List.mem_append_left _ h)
            rw [setL_notMem hcr] at D
            have e1 : idxD ((⟨c, 0, mw, it, nn.sc⟩ :: stk : List Fm).reverse.map Fm.nm) = idxD (stk.reverse.map Fm.nm) ++ [(c, er (.int ((stk.reverse.map fun f => V.str f.nm).length : Nat) tl))] := by
              rw [List.reverse_cons, List.map_append, List.map_cons, List.map_nil, idxD_snoc]; simp [er]
            have D := D.weak (c' := Nsp (cyN n2i st its se si)) (by tm_at "up") (Nsp.sub (by tm_at "sub"))
            have D := D.perm (List.perm_middle (l₁ := [_, _])).symm
            unfold LG
            rw [e1, List.reverse_cons, List.map_append, List.map_append]
            exact D
      · rintro f s (⟨rfl, kk, hC⟩ | ⟨v, rfl, hR⟩)
        · refine wpAny_execs_cons ?_
          refine r_while (fun k s => Cy2 prog w B ns root fin₀ (it0, KIt n2i (i + 1) (dictN ns).length ep) L st its se si n2i Z n k s) ?_ kk hC
          clear hC kk
          rintro k s ⟨stk, fin, hk, hDI, hrt, hok, hf0, hms, D⟩
          have hsz := hsl _ _ _ hDI
          refine isTrue_plain ?_
          tm_at "nm"
          refine r_truthL D (.inl (by tm_at "mem")) (by simp; omega) fun s D => ?_
          cases stk with
          | nil =>
            refine wpAny_execs_cons (wpAny_Break ?_)
            refine wpAny_execs_nil ⟨_, ⟨fin, hDI, ?_, rfl⟩, D⟩
            intro y hy
            rw [take_snoc hroot] at hy
            rcases List.mem_append.mp hy with hy | hy
            · exact hf0 y (hfin y hy)
            · simp at hy; subst hy; simpa using hrt
          | cons top r =>
            have hne : (!((top :: r).reverse.map fun f => V.str f.nm).isEmpty) = true := by simp
            rw [hne]
            obtain ⟨nn, hnn, hnc, hns⟩ := hok top (.head _)
            have hil := hZn _ (mem_lst hnn)
            rw [hns] at hil
            have hsu : suOf ns top.nm = nn.su := by rw [← hnc]; exact suOf_mem nd hnn
            refine wpAny_execs_cons (wpAny_Try_except (wpAny_execs_cons (wpAny_Assign_Name (r_callE (Subscript_ ?_)))))
            tm_at "nm"
            refine wpAny_UnaryOp (r_int D fun t1 s D => neg_int ?_)
            have D := D.tk (tk := s.toks + 1)
            refine r_idxLast (x := .ref top.mw) D (.inl (by tm_at "mem")) (by simp at hsz ⊢; omega) (by simp) ?_
            tm_at "inv"
            refine callWith_mw D (it := top.it) (.tail _ (.head _)) ?_
            refine r_mwCall D hh2 (it := top.it) (.tail _ (.head _)) (a := top.sc) (i := top.i) (xs := nn.su.map V.str) (.inl (by tm_at "mem")) (.tail (.tail (.head rfl))) (.tail (.tail (.head rfl))) ?_ ?_
            · intro v s hv D
              rw [List.getElem?_map] at hv
              obtain ⟨y, hy, hyv⟩ := Option.map_eq_some_iff.mp hv
              obtain ⟨ty, rfl⟩ := er_str hyv.symm
              refine r_store D (by tm_at "up") fun s D => ?_
              refine wpAny_execs_cons (wpAny_Break ?_)
              have hsy : (suOf ns top.nm)[top.i]? = some y := by rw [hsu]; exact hy
              have hDI' : DI (suOf ns) (ns.map Nd.nm) fin (({ top with i := top.i + 1 } :: r : List Fm).map Fm.key) (some y) := DI.adv (m := top.nm) (i := top.i) hDI hsy
              have hbd := hDI'.bound
              have hsp : spent (suOf ns) fin (({ top with i := top.i + 1 } :: r : List Fm).map Fm.key) = spent (suOf ns) fin ((top :: r).map Fm.key) + 1 := spent_adv
              refine wpAny_execs_nil ⟨n - 1, by omega, { top with i := top.i + 1 } :: r, fin, y, hDI', ?_, .inr hrt, ?_, hf0, by omega, ?_⟩
              · exact hcl nn hnn y (List.mem_of_getElem? hy)
              · intro f hf
                rcases List.mem_cons.mp hf with rfl | hf
                · exact ⟨nn, hnn, hnc, hns⟩
                · exact hok f (.tail _ hf)
              · have D := D.weak (c' := Nsp (("node", .str y) :: cyN n2i st its se si)) (by tm_at "up") (Nsp.sub (by tm_at "sub"))
                have e1 : ({ top with i := top.i + 1 } :: r : List Fm).reverse.map (fun f => V.str f.nm) = (top :: r).reverse.map (fun f => V.str f.nm) := by simp
                have e2 : ({ top with i := top.i + 1 } :: r : List Fm).reverse.map (fun f => V.ref f.mw) = (top :: r).reverse.map (fun f => V.ref f.mw) := by simp
                have e3 : ({ top with i := top.i + 1 } :: r : List Fm).reverse.map Fm.nm = (top :: r).reverse.map Fm.nm := by simp
                unfold LG
                rw [e1, e2, e3]
                exact D
            · intro hv e s D
              have hsy : (suOf ns top.nm)[top.i]? = none := by rw [hsu]; rw [List.getElem?_map] at hv; simpa using hv
              refine r_catch0 G D hf' ((ok.mono (fun p hp => ?_)).cons rfl rfl (by tm_at "mem")) rfl (by rfl) (by rfl) stopIter_exc stopIter_nt stopIter_sub fun s D => ?_
              · have := hZl p hp
                tm_at "mem"
              have e1 : (top :: r).reverse.map (fun f => V.str f.nm) = r.reverse.map (fun f => V.str f.nm) ++ [V.str top.nm] := by simp
              have e2 : (top :: r).reverse.map (fun f => V.ref f.mw) = r.reverse.map (fun f => V.ref f.mw) ++ [V.ref top.mw] := by simp
              have e3 : (top :: r).reverse.map Fm.nm = r.reverse.map Fm.nm ++ [top.nm] := by simp
              have hnt : top.nm ∉ r.reverse.map Fm.nm := by
                have := hDI.nd
                rw [hkey, List.map_cons, List.cons_append, List.nodup_cons] at this
                rw [List.map_reverse, List.mem_reverse]
                exact fun h => this.1 (List.mem_append_left _ h)
              rw [e1, e2, e3] at D
              have hsz' : r.length ≤ 90 := by simp at hsz; omega
              refine noE (wpAny_execs_cons (wpAny_Delete (wpAny_deleteEach_cons (wpAny_delete_Subscript ?_))))
              tm_at "nm"
              refine r_callAttr ?_
              tm_at "nm"
              refine r_methList D (.inl (by tm_at "mem")) F.plainAttrs_list F.slot_list_pop F.type_list_pop (callWith_zero ?_)
              refine r_pop D (by tm_at "up") (by simp; omega) fun v s hv D => ?_
              obtain ⟨tv, rfl⟩ := er_str hv
              refine r_ddel D (by tm_at "up") (by rw [idxD_len]; simp; omega) ?_ fun s D => ?_
              · obtain ⟨j, hj, _⟩ := idxD_lookup (xs := r.reverse.map Fm.nm ++ [top.nm]) (x := top.nm) (by simp)
                rw [hj]; rfl
              rw [idxD_pop _ _ hnt] at D
              refine wpAny_deleteEach_nil (wpAny_execs_cons (r_expr (r_callAttr ?_)))
              tm_at "nm"
              refine r_methList D (.inl (by tm_at "mem")) F.plainAttrs_list F.slot_list_pop F.type_list_pop (callWith_zero ?_)
              refine r_pop D (by tm_at "up") (by simp; omega) fun v s hv D => ?_
              obtain rfl := er_ref hv
              refine wpAny_execs_nil (wpAny_execs_nil ⟨r.length, by simp at hk; omega, r, top.nm :: fin, rfl, DI.pop (m := top.nm) (i := top.i) hDI hsy, ?_, fun f hf => hok f (.tail _ hf), fun q hq => .tail _ (hf0 q hq), ?_, ?_⟩)
              · have hp : (r.map Fm.nm ++ top.nm :: fin).Perm ((top :: r).map Fm.nm ++ fin) := List.perm_middle
                exact hp.mem_iff.mpr hrt
              · rw [spent_pop (m := top.nm) (i := top.i) hDI hsy]; exact hms
              · have D : In B ((it0, KIt n2i (i + 1) (dictN ns).length ep) :: rowsF r ++ _) s := D.sublist (.cons_cons _ (.cons _ (.cons _ (.refl _))))
                exact D.weak (a := se) (by tm_at "up") (StL.perm List.perm_middle)
        · exact hR
  · rintro _ s ⟨fin, hDI, hfin, rfl⟩ D
    refine wpAny_execs_cons (wpAny_Return_some (wpAny_Constant_none ?_))
    have hz := hsl fin [] none hDI
    refine no fin s hDI.fo (fun k hk => hfin k ?_) ?_ (hZe s D.drop.drop.drop.drop.drop)
    · have e : (dictN ns).length = (ns.map Nd.nm).length := by simp [dictN]
      rw [e, List.take_length]; exact hk
    · have h1 := List.Nodup.length_le_of_subset (by simpa using hDI.nd) (fun x hx => hDI.sub x (by simpa using hx))
      simpa using h1
end
set_option maxRecDepth 100000
noncomputable def Ned (B : Shared) (l : List (Addr × C)) : Option (Addr × C) → Prop
  | none => True
  | some p => Rd B l p.1 p.2
theorem Ned.tail {B : Shared} {l : List (Addr × C)} {nd : Option (Addr × C)} {p : Addr × C} (h : Ned B l nd) : Ned B (p :: l) nd := by
  cases nd with
  | none => trivial
  | some q => exact Rd.tail h
structure It (prog : Program) (w : World) (B : Shared) (it : Addr) (c : Nat → C) (xs : List V) (nd : Option (Addr × C)) : Prop where
  walk : ∀ (A : Around) (l : List (Addr × C)) (s : Shared) (i : Nat), A.handled = none → Ned B l nd → In B ((it, c i) :: l) s →
    ∃ (fp : List Addr) (n : Nat) (P : Nat → Value → Prop) (St : Nat → Heap → Prop), Walks prog w A it fp [it] n P St ∧ n = xs.length ∧ St i s.heap ∧ (∀ j v, P j v → xs[j]? = some (er v)) ∧ ∀ j h, St j h → Has h it (c j)
section
variable {prog : Program} {w : World} {A : Around} {E : Value → Shared → Prop} {s B : Shared} {l l' : List (Addr × C)} {env : Env} {mg mb : Str → Option Value} {it : Addr} {c : Nat → C} {xs : List V} {nd : Option (Addr × C)}

theorem In.headE {c₁ c₂ : C} {h' : Heap} {tk : Nat} (D : In B ((it, c₁) :: l) s) (he : ∀ b o, b ∉ [it] → s.heap.get? b = some o → h'.get? b = some o) (hc : Has h' it c₂) : In B ((it, c₂) :: l) { s with heap := h', toks := tk } := by
  have hk : ∀ b o, b ≠ it → s.heap.get? b = some o → h'.get? b = some o := fun b o hb => he b o (by simpa using hb)
  refine ⟨fun b o e => hk b o ?_ (D.keep b o e), fun p hp => ?_, fun p hp => ?_, D.nd, D.gens, D.drawn, D.os⟩
  · rintro rfl; have := D.new _ (.head _); rw [this] at e; cases e
  · rcases List.mem_cons.mp hp with rfl | hp
    · exact hc
    · exact (D.cell p (.tail _ hp)).ext fun o ho => hk _ _ (fun e => D.ne hp e.symm) ho
  · rcases List.mem_cons.mp hp with rfl | hp
    · exact D.new (it, c₁) (.head _)
    · exact D.new p (.tail _ hp)
theorem In.tailE {c₁ : C} {h' : Heap} {tk : Nat} (D : In B ((it, c₁) :: l) s) (he : ∀ b o, b ∉ [it] → s.heap.get? b = some o → h'.get? b = some o) : In B l { s with heap := h', toks := tk } := by
  have hk : ∀ b o, b ≠ it → s.heap.get? b = some o → h'.get? b = some o := fun b o hb => he b o (by simpa using hb)
  exact (D.dropExt (h' := h') hk).tk

theorem It.next (I : It prog w B it c xs nd) {i : Nat} {Q : Option Value → Shared → Prop} (hA : A.handled = none) (hn : Ned B l nd) (D : In B ((it, c i) :: l) s) (hi : i ≤ xs.length)
    (item : ∀ v s', xs[i]? = some (er v) → In B ((it, c (i + 1)) :: l) s' → Q (some v) s') (done : i = xs.length → ∀ s', In B l s' → Q none s') : wpAny (model prog w) A (pyNext (.ref it)) Q E s := by
  obtain ⟨fp, n, P, St, W, rfl, st, hP, hS⟩ := I.walk A l s i hA hn D
  by_cases h : i < xs.length
  · exact W.item i s Q E h st fun v h' tk hv st' hk => item v _ (hP i v hv) (D.headE hk (hS _ _ st'))
  · have e : i = xs.length := by omega
    subst e
    exact W.done s Q E st fun h' tk hk => done rfl _ (D.tailE hk)
theorem It.self (I : It prog w B it c xs nd) {i : Nat} {Q : Value → Shared → Prop} (hA : A.handled = none) (hn : Ned B l nd) (D : In B ((it, c i) :: l) s) (h : Q (.ref it) s) : wpAny (model prog w) A (pyIter (.ref it)) Q E s := by
  obtain ⟨fp, n, P, St, W, _, st, _, _⟩ := I.walk A l s i hA hn D
  exact W.self i s Q E st h

theorem It.list {a : Addr} : It prog w B it (Itr a) xs (some (a, Lst xs)) := ⟨fun A l s i hA hn D => by
  obtain ⟨o, ho, vs, n, rfl, hx⟩ := D.drop.rd hn
  have hlen : vs.size = xs.length := by rw [← hx]; simp
  have hne : a ≠ it := by
    rintro rfl
    obtain ⟨o', ho', hc, _⟩ := D.has (.head _)
    rw [ho] at ho'; cases ho'; simp at hc
  refine ⟨_, _, _, _, Walks.list hA it a hne vs, hlen, ⟨itr_is (D.has (.head _)), ⟨_, ho, rfl, n, rfl⟩⟩, fun j v hv => ?_, fun j h st => is_itr st.1⟩
  rw [← hx]; simp [hv]⟩
theorem It.tup {a : Addr} : It prog w B it (TIt a) xs (some (a, Tup xs)) := ⟨fun A l s i hA hn D => by
  obtain ⟨o, ho, vs, n, rfl, hx⟩ := D.drop.rd hn
  have hlen : vs.size = xs.length := by rw [← hx]; simp
  have hne : a ≠ it := by
    rintro rfl
    obtain ⟨o', ho', hc, _⟩ := D.has (.head _)
    rw [ho] at ho'; cases ho'; simp at hc
  refine ⟨_, _, _, _, Walks.tuple hA it a hne vs, hlen, ⟨tit_is (D.has (.head _)), ⟨_, ho, rfl, n, rfl⟩⟩, fun j v hv => ?_, fun j h st => is_tit st.1⟩
  rw [← hx]; simp [hv]⟩
theorem dcAt_ne {d : Addr} {kvs : List (Str × V)} {ep : Nat} {h : Heap} {c₁ : C} {T : String} (hd : Has h d (Dc prog w (some ep) kvs)) (hi : Has h it c₁) (hc : ∀ o, c₁ o → o.cls = .type T) (hT : T ≠ "dict") : d ≠ it := by
  rintro rfl
  obtain ⟨o, ho, _, _, _, hx, _⟩ := hd
  obtain ⟨o', ho', hc'⟩ := hi
  rw [ho] at ho'
  cases ho'
  have := hc o hc'
  rw [hx.1] at this
  exact hT (by injection this with e; exact e.symm)
theorem It.keys {d : Addr} {kvs : List (Str × V)} {ep : Nat} : It prog w B it (fun i => KIt d i kvs.length ep) (kvs.map fun p => V.str p.1) (some (d, Dc prog w (some ep) kvs)) := ⟨fun A l s i hA hn D => by
  obtain ⟨vs, hd, hkv⟩ := dcAt_of (D.drop.rd hn)
  have hlen : vs.length = kvs.length := by rw [← hkv, List.length_map]
  have hne : d ≠ it := dcAt_ne (D.drop.rd hn) (D.has (.head _)) (fun o h => h.1) (by decide)
  have hit := kit_is (D.has (.head _))
  rw [← hlen] at hit
  refine ⟨_, _, _, _, Walks.dictKeys hA it d hne vs ep, by rw [List.length_map, hlen], ⟨hit, hd⟩, fun j v hv => ?_, fun j h st => by have := st.1; rw [hlen] at this; exact is_kit this⟩
  obtain ⟨k, x, h1, h2⟩ := hv
  obtain ⟨t, rfl⟩ := Value.isStrOf_shape h2
  rw [← hkv, List.map_map, List.getElem?_map, h1]; rfl⟩
noncomputable def VIt (d : Addr) (n ep i : Nat) : C := fun o => o.cls = .type "dict_valueiterator" ∧ o.data = .fields #[.ref d, .int i 0, .int n 0, .int ep 0]
theorem It.values {d : Addr} {kvs : List (Str × V)} {ep : Nat} : It prog w B it (VIt d kvs.length ep) (kvs.map (·.2)) (some (d, Dc prog w (some ep) kvs)) := ⟨fun A l s i hA hn D => by
  obtain ⟨vs, hd, hkv⟩ := dcAt_of (D.drop.rd hn)
  have hlen : vs.length = kvs.length := by rw [← hkv, List.length_map]
  have hne : d ≠ it := dcAt_ne (D.drop.rd hn) (D.has (.head _)) (fun o h => h.1) (by decide)
  have hit : s.heap.IsValIter it d i kvs.length ep := let ⟨o, ho, h1, h2⟩ := D.has (.head _); ⟨o, ho, h1, h2⟩
  rw [← hlen] at hit
  refine ⟨_, _, _, _, Walks.dictValues hA it d hne vs ep, by rw [List.length_map, hlen], ⟨hit, hd⟩, fun j v hv => ?_, fun j h st => by have := st.1; rw [hlen] at this; exact let ⟨o, ho, h1, h2⟩ := this; ⟨o, ho, h1, h2⟩⟩
  obtain ⟨k, h1⟩ := hv
  rw [← hkv, List.map_map, List.getElem?_map, h1]; rfl⟩
noncomputable def RIt (n : Nat) (i : Nat) : C := fun o => o = { cls := .type "range_iterator", data := .fields #[.int i 0, .int ((n : Int) - i) 0, .int 1 0] }
noncomputable def SIt (x : Str) (t : Tok) (i : Nat) : C := fun o => o.cls = .type "str_ascii_iterator" ∧ o.data = .fields #[.str x t, .int i 0]
theorem It.range {n : Nat} : It prog w B it (RIt n) ((List.range n).map fun i : Nat => V.int (i : Int)) none := ⟨fun A l s i hA hn D => by
  have h0 : ∀ i : Nat, (0 : Int) + (i : Nat) * 1 = i := fun i => by omega
  obtain ⟨o, ho, he⟩ := D.has (.head _)
  have he : o = _ := he
  subst he
  refine ⟨[it], n, fun j v => j < n ∧ ∃ t, v = .int j t, fun j h => IsRangeIter h it j ((n : Int) - j) 1, ⟨fun _ hb => hb, fun j h h' st hk => hk it (by simp) _ st, fun j s Q E hj st hQ => ?_, fun s Q E st hQ => ?_, fun j s Q E st hQ => wpAny_pyIter_rangeiter st hQ⟩, by simp, ho, fun j v hv => ?_, fun j h st => ⟨_, st, rfl⟩⟩
  · refine wpAny_pyNext_range_item st (by omega) fun h' hit' hs' => ?_
    refine hQ _ h' _ ⟨hj, _, rfl⟩ ?_ fun b o hb e => hs'.extBut b o (fun h => hb (by simp [h])) e
    have e1 : ((j + 1 : Nat) : Int) = (j : Int) + 1 := by omega
    have e2 : (n : Int) - ((j + 1 : Nat) : Int) = (n : Int) - (j : Int) - 1 := by omega
    rw [e1, ← e1, e2, e1]; exact hit'
  · exact wpAny_pyNext_range_end hA st (by omega) fun h' he' => hQ h' s.toks fun b o hb e => he' b o (fun h => hb (by simp [h])) e
  · obtain ⟨hj, t, rfl⟩ := hv
    simp [hj, er]⟩
theorem It.str {x : Str} {t : Tok} {ys : List Str} (hy : ys.map (·.cps.toList) = x.cps.toList.map fun c => [c]) : It prog w B it (SIt x t) (ys.map V.str) none := ⟨fun A l s i hA hn D => by
  have hit : s.heap.IsStrIter it "str_ascii_iterator" x t i := let ⟨o, ho, h1, h2⟩ := D.has (.head _); ⟨o, ho, h1, h2⟩
  have hlen : x.cps.size = ys.length := by have := congrArg List.length hy; simpa using this.symm
  refine ⟨_, _, _, _, Walks.strAscii hA it x t, by simpa using hlen, hit, fun j v hv => ?_, fun j h st => let ⟨o, ho, h1, h2⟩ := st; ⟨o, ho, h1, h2⟩⟩
  obtain ⟨c, u, h1, rfl⟩ := hv
  have h2 : (ys.map (·.cps.toList))[j]? = some [c] := by rw [hy]; simp [h1]
  rw [List.getElem?_map] at h2 ⊢
  obtain ⟨y, h3, h4⟩ := Option.map_eq_some_iff.mp h2
  rw [h3]
  show some (V.str y) = some (V.str _)
  have : y = ⟨#[c]⟩ := by
    obtain ⟨cs⟩ := y
    obtain ⟨cl⟩ := cs
    simp at h4
    rw [h4]
  rw [this]⟩
end
set_option maxRecDepth 100000
section
variable {prog : Program} {w : World} {A : Around} {E : Value → Shared → Prop} {s B : Shared} {l l' : List (Addr × C)} {env : Env} {mg mb : Str → Option Value} {it : Addr} {c : Nat → C} {xs : List V} {nd : Option (Addr × C)}

theorem r_for {target : Expr} {body : List Stmt} {Q : Flow → Shared → Prop} (J : Nat → List (Addr × C) → Prop) {l₀ : List (Addr × C)} (I : It prog w B it c xs nd) (hA : A.handled = none)
    (hl : ∀ i l, J i l → Ned B l nd) (h0 : J 0 l₀) (D : In B ((it, c 0) :: l₀) s)
    (turn : ∀ i x l s v, xs[i]? = some x → J i l → er v = x → In B ((it, c (i + 1)) :: l) s →
      wpAny (model prog w) A (assign target env v) (fun _ s₂ => wpAny (model prog w) A (execs body env) (After (fun s₃ => ∃ l', J (i + 1) l' ∧ In B ((it, c (i + 1)) :: l') s₃) Q) NoE s₂) NoE s)
    (done : ∀ l s, J xs.length l → In B l s → Q .next s) (ht : ∀ v, letOwnedTupleGo target (.ref it) v = pure () := by intro _; rfl) :
    codeAny (model prog w) A (.forLoop target (.ref it) body [] env) (fun r s' => match r with | .ok f => Q f s' | .error e => cameBackBy (model prog w) A env E e s') s := by
  refine codeAny_forLoop (fun n s => ∃ i l, i + n = xs.length ∧ J i l ∧ In B ((it, c i) :: l) s) (fun n s hI => ?_) xs.length ⟨0, l₀, by omega, h0, D⟩ ht
  obtain ⟨i, l, hn, hJ, D⟩ := hI
  refine I.next hA (hl i l hJ) D (by omega) (fun v s hv D => ?_) fun e s D => wpAny_execs_nil (done l _ (e ▸ hJ) D)
  have hi : i < xs.length := (List.getElem?_eq_some_iff.mp hv).1
  refine noE (wpAny_mono (turn i _ l _ _ hv hJ rfl D) (fun _ s₂ h₂ => wpAny_mono h₂ (fun f s₃ h₃ => ?_) fun _ _ x => x.elim) fun _ _ x => x)
  cases f with
  | next => obtain ⟨l', h1, h2⟩ := h₃; exact ⟨n - 1, by omega, i + 1, l', by omega, h1, h2⟩
  | cont => obtain ⟨l', h1, h2⟩ := h₃; exact ⟨n - 1, by omega, i + 1, l', by omega, h1, h2⟩
  | brk => exact h₃
  | ret v => exact h₃

noncomputable def tests (ifs : List Expr) (env : Env) : Sem Bool := forIn ifs true fun c r => if r = true then do let ok ← isTrue c env (eval c env); pure (ForInStep.yield ok) else pure (ForInStep.yield r)
theorem r_tests0 {Q : Bool → Shared → Prop} (h : Q true s) : wpAny (model prog w) A (tests [] env) Q E s := wpAny_tests_nil h
theorem r_tests1 {e : Expr} {Q : Bool → Shared → Prop} (h : wpAny (model prog w) A (isTrue e env (eval e env)) Q E s) : wpAny (model prog w) A (tests [e] env) Q E s := wpAny_tests_one h

theorem r_compK {elt iter target : Expr} {ifs : List Expr} {scope : Scope} {cl : List (Str × Addr)} {pos : Pos} {RR : Value → Addr → Result → Shared → Prop} (J : Nat → List V → List (Addr × C) → Prop) {l₀ : List (Addr × C)}
    (I : It prog w B it c xs nd) (hA : A.handled = none) (hl : ∀ i ys l, J i ys l → Ned B l nd ∧ ys.length ≤ 1000) (h0 : J 0 [] l₀) (D : In B ((it, c 0) :: l₀) s)
    (turn : ∀ K acc i x ys l s v, xs[i]? = some x → J i ys l → er v = x → In B ((it, c (i + 1)) :: (K, Nsp []) :: (acc, Lst ys) :: l) s →
      wpAny (model prog w) A (assign target (compEnvC scope cl K env) v) (fun _ s₂ => wpAny (model prog w) A (tests ifs (compEnvC scope cl K env)) (fun ok s₃ =>
        if ok = true then wpAny (model prog w) A (eval elt (compEnvC scope cl K env)) (fun y s₄ => ∃ m l', J (i + 1) (ys ++ [er y]) l' ∧ In B ((it, c (i + 1)) :: (K, Nsp m) :: (acc, Lst ys) :: l') s₄) NoE s₃
        else ∃ m l', J (i + 1) ys l' ∧ In B ((it, c (i + 1)) :: (K, Nsp m) :: (acc, Lst ys) :: l') s₃) NoE s₂) NoE s)
    (done : ∀ K acc ys l s, J xs.length ys l → In B ((K, Nsp []) :: (acc, Lst ys) :: l) s → RR (.ref acc) K (.ok .next) s)
    (hcell : ∀ y ∈ scope.names, y.2 ≠ .cell) (hkind : scope.kind = .function) (ht : ∀ v, letOwnedTupleGo target (.ref it) v = pure () := by intro _; rfl) :
    wpAny (model prog w) A (newList []) (fun acc s₃ => wpAny (model prog w) A (newFunctionEnv scope env.globals cl [] env.qual none .none (some env)) (fun cenv s₄ =>
      codeAny (model prog w) A (.compStart (.ListComp elt [⟨target, iter, ifs, 0⟩] scope pos) 0 (.ref it) acc { cenv with scope := relabel scope env }) (RR acc cenv.locals) s₄) E s₃) E s := by
  unfold newList
  refine wpAny_newObj_type ?_ (by size_fits)
  have D := (D.push (c := Lst []) (o := { cls := .type "list", data := .seq ([] : List Value).toArray }) (tk := s.toks) rfl ⟨_, _, rfl, rfl⟩)
  generalize hacc : s.heap.objs.size = acc at D ⊢
  generalize hs₁ : ({ s with heap := s.heap.push { cls := .type "list", data := .seq ([] : List Value).toArray }, toks := s.toks } : Shared) = s₁ at D
  refine wpAny_newFunctionEnv hcell (by intro y hy; simp at hy) (fun h₁ hns hsb => ?_) hkind
  have hk₁ : ∀ b o, s₁.heap.get? b = some o → h₁.get? b = some o := fun b o e => hsb.extBut b o (Nat.ne_of_lt (Heap.lt_size e)) (Heap.get?_push_of_some _ e)
  have D := D.add (a := s₁.heap.objs.size) (c := Nsp []) (h' := h₁) (tk := s₁.toks) hk₁ (Heap.get?_none_of_le (Nat.le_refl _)) (ns_has hns fun p hp => nomatch hp)
  generalize s₁.heap.objs.size = K at D ⊢
  have loop : ∀ s, In B ((it, c 0) :: (K, Nsp []) :: (acc, Lst []) :: l₀) s → codeAny (model prog w) A (.compLoop (.ListComp elt [⟨target, iter, ifs, 0⟩] scope pos) 0 (.ref it) (.ref acc) (compEnvC scope cl K env)) (RR (.ref acc) K) s := by
    intro s D
    refine codeAny_compLoop_tests (fun n s => ∃ i ys l, i + n = xs.length ∧ J i ys l ∧ In B ((it, c i) :: (K, Nsp []) :: (acc, Lst ys) :: l) s) (fun n s hI => ?_) xs.length ⟨0, [], l₀, by omega, h0, D⟩ ht
    obtain ⟨i, ys, l, hn, hJ, D⟩ := hI
    obtain ⟨h1, h2⟩ := hl i ys l hJ
    refine I.next hA h1.tail.tail D (by omega) (fun v s hv D => ?_) fun e s D => done K acc ys l s (e ▸ hJ) D
    have hi : i < xs.length := (List.getElem?_eq_some_iff.mp hv).1
    refine noE (wpAny_mono (turn K acc i _ ys l _ _ hv hJ rfl D) (fun _ s₂ h₂ => wpAny_mono h₂ (fun ok s₃ h₃ => ?_) fun _ _ x => x.elim) fun _ _ x => x)
    cases ok with
    | false =>
      obtain ⟨m, l', h4, h5⟩ := h₃
      exact ⟨n - 1, by omega, i + 1, ys, l', by omega, h4, h5.weak (.tail (.head rfl)) (Nsp.sub fun p hp => nomatch hp)⟩
    | true =>
      refine noE (wpAny_mono h₃ (fun y s₄ h₄ => ?_) fun _ _ x => x)
      obtain ⟨m, l', h4, h5⟩ := h₄
      refine r_append h5 (.tail (.tail (.head rfl))) h2 fun s h5 => ?_
      exact ⟨n - 1, by omega, i + 1, _, l', by omega, h4, h5.weak (.tail (.head rfl)) (Nsp.sub fun p hp => nomatch hp)⟩
  have D1 : In B ((it, c 0) :: (K, Nsp []) :: (acc, Lst []) :: l₀) { s₁ with heap := h₁, toks := s₁.toks } := D.perm (List.perm_middle (l₁ := [(K, Nsp []), (acc, Lst [])]).symm)
  exact codeAny_compStart_list (loop _ D1) (I.self hA (hl 0 [] l₀ h0).1.tail.tail D1 (loop _ D1))

theorem r_listComp {elt iter target : Expr} {ifs : List Expr} {scope : Scope} {cl : List (Str × Addr)} {pos : Pos} {Q : Value → Shared → Prop}
    (h : wpAny (model prog w) A (eval iter env) (fun xv s₁ => wpAny (model prog w) A (pyIter xv) (fun itv s₂ =>
      wpAny (model prog w) A (newList []) (fun acc s₃ => wpAny (model prog w) A (newFunctionEnv scope env.globals cl [] env.qual none .none (some env)) (fun cenv s₄ =>
        codeAny (model prog w) A (.compStart (.ListComp elt [⟨target, iter, ifs, 0⟩] scope pos) 0 itv acc { cenv with scope := relabel scope env }) (compPost (model prog w) A E none Q acc cenv.locals) s₄) E s₃) E s₂) E s₁) E s)
    (hclos : closureFor scope env = pure cl := by rfl) (hkind : scope.kind = .function := by rfl) (hnames : ∀ y ∈ scope.names, y.2 = .local → scope.names.lookup y.1 = some .local := by decide)
    (hs : ∀ x, foldedSetIterable iter env x = pure x := by intro _; rfl) :
    wpAny (model prog w) A (eval (.ListComp elt [⟨target, iter, ifs, 0⟩] scope pos) env) Q E s := by
  rw [eval_ListComp]
  exact wpAny_comprehension_free (use := none) rfl hs hclos hkind hnames h
theorem comp_end {K acc : Addr} {ys : List V} {m : List (Str × V)} {Q : Value → Shared → Prop} (D : In B ((K, Nsp m) :: (acc, Lst ys) :: l) s) (k : ∀ s', In B ((acc, Lst ys) :: l) s' → Q (.ref acc) s') :
    compPost (model prog w) A E none Q (.ref acc) K (.ok .next) s := by
  obtain ⟨mv, hn, _⟩ := has_ns (D.has (.head _))
  exact ⟨mv, hn, fun h' hs' => k _ (D.dropExt hs'.extBut)⟩
end
set_option maxRecDepth 100000
section
variable {prog : Program} {w : World} {A : Around} {E : Value → Shared → Prop} {s B : Shared} {l l' : List (Addr × C)} {env : Env} {mg mb : Str → Option Value}

theorem r_note2 {e L tb : Addr} {cls : Value} {envs : List Env} {Q : Unit → Shared → Prop} (D : In B ((tb, Tbk .none) :: (e, Ex1 cls tb) :: l) s) (hfr : A.frames = some (env :: envs)) (hf : env.frame = some L) (ok : FrOk l (env :: envs))
    (k : ∀ tb' s', In B ((tb', Tbk (rawInt L)) :: (e, Ex1 cls tb') :: l) s' → Q () s') : wpAny M A (noteFrame (.ref e) env) Q E s := by
  obtain ⟨oe, he, hc, vs, hd, h1⟩ := D.has (.tail _ (.head _))
  obtain ⟨ot, hot, tvs, hdt, h3⟩ := D.has (.head _)
  have hsz : 1 < vs.size := (Array.getElem?_eq_some_iff.mp h1).1
  have hsz3 : 3 < tvs.size := (Array.getElem?_eq_some_iff.mp h3).1
  unfold noteFrame
  simp only [hf]
  refine wpAny_bind (wpAny_field he hd h1 ?_)
  rw [if_pos (show (Value.ref tb != Value.none) = true from by simp)]
  refine wpAny_bind (wpAny_field hot hdt h3 ?_)
  rw [if_neg (by simp [rawInt])]
  refine wpAny_bind (wpAny_setField hot hdt hsz3 ?_)
  have hd₃ := Obj.data_mapFields hdt (·.setIfInBounds 3 Value.none)
  have D : In B ((tb, Any) :: (e, Ex1 cls tb) :: l) { s with heap := s.heap.update tb (Obj.mapFields (·.setIfInBounds 3 Value.none)) } := D.upd (tk := s.toks) (.head rfl) (Heap.SameBut.update ..) ⟨_, Heap.get?_update_self _ hot (Obj.isFreed_of_fields hd₃), trivial⟩
  unfold PySem.frameOf
  refine wpAny_bind (wpAny_bind (wpAny_frameEnvs hfr ?_))
  have hdw : ((env :: envs).dropWhile fun x => x.frame != env.frame) = env :: envs := by simp [List.dropWhile]
  rw [hdw]
  unfold frameObject
  refine wpAny_bind (wpAny_bind (r_ready (env :: envs) _ _ D (ok.mono fun _ h => .tail _ (.tail _ h)) fun s₁ D₁ => wpAny_pure ?_))
  rw [hf]
  refine wpAny_pure ?_
  refine wpAny_bind (wpAny_entryPlaceOf fun pl hpl => ?_)
  unfold EntryCells.newEntry newFields
  refine wpAny_bind (wpAny_newObj_type ?_ (hpl.sizeOk5 _ _ _ _ _))
  have D₂ := D₁.push (c := Tbk (rawInt L)) (o := { cls := .type "traceback", dict := none, data := .fields ([Value.ref tb, .ref L, .none, rawInt L, .none] ++ (if pl.isEmpty then List.replicate 6 Value.none else pl)).toArray }) (tk := s₁.toks) rfl ⟨_, rfl, by simp⟩
  obtain ⟨oe, he, hc, vs, hd, h1⟩ := D₂.has (.tail _ (.tail _ (.head _)))
  have hsz : 1 < vs.size := (Array.getElem?_eq_some_iff.mp h1).1
  refine wpAny_setField he hd hsz ?_
  have hd₃ := Obj.data_mapFields hd (·.setIfInBounds 1 (Value.ref s₁.heap.objs.size))
  refine k s₁.heap.objs.size _ ?_
  have D₃ := D₂.upd (tk := s₁.toks) (c' := Ex1 cls s₁.heap.objs.size) (.tail (.tail (.head rfl))) (Heap.SameBut.update _ e (Obj.mapFields (·.setIfInBounds 1 (Value.ref s₁.heap.objs.size)))) ⟨_, Heap.get?_update_self _ he (Obj.isFreed_of_fields hd₃), (Obj.cls_mapFields ..).trans hc, _, hd₃, by simp [hsz]⟩
  exact D₃.sublist (.cons_cons _ (.cons _ (.refl _)))

theorem r_leave {e L : Addr} {cls : Value} {envs : List Env} {R : Result → Shared → Prop} (D : In B ((e, Ex0 cls) :: l) s) (hfr : A.frames = some (env :: envs)) (hf : env.frame = some L) (ok : FrOk l (env :: envs))
    (k : ∀ tb s', In B ((tb, Tbk .none) :: (e, Ex1 cls tb) :: l) s' → R (.error (.ref e)) s') : wpAny M A (leaving env (.ref e)) (fun _ s'' => R (.error (.ref e)) s'') (fun e' s'' => R (.error e') s'') s := by
  unfold leaving
  refine wpAny_bind (r_note D hfr hf ok fun tb s D => ?_)
  exact r_flight (fr := none) D (.tail _ (.head _)) (.head rfl) fun s D => k tb s D

noncomputable abbrev veMro : List Value := [.type "ValueError", .type "Exception", .type "BaseException", .type "object"]
theorem cyc_cls (w : World) : ∃ nm q N bs hdct sn sub ab col dd k0 k1 k2 k3 k5, (KF w).lookup 77 = some (excClassObj nm q 77 N bs veMro hdct sn sub ab col dd k0 k1 k2 k3 k5 "ValueError.__new__") ∧ nsOkIn (KF w) N = true ∧ nsIn (KF w) N "__init__" = some none :=
  ⟨_, _, _, _, _, _, _, _, _, _, _, _, _, _, _, rfl, by kernel_rfl, rfl⟩

theorem r_raiseCyc {np cpos pos : Pos} {a b : Expr} {Q : Flow → Shared → Prop} (G : Gd w mg mb B) (D : In B l s) (hh : A.handled = none)
    (h : wpAny (model prog w) A (spliced (backTo cpos (starEach [a, b] env))) (fun vs s₁ => vs.length ≤ 100 ∧ ∃ l₁, In B l₁ s₁ ∧ ∀ e s', In B ((e, Ex0 (.ref 77)) :: l₁) s' → E (.ref e) s') E s)
    (hk : env.scope.kind = .function := by rfl) (hl : env.kindOf "CycleError" = some .globalImplicit := by rfl) (hg : env.globals = mainGlobals := by rfl)
    (he : starEach [a, b] env = (false, eval a env) :: starEach [b] env := by rfl) (hpl : (backTo cpos (starEach [a, b] env)).any (·.1) = false := by rfl) :
    wpAny (model prog w) A (exec (.Raise (some (.Call (.Name "CycleError" np) [a, b] [] cpos)) none pos) env) Q E s := by
  obtain ⟨nm, q, N, bs, hdct, sn, sub, ab, col, dd, k0, k1, k2, k3, k5, hC, hN, hi⟩ := cyc_cls w
  refine wpAny_Raise_call_sub (C := 77) (N := N) (nm := nm) (q := q) (bs := bs) (hdct := hdct) (sn := sn) (sub := sub) (ab := ab) (col := col) (dd := dd) (k0 := k0) (k1 := k1) (k2 := k2) (k3 := k3) (k5 := k5) (mN := fun x => B.heap.nsMap N x) F.excBase_ValueError hh hpl (nsMap_none_of_in G.kx hN hi) (wpAny_Name (r_glob G D (by rfl) ⟨rfl, ?_⟩ hk hl hg) (by decide))
  rw [he] at h ⊢
  refine Calls.evalArgs_plain (wpAny_mono h (fun vs s₁ h₁ => ?_) fun _ _ x => x)
  obtain ⟨hlen, l₁, D₁, k⟩ := h₁
  have X := G.kx.keeps D₁.keep
  refine ⟨rfl, by rw [sizeLine_eq]; show vs.length ≤ _; omega, X _ _ hC, (Heap.Ns.of_isNs (isNs_of_in G.kx hN)).keeps D₁.keep, fun h' e hm => k e _ ?_⟩
  obtain ⟨t, ht, _, _⟩ := hm.there
  exact D₁.add (tk := s₁.toks) hm.keeps hm.new ⟨_, ht, rfl, _, rfl, rfl⟩

theorem r_catchCyc {e tb L : Addr} {np hpos : Pos} {b₀ : Stmt} {suite : List Stmt} {envs : List Env} {Q : Flow → Shared → Prop} (G : Gd w mg mb B)
    (D : In B ((tb, Tbk .none) :: (e, Ex1 (.ref 77) tb) :: l) s) (hfr : A.frames = some (env :: envs)) (ok : FrOk l (env :: envs)) (hf : env.frame = some L)
    (k : ∀ s', In B l s' → wpAny (model prog w) (A.mark (some (.ref e))) (execs (b₀ :: suite) env) Q (notedBy (model prog w) (A.mark (some (.ref e))) env (cameBackBy (model prog w) A env E)) s')
    (hk : env.scope.kind = .function := by rfl) (hl : env.kindOf "CycleError" = some .globalImplicit := by rfl) (hg : env.globals = mainGlobals := by rfl) :
    wpAny (model prog w) A (noteFrame (.ref e) env) (fun _ s₂ => wpAny (model prog w) A (setFlight (.ref e) none) (fun _ s₃ => wpAny (model prog w) A (handleBy (.ref e) env [.ExceptHandler (some (.Name "CycleError" np)) none (b₀ :: suite) hpos]) Q E s₃) E s₂) E s := by
  refine r_note2 D hfr hf ok fun tb s D => ?_
  refine r_flight D (.tail _ (.head _)) (.head rfl) fun s D => ?_
  refine wpAny_handleBy_cons (codeAny_handlers_test (wpAny_Name (r_glob G D (by rfl) ?_ hk hl hg) (by decide))) (by intro q; cases q)
  obtain ⟨nm, q, N, bs, hdct, sn, sub, ab, col, dd, k0, k1, k2, k3, k5, hC, hN, hi⟩ := cyc_cls w
  obtain ⟨oe, he, hc, _⟩ := D.has (.tail _ (.head _))
  have X := (G.kx.keeps D.keep) _ _ hC
  obtain ⟨hh, g, d, tk, os⟩ := s
  refine wpAny_excMatches_sub_self X he hc (by decide) (codeAny_handlers_suite ?_)
  refine r_flight (fr := none) D (.tail _ (.head _)) (.head rfl) fun s D => ?_
  exact k s D.drop.drop
end
set_option maxRecDepth 100000
section
variable {prog : Program} {w : World} {A : Around} {E : Value → Shared → Prop} {s B : Shared} {l l' : List (Addr × C)} {env : Env} {mg mb : Str → Option Value}

noncomputable def DVw (d : Addr) : C := fun o => o.cls = .type "dict_values" ∧ o.data = .fields #[.ref d]
theorem r_values {d : Addr} {e : Option Nat} {kvs : List (Str × V)} {Q : Value → Shared → Prop} (D : In B l s) (r : Rd B l d (Dc prog w e kvs)) (hn : (d == sysModules) = false) (k : ∀ v s', In B ((v, DVw d) :: l) s' → Q (.ref v) s') :
    wpAny (model prog w) A (call (.builtin "dict.values") [.ref d]) Q E s := by
  obtain ⟨vs, hd, rfl⟩ := dc_of (D.rd r)
  exact call_meetsIn F.slot_dict_values hd.typeIs F.entry_dict_values (F.args_dict_values_1 _) (meets_dict_values (strKind prog w) d hn) ⟨⟨_, hd⟩, k _ _ (D.push (tk := s.toks) rfl ⟨rfl, rfl⟩)⟩
theorem r_iterV {v d : Addr} {ep : Nat} {kvs : List (Str × V)} {Q : Value → Shared → Prop} (D : In B l s) (hv : (v, DVw d) ∈ l) (r : Rd B l d (Dc prog w (some ep) kvs)) (k : ∀ it s', In B ((it, VIt d kvs.length ep 0) :: l) s' → Q (.ref it) s') :
    wpAny (model prog w) A (pyIter (.ref v)) Q E s := by
  obtain ⟨vs, hd, rfl⟩ := dcAt_of (D.rd r)
  have hvw : s.heap.IsValuesView v d := let ⟨o, ho, h1, h2⟩ := D.has hv; ⟨o, ho, h1, h2⟩
  refine wpAny_pyIter_values hvw hd (k _ _ ?_)
  rw [List.length_map]
  exact D.push (tk := s.toks) rfl ⟨rfl, rfl⟩
theorem r_eqI {a b : Int} {t u : Tok} {Q : Value → Shared → Prop} (h : Q (.bool (a == b)) s) : wpAny (model prog w) A (compareOp .Eq (.int a t) (.int b u)) Q E s := eq_int h

theorem sor_perm {x d n2i : Addr} {rdy : V} {po nf : Int} {ns : List Nd} (a : List (Addr × C)) : (a ++ SorL prog w x d n2i rdy po nf ns l).Perm (SorL prog w x d n2i rdy po nf ns (a ++ l)) :=
  (List.perm_append_comm_assoc a [(x, Ins 159 d []), (d, Ida (sorM n2i rdy po nf)), (n2i, Dc prog w none (dictN ns))] (rowsN ns ++ l)).trans (List.Perm.append_left [(x, Ins 159 d []), (d, Ida (sorM n2i rdy po nf)), (n2i, Dc prog w none (dictN ns))] (List.perm_append_comm_assoc a (rowsN ns) l))
theorem sorM_len {n2i : Addr} {rdy : V} {po nf : Int} : (sorM n2i rdy po nf).length ≤ 50 := by simp [sorM]
noncomputable def readyOf (ns : List Nd) : List Str := (ns.filter fun n => n.np == 0).map Nd.nm

set_option maxHeartbeats 1000000 in
theorem prepare_spec {x d n2i : Addr} {po nf : Int} {ns : List Nd} {envs : List Env} {R : Result → Shared → Prop} (G : Gd w mg mb B) (D : In B (SorL prog w x d n2i .none po nf ns l) s) (hd : A.depth < 500) (hh : A.handled = none)
    (hfr : A.frames = some envs) (ok : FrOk l envs)
    (hn : (n2i == sysModules) = false) (nd : (ns.map Nd.nm).Nodup) (hlen : ns.length ≤ 90) (hb : suB 900 ns) (hcl : ∀ n ∈ ns, ∀ y ∈ n.su, y ∈ ns.map Nd.nm)
    (no : ∀ fin rn s', FinOk (suOf ns) fin → (∀ k ∈ ns.map Nd.nm, k ∈ fin) → fin.length ≤ ns.length → In B ((rn, Lst ((readyOf ns).map V.str)) :: SorL prog w x d n2i (.ref rn) po nf ns l) s' → R (.ok (.ret .none)) s')
    (yes : ∀ c rn e tb s', Rch (suOf ns) c c → c ∈ ns.map Nd.nm → In B ((tb, Tbk .none) :: (e, Ex1 (.ref 77) tb) :: (rn, Lst ((readyOf ns).map V.str)) :: SorL prog w x d n2i (.ref rn) po nf ns l) s' → R (.error (.ref e)) s') :
    codeAny (model prog w) A (.call (.ref 114) ⟨[.ref x], []⟩) R s := by
  refine r_enter ["self"] [.ref x] [("self", .ref x)] G D (by rfl) (by rfl) (by show A.depth < 1000; omega) (BindsTo.of_eq rfl) (by rfl) (by decide) rfl ?_
  intro L A' s' hd' hu' hh' hf' D
  rw [hfr] at hf'
  have hh2 : A'.handled = none := by rw [hh']; exact hh
  unfold SorL at D
  refine wpAny_execs_cons (wpAny_If (wpAny_isTrue_Compare1 (Attribute_any_ ?_)))
  tm_at "nm"
  refine r_getI G D (by tm_at "mem") (by tm_at "mem") rfl (by rfl) (by rfl) (by rfl) (by rfl) (by intro i h; cases h) fun u s hu D => ?_
  obtain rfl := er_none hu
  refine wpAny_Constant_none (isnot_none_none (r_truth ?_))
  refine wpAny_execs_nil (wpAny_execs_cons (plainObj_wpAny_Assign_Attribute (r_listComp (r_callAttr (Attribute_any_ ?_)))))
  tm_at "nm"
  refine r_getI G D (by tm_at "mem") (by tm_at "mem") rfl (by rfl) (by rfl) (by rfl) (by rfl) (by intro i h; cases h) fun u s hu D => ?_
  obtain rfl := er_ref hu
  refine r_methDict D (.inl (by tm_at "mem")) F.slot_dict_values F.type_dict_values (callWith_zero ?_)
  obtain ⟨ep, hop⟩ := D.openD (d := n2i) (e := none) (kvs := dictN ns) (by tm_at "mem")
  have D := hop _ (by tm_at "up")
  clear hop
  refine r_values D (.inl (by tm_at "mem")) hn fun v s D => ?_
  refine r_iterV D (.head _) (.inl (by tm_at "mem")) fun it s D => ?_
  refine r_compK (fun i ys l' => ys = ((ns.take i).filter fun n => n.np == 0).map (fun n => V.str n.nm) ∧ l' = (v, DVw n2i) :: (L, Nsp [("self", .ref x)]) :: (x, Ins 159 d []) :: (d, Ida (sorM n2i .none po nf)) :: (n2i, Dc prog w (some ep) (dictN ns)) :: (rowsN ns ++ l))
    It.values hh2 ?_ ⟨rfl, rfl⟩ D ?_ ?_ (by decide) (by rfl)
  · rintro i ys _ ⟨rfl, rfl⟩
    refine ⟨.inl (by tm_at "mem"), ?_⟩
    rw [List.length_map]
    refine Nat.le_trans (List.length_filter_le _ _) ?_
    rw [List.length_take]; omega
  · rintro K acc i y ys _ s u hy ⟨rfl, rfl⟩ hu D
    have hy' : (ns.map fun n => V.ref n.x)[i]? = some y := by rw [← hy]; simp [dictN, Function.comp_def]
    rw [List.getElem?_map] at hy'
    obtain ⟨n, hni, rfl⟩ := Option.map_eq_some_iff.mp hy'
    obtain rfl := er_ref hu
    have hnm : n ∈ ns := List.mem_of_getElem? hni
    have m1 : (n.x, n.ins) ∈ rowsN ns ++ l := List.mem_append_left _ (mem_ins hnm)
    have m2 : (n.d, Ida []) ∈ rowsN ns ++ l := List.mem_append_left _ (mem_ida hnm)
    refine wpAny_assign_Name (r_store D (by tm_at "up") fun s D => ?_)
    refine r_tests1 (wpAny_isTrue_Compare1 (Attribute_any_ ?_))
    tm_at "nm"
    refine r_getS G D (x := n.x) (d := n.d) (.tail _ (.tail _ (.tail _ (.tail _ (.tail _ (.tail _ (.tail _ (.tail _ m1)))))))) (.tail _ (.tail _ (.tail _ (.tail _ (.tail _ (.tail _ (.tail _ (.tail _ m2)))))))) (by rfl) (by rfl) (by rfl) (by rfl) (by rfl) (by rfl) rfl (by intro i h; cases h) fun u s hu D => ?_
    obtain ⟨t1, rfl⟩ := er_int hu
    refine r_int D fun t2 s D => r_eqI (r_truth ?_)
    have htk : ((ns.take (i + 1)).filter fun n => n.np == 0) = ((ns.take i).filter fun n => n.np == 0) ++ (if n.np == 0 then [n] else []) := take_succ_filter _ _ _ _ hni
    cases hz : (n.np == 0) with
    | true =>
      rw [hz] at htk
      rw [if_pos rfl]
      refine Attribute_any_ ?_
      tm_at "nm"
      refine r_getS G D (x := n.x) (d := n.d) (.tail _ (.tail _ (.tail _ (.tail _ (.tail _ (.tail _ (.tail _ (.tail _ m1)))))))) (.tail _ (.tail _ (.tail _ (.tail _ (.tail _ (.tail _ (.tail _ (.tail _ m2)))))))) (by rfl) (by rfl) (by rfl) (by rfl) (by rfl) (by rfl) rfl (by intro i h; cases h) fun u s hu D => ?_
      refine ⟨_, _, ⟨?_, rfl⟩, D⟩
      rw [htk, List.map_append, hu]; rfl
    | false =>
      rw [hz] at htk
      rw [if_neg (by decide)]
      refine ⟨_, _, ⟨?_, rfl⟩, D⟩
      rw [htk]; simp
  · rintro K rn ys _ s ⟨rfl, rfl⟩ D
    have e : (dictN ns).length = ns.length := by simp [dictN]
    rw [List.length_map, e, List.take_length] at D
    refine comp_end D fun s D => ?_
    have e2 : (ns.filter fun n => n.np == 0).map (fun n => V.str n.nm) = (readyOf ns).map V.str := by simp [readyOf, Function.comp_def]
    rw [e2] at D
    have D := D.mv1.drop
    have D := D.weak (a := n2i) (c' := Dc prog w none (dictN ns)) (by tm_at "up") Dc.any
    tm_at "nm"
    refine r_setI G D (by tm_at "mem") (by tm_at "up") (by rfl) (by rfl) (by rfl) (by rfl) sorM_len fun s D => ?_
    refine wpAny_execs_cons (wpAny_Assign_Name (r_callAttr ?_))
    tm_at "nm"
    refine r_methI G D (by tm_at "mem") (by tm_at "mem") rfl (by rfl) (by rfl) (by rfl) ?_
    refine r_callF0 G D (by rfl) ?_
    have D : In B ([(rn, Lst ((readyOf ns).map V.str)), (L, Nsp [("self", .ref x)])] ++ SorL prog w x d n2i (.ref rn) po nf ns l) s := D
    have D : In B ([(L, Nsp [("self", .ref x)]), (rn, Lst ((readyOf ns).map V.str))] ++ SorL prog w x d n2i (.ref rn) po nf ns l) s := D.mv1
    refine cycle_spec G (D.sorIn _) (by omega) hh2 hf' ((ok.mono (fun p hp => List.mem_append_right _ hp)).cons rfl rfl (.head _)) hn nd hlen hb hcl ?_ ?_
    · intro fin s h1 h2 h3 D
      have D := D.sorOut [(L, Nsp [("self", .ref x)]), (rn, Lst ((readyOf ns).map V.str))]
      have D : In B ((L, Nsp [("self", .ref x)]) :: (rn, Lst ((readyOf ns).map V.str)) :: SorL prog w x d n2i (.ref rn) po nf ns l) s := D
      refine r_store D (by tm_at "up") fun s D => ?_
      refine wpAny_execs_cons (wpAny_If (isTrue_plain ?_))
      tm_at "nm"
      refine wpAny_pure (a := false) ?_
      exact wpAny_execs_nil (wpAny_execs_nil (no fin rn s h1 h2 h3 D.drop))
    · intro cc r xs s h1 h2 h3 h4 D
      have D : In B ((L, Nsp [("self", .ref x)]) :: (rn, Lst ((readyOf ns).map V.str)) :: (r, Lst xs) :: SorL prog w x d n2i (.ref rn) po nf ns l) s := by
        have D := D.perm (List.Perm.cons _ (sor_perm [(L, Nsp [("self", .ref x)]), (rn, Lst ((readyOf ns).map V.str))]))
        exact D.mv2
      refine r_store D (by tm_at "up") fun s D => ?_
      refine wpAny_execs_cons (wpAny_If (isTrue_plain ?_))
      tm_at "nm"
      refine r_truthL D (.inl (by tm_at "mem")) (by omega) fun s D => ?_
      have hne : (!xs.isEmpty) = true := by cases xs with | nil => exact absurd rfl h3 | cons a b => rfl
      rw [hne]
      refine wpAny_execs_cons (r_raiseCyc G D hh2 (wpAny_items_cons (JoinedStr_one (r_strC D fun t s D => wpAny_items_cons ?_))))
      tm_at "nm"
      refine wpAny_items_nil ⟨by simp, _, D, fun e s D => ?_⟩
      refine r_leave D hf' rfl ((ok.mono ?_).cons rfl rfl (by tm_at "mem")) fun tb s D => ?_
      · intro p hp
        refine .tail _ (.tail _ (.tail _ ?_))
        unfold SorL
        exact .tail _ (.tail _ (.tail _ (List.mem_append_right _ hp)))
      · exact yes cc rn e tb s h1 h2 (D.sublist (by tm_at "sl"))
end
set_option maxRecDepth 100000
section
variable {prog : Program} {w : World} {A : Around} {E : Value → Shared → Prop} {s B : Shared} {l l' : List (Addr × C)} {env : Env} {mg mb : Str → Option Value}

set_option maxHeartbeats 1000000 in
theorem refused_spec {x d n2i : Addr} {po nf : Int} {ns : List Nd} {envs : List Env} {R : Result → Shared → Prop} (G : Gd w mg mb B) (D : In B (SorL prog w x d n2i .none po nf ns l) s) (hd : A.depth < 400) (hh : A.handled = none)
    (hfr : A.frames = some envs) (ok : FrOk l envs)
    (hn : (n2i == sysModules) = false) (nd : (ns.map Nd.nm).Nodup) (hlen : ns.length ≤ 90) (hb : suB 900 ns) (hcl : ∀ n ∈ ns, ∀ y ∈ n.su, y ∈ ns.map Nd.nm)
    (k : ∀ b rn s', (b = true → ∃ c ∈ ns.map Nd.nm, Rch (suOf ns) c c) → (b = false → ∃ fin, FinOk (suOf ns) fin ∧ (∀ k ∈ ns.map Nd.nm, k ∈ fin) ∧ fin.length ≤ ns.length) →
      In B ((rn, Lst ((readyOf ns).map V.str)) :: SorL prog w x d n2i (.ref rn) po nf ns l) s' → R (.ok (.ret (.bool b))) s') :
    codeAny (model prog w) A (.call (.ref 194) ⟨[.ref x], []⟩) R s := by
  refine r_enter ["sorter"] [.ref x] [("sorter", .ref x)] G D (by rfl) (by rfl) (by show A.depth < 1000; omega) (BindsTo.of_eq rfl) (by rfl) (by decide) rfl ?_
  intro L A' s' hd' hu' hh' hf' D
  rw [hfr] at hf'
  have hh2 : A'.handled = none := by rw [hh']; exact hh
  refine noE (wpAny_execs_cons (wpAny_Try_except (wpAny_execs_cons (r_expr (r_callAttr ?_)))))
  unfold SorL at D
  tm_at "nm"
  refine r_methI G D (by tm_at "mem") (by tm_at "mem") rfl (by rfl) (by rfl) (by rfl) ?_
  refine r_callF0 G D (by rfl) ?_
  have D : In B ([(L, Nsp [("sorter", .ref x)])] ++ SorL prog w x d n2i .none po nf ns l) s' := D
  refine prepare_spec G (D.sorIn _) (by omega) hh2 hf' ((ok.mono (fun p hp => List.mem_append_right _ hp)).cons rfl rfl (.head _)) hn nd hlen hb hcl ?_ ?_
  · intro fin rn s h1 h2 h3 D
    have D := D.perm (List.Perm.cons _ (sor_perm [(L, Nsp [("sorter", .ref x)])]))
    refine wpAny_execs_nil (wpAny_execs_nil (wpAny_execs_cons (wpAny_Return_some (wpAny_Constant_bool ?_))))
    exact k false rn s (by intro h; cases h) (fun _ => ⟨fin, h1, h2, h3⟩) (D.sublist (.cons_cons _ (.cons _ (.refl _))))
  · intro cc rn e tb s h1 h2 D
    have D := D.perm (List.Perm.cons _ (List.Perm.cons _ (List.Perm.cons _ (sor_perm [(L, Nsp [("sorter", .ref x)])]))))
    refine r_catchCyc G D hf' ((ok.mono ?_).cons rfl rfl (by tm_at "mem")) rfl fun s D => ?_
    · intro p hp
      refine .tail _ (.tail _ ?_)
      unfold SorL
      exact .tail _ (.tail _ (.tail _ (List.mem_append_right _ hp)))
    refine noE (wpAny_execs_cons (wpAny_Return_some (wpAny_Constant_bool ?_)))
    exact k true rn s (fun _ => ⟨cc, h2, h1⟩) (by intro h; cases h) (D.sublist (.cons_cons _ (.cons _ (.refl _))))
end
set_option maxRecDepth 100000
noncomputable def outG (g : GS) (k : Str) : GS := modG k (fun q => (-1, q.2)) g
noncomputable def npG (g : GS) (k : Str) : Option Int := (g.lookup k).map (·.1)
noncomputable def suG (g : GS) (k : Str) : List Str := ((g.lookup k).map (·.2)).getD []
noncomputable def decG (st : GS × List Str) (y : Str) : GS × List Str :=
  let g' := modG y (fun q => (q.1 - 1, q.2)) st.1
  if npG g' y = some 0 then (g', st.2 ++ [y]) else (g', st.2)
noncomputable def doneStep (st : GS × List Str) (k : Str) : GS × List Str := (suG st.1 k).foldl decG (modG k (fun q => (-2, q.2)) st.1, st.2)
theorem abs_set (k : Str) (p : Int) (ns : List Nd) : abs (modN k (fun m => { m with np := p }) ns) = modG k (fun q => (p, q.2)) (abs ns) := by
  unfold abs modN modG
  rw [List.map_map, List.map_map]
  refine List.map_congr_left fun m hm => ?_
  simp only [Function.comp]
  split <;> rfl
theorem modG_names (k : Str) (f : Int × List Str → Int × List Str) (g : GS) : (modG k f g).map (·.1) = g.map (·.1) := by
  unfold modG; rw [List.map_map]; refine List.map_congr_left fun p _ => ?_
  simp only [Function.comp]
  split <;> rfl
theorem lookup_abs {ns : List Nd} {n : Nd} (nd : (ns.map Nd.nm).Nodup) (h : n ∈ ns) : (abs ns).lookup n.nm = some (n.np, n.su) := by
  induction ns with
  | nil => cases h
  | cons m ns ih =>
    rw [List.map_cons, List.nodup_cons] at nd
    show List.lookup n.nm ((m.nm, m.np, m.su) :: abs ns) = _
    rcases List.mem_cons.mp h with rfl | h
    · simp [List.lookup]
    · have hne : (n.nm == m.nm) = false := by
        have : m.nm ≠ n.nm := fun e => nd.1 (e ▸ List.mem_map_of_mem h)
        simpa using Ne.symm this
      simp only [List.lookup, hne]
      exact ih nd.2 h
theorem names_abs {ns ns' : List Nd} (h : (abs ns').map (·.1) = (abs ns).map (·.1)) : ns'.map Nd.nm = ns.map Nd.nm := by rw [abs_nm, abs_nm] at h; exact h

section
variable {prog : Program} {w : World} {A : Around} {E : Value → Shared → Prop} {s B : Shared} {l l' : List (Addr × C)} {env : Env} {mg mb : Str → Option Value}

theorem r_tupOf {a : Addr} {xs : List V} {Q : Value → Shared → Prop} (D : In B l s) (r : Rd B l a (Lst xs)) (hsz : xs.length ≤ 1000) (k : ∀ n s', In B ((n, Tup xs) :: l) s' → Q (.ref n) s') :
    wpAny (model prog w) A (call (.type "tuple") [.ref a]) Q E s := by
  obtain ⟨o, ho, vs, n, rfl, hx⟩ := D.rd r
  have hlen : vs.size = xs.length := by rw [← hx]; simp
  refine call_tuple_list ⟨_, ho, rfl, n, rfl⟩ (fun h' hk => k _ _ ?_) (by rw [sizeLine_eq]; omega)
  have D1 : In B l { s with heap := h', toks := s.toks } := D.ext hk
  exact D1.push (tk := s.toks) rfl ⟨_, _, rfl, hx⟩
theorem r_clear {a : Addr} {xs : List V} {Q : Value → Shared → Prop} (D : In B l s) (u : Up a (Lst xs) (Lst []) l l') (hsz : xs.length ≤ 1000) (k : ∀ s', In B l' s' → Q .none s') :
    wpAny (model prog w) A (call (.builtin "list.clear") [.ref a]) Q E s := by
  obtain ⟨o, ho, vs, n, rfl, hx⟩ := D.has u.mem
  have hlen : vs.size = xs.length := by rw [← hx]; simp
  refine call_meets F.slot_list_clear ⟨_, ho, rfl⟩ F.entry_list_clear (F.args_list_clear_1 _) (AutoSeq1.list_clear_list_0 a vs n (by rw [sizeLine_eq]; omega)) ⟨ho, k _ ?_⟩
  exact D.upd (tk := s.toks) u (Heap.SameBut.update ..) ⟨_, Heap.get?_update_self _ ho rfl, _, _, rfl, rfl⟩
theorem r_appendB {a : Addr} {xs : List V} {x : Value} {Q : Value → Shared → Prop} (D : In B l s) (u : Up a (Lst xs) (Lst (xs ++ [er x])) l l') (hsz : xs.length ≤ 1000000) (k : ∀ s', In B l' s' → Q .none s') :
    wpAny (model prog w) A (call (.builtin "list.append") [.ref a, x]) Q E s := by
  obtain ⟨o, ho, vs, n, rfl, hx⟩ := D.has u.mem
  have hlen : vs.size = xs.length := by rw [← hx]; simp
  refine append_at ho (fun h' hs ho' => k _ (D.upd (tk := s.toks) u hs ⟨_, ho', _, _, rfl, ?_⟩)) (by rw [sizeLine_eq]; omega)
  simp [← hx]

set_option maxHeartbeats 1000000 in
theorem getready_spec {x d n2i rn : Addr} {po nf : Int} {ns : List Nd} {rs : List Str} {R : Result → Shared → Prop} (G : Gd w mg mb B) (D : In B ((rn, Lst (rs.map V.str)) :: SorL prog w x d n2i (.ref rn) po nf ns l) s) (hd : A.depth < 600) (hh : A.handled = none)
    (nd : (ns.map Nd.nm).Nodup) (hrs : ∀ k ∈ rs, k ∈ ns.map Nd.nm) (hlen : rs.length ≤ 900)
    (h : ∀ tp ns' s', abs ns' = rs.foldl outG (abs ns) → In B ((tp, Tup (rs.map V.str)) :: (rn, Lst []) :: SorL prog w x d n2i (.ref rn) (po + rs.length) nf ns' l) s' → R (.ok (.ret (.ref tp))) s') :
    codeAny (model prog w) A (.call (.ref 121) ⟨[.ref x], []⟩) R s := by
  refine r_enter ["self"] [.ref x] [("self", .ref x)] G D (by rfl) (by rfl) (by show A.depth < 1000; omega) (BindsTo.of_eq rfl) (by rfl) (by decide) rfl ?_
  intro L A' s' hd' hu' hh' hf' D
  have hh2 : A'.handled = none := by rw [hh']; exact hh
  unfold SorL at D
  refine noE (wpAny_execs_cons (wpAny_If (wpAny_isTrue_Compare1 (Attribute_any_ ?_))))
  tm_at "nm"
  refine r_getI G D (by tm_at "mem") (by tm_at "mem") rfl (by rfl) (by rfl) (by rfl) (by rfl) (by intro i h; cases h) fun u s hu D => ?_
  obtain rfl := er_ref hu
  refine wpAny_Constant_none (is_none_ref (r_truth ?_))
  refine wpAny_execs_nil (wpAny_execs_cons (wpAny_Assign_Name (wpAny_Call_ofName (wpAny_Name (r_bi G D (by rfl) (by rfl) (callWith_type1 (wpAny_items_cons (Attribute_any_ ?_))))))))
  tm_at "nm"
  refine r_getI G D (by tm_at "mem") (by tm_at "mem") rfl (by rfl) (by rfl) (by rfl) (by rfl) (by intro i h; cases h) fun u s hu D => ?_
  obtain rfl := er_ref hu
  refine wpAny_items_nil (r_tupOf D (.inl (by tm_at "mem")) (by simp; omega) fun tp s D => ?_)
  refine r_store D (by tm_at "up") fun s D => ?_
  refine wpAny_execs_cons (wpAny_Assign_Name (Attribute_any_ ?_))
  tm_at "nm"
  refine r_getI G D (by tm_at "mem") (by tm_at "mem") rfl (by rfl) (by rfl) (by rfl) (by rfl) (by intro i h; cases h) fun u s hu D => ?_
  obtain rfl := er_ref hu
  refine r_store D (by tm_at "up") fun s D => ?_
  refine wpAny_execs_cons (wpAny_For ?_)
  tm_at "nm"
  refine r_iterT D (.inl (by tm_at "mem")) fun it s D => ?_
  have D := D.weak (a := L) (c' := Nsp [("self", .ref x), ("result", .ref tp), ("n2i", .ref n2i)]) (by tm_at "up") (Nsp.sub (by tm_at "sub"))
  refine r_for (fun i l' => ∃ ns', abs ns' = (rs.take i).foldl outG (abs ns) ∧ l' = (tp, Tup (rs.map V.str)) :: (L, Nsp [("self", .ref x), ("result", .ref tp), ("n2i", .ref n2i)]) :: (rn, Lst (rs.map V.str)) :: SorL prog w x d n2i (.ref rn) po nf ns' l) It.tup hh2
    (fun i l' e => by obtain ⟨_, _, rfl⟩ := e; exact .inl (.head _)) ⟨ns, rfl, rfl⟩ D ?_ ?_
  · rintro i y _ s v hy ⟨ns₂, ha₂, rfl⟩ hv D
    rw [List.getElem?_map] at hy
    obtain ⟨k, hk, rfl⟩ := Option.map_eq_some_iff.mp hy
    obtain ⟨tv, rfl⟩ := er_str hv
    have hnm : ns₂.map Nd.nm = ns.map Nd.nm := by
      refine names_abs ?_
      rw [ha₂]
      generalize rs.take i = r
      generalize abs ns = g
      clear ha₂
      induction r generalizing g with
      | nil => rfl
      | cons a r ih => rw [List.foldl_cons, ih, outG, modG_names]
    have nd₂ : (ns₂.map Nd.nm).Nodup := by rw [hnm]; exact nd
    obtain ⟨n, hn, hnk, hlk⟩ := (dictN_lookup (ns := ns₂) k).resolve_right fun h => h.1 (by rw [hnm]; exact hrs k (List.mem_of_getElem? hk))
    refine wpAny_assign_Name (r_store D (by tm_at "up") fun s D => ?_)
    unfold SorL at D
    refine wpAny_execs_cons (plainObj_wpAny_Assign_Attribute (wpAny_Name (r_glob G D (by rfl) (Subscript_ ?_))))
    tm_at "nm"
    tm_at "nm"
    refine r_idxD D (.inl (by tm_at "mem")) hlk fun u s hu D => ?_
    obtain rfl := er_ref hu
    have m2 : (n.d, Ida []) ∈ rowsN ns₂ ++ l := List.mem_append_left _ (mem_ida hn)
    refine r_setS (Cl := 62) (i := 1) (x := n.x) (d := n.d) (sl := [some (.str n.nm), some (.int n.np), some (.ref n.sc)]) G D (.tail _ (.tail _ (.tail _ (.tail _ (.tail _ (.tail _ (.tail _ m2))))))) (.tail (.tail (.tail (.tail (.tail (.tail (.tail (up_np nd₂ hn (-1)).app1))))))) (by rfl) (by rfl) (by rfl) (by rfl) (by rfl) (by decide) fun s D => ?_
    refine wpAny_execs_nil ⟨_, ⟨modN n.nm (fun m => { m with np := -1 }) ns₂, ?_, rfl⟩, ?_⟩
    · rw [abs_set, ha₂, hnk, take_snoc hk, List.foldl_append]; rfl
    · unfold SorL
      rw [dictN_mod _ _ (by intro _; exact ⟨rfl, rfl⟩)]
      exact D.weak (a := L) (by tm_at "up") (Nsp.sub (by tm_at "sub"))
  · rintro _ s ⟨ns₂, ha₂, rfl⟩ D
    rw [List.length_map, List.take_length] at ha₂
    unfold SorL at D
    refine wpAny_execs_cons (wpAny_Expr (r_callAttr (Attribute_any_ ?_)))
    tm_at "nm"
    refine r_getI G D (by tm_at "mem") (by tm_at "mem") rfl (by rfl) (by rfl) (by rfl) (by rfl) (by intro i h; cases h) fun u s hu D => ?_
    obtain rfl := er_ref hu
    refine r_methList D (.inl (by tm_at "mem")) F.plainAttrs_list F.slot_list_clear F.type_list_clear (callWith_zero ?_)
    refine r_clear D (by tm_at "up") (by simp; omega) fun s D => ?_
    refine wpAny_execs_cons (wpAny_AugAssign_AttributeAny ?_)
    tm_at "nm"
    refine r_getI G D (by tm_at "mem") (by tm_at "mem") rfl (by rfl) (by rfl) (by rfl) (by rfl) (by intro i h; cases h) fun u s hu D => ?_
    obtain ⟨t1, rfl⟩ := er_int hu
    refine r_callB1 G D (by rfl) (by rfl) ?_
    tm_at "nm"
    refine r_lenT D (.inl (by tm_at "mem")) (by simp; omega) fun tl s D => ?_
    refine r_iadd D fun t2 s D => ?_
    refine r_setI G D (by tm_at "mem") (by tm_at "up") (by rfl) (by rfl) (by rfl) (by rfl) sorM_len fun s D => ?_
    refine wpAny_execs_cons (wpAny_Return_some ?_)
    tm_at "nm"
    rw [List.length_map] at D
    exact h tp ns₂ s ha₂ (D.sublist (.cons_cons _ (.cons _ (.refl _))))
end
set_option maxRecDepth 100000
theorem decG_names (st : GS × List Str) (y : Str) : (decG st y).1.map (·.1) = st.1.map (·.1) := by
  unfold decG
  dsimp only
  split
  · exact modG_names y (fun q => (q.1 - 1, q.2)) st.1
  · exact modG_names y (fun q => (q.1 - 1, q.2)) st.1
theorem decG_fold_names (ys : List Str) (st : GS × List Str) : (ys.foldl decG st).1.map (·.1) = st.1.map (·.1) := by
  induction ys generalizing st with
  | nil => rfl
  | cons y ys ih => rw [List.foldl_cons, ih, decG_names]
theorem doneStep_names (st : GS × List Str) (k : Str) : (doneStep st k).1.map (·.1) = st.1.map (·.1) := by
  unfold doneStep; rw [decG_fold_names, modG_names]
theorem done_fold_names (ks : List Str) (st : GS × List Str) : (ks.foldl doneStep st).1.map (·.1) = st.1.map (·.1) := by
  induction ks generalizing st with
  | nil => rfl
  | cons y ys ih => rw [List.foldl_cons, ih, doneStep_names]
theorem decG_len (ys : List Str) (st : GS × List Str) : (ys.foldl decG st).2.length ≤ st.2.length + ys.length := by
  induction ys generalizing st with
  | nil => simp
  | cons y ys ih =>
    rw [List.foldl_cons]
    have := ih (decG st y)
    have h2 : (decG st y).2.length ≤ st.2.length + 1 := by unfold decG; dsimp only; split <;> simp
    simp only [List.length_cons]; omega
theorem modG_sus (k : Str) (f : Int × List Str → Int × List Str) (hf : ∀ q, (f q).2 = q.2) (g : GS) : (modG k f g).map (·.2.2) = g.map (·.2.2) := by
  unfold modG; rw [List.map_map]; refine List.map_congr_left fun p _ => ?_
  simp only [Function.comp]
  split
  · exact hf _
  · rfl
theorem decG_sus (ys : List Str) (st : GS × List Str) : (ys.foldl decG st).1.map (·.2.2) = st.1.map (·.2.2) := by
  induction ys generalizing st with
  | nil => rfl
  | cons y ys ih =>
    rw [List.foldl_cons, ih]
    unfold decG
    dsimp only
    split
    · exact modG_sus y (fun q => (q.1 - 1, q.2)) (fun _ => rfl) st.1
    · exact modG_sus y (fun q => (q.1 - 1, q.2)) (fun _ => rfl) st.1
theorem done_sus (ks : List Str) (st : GS × List Str) : (ks.foldl doneStep st).1.map (·.2.2) = st.1.map (·.2.2) := by
  induction ks generalizing st with
  | nil => rfl
  | cons y ys ih =>
    rw [List.foldl_cons, ih]
    unfold doneStep
    rw [decG_sus]
    exact modG_sus y (fun q => (-2, q.2)) (fun _ => rfl) st.1
theorem suB_abs {ns ns' : List Nd} {b : Nat} (h : (abs ns').map (·.2.2) = (abs ns).map (·.2.2)) (hb : suB b ns) : suB b ns' := by
  intro n hn
  have h1 : n.su ∈ (abs ns').map (·.2.2) := by unfold abs; rw [List.map_map]; exact List.mem_map.mpr ⟨n, hn, rfl⟩
  rw [h] at h1
  unfold abs at h1
  rw [List.map_map] at h1
  obtain ⟨m, hm, e⟩ := List.mem_map.mp h1
  have e : m.su = n.su := e
  rw [← e]; exact hb m hm
theorem sus_mem {ns ns' : List Nd} (h : (abs ns').map (·.2.2) = (abs ns).map (·.2.2)) (P : List Str → Prop) (hb : ∀ n ∈ ns, P n.su) : ∀ n ∈ ns', P n.su := by
  intro n hn
  have h1 : n.su ∈ (abs ns').map (·.2.2) := by unfold abs; rw [List.map_map]; exact List.mem_map.mpr ⟨n, hn, rfl⟩
  rw [h] at h1
  unfold abs at h1
  rw [List.map_map] at h1
  obtain ⟨m, hm, e⟩ := List.mem_map.mp h1
  have e : m.su = n.su := e
  rw [← e]; exact hb m hm

theorem mem_modN {k : Str} {f : Nd → Nd} {ns : List Nd} {n : Nd} (h : n ∈ ns) : (if n.nm = k then f n else n) ∈ modN k f ns := List.mem_map.mpr ⟨n, h, rfl⟩
theorem keep_modN {k : Str} {p : Int} {ns : List Nd} {a : Addr} {su : List Str} (h : ∃ n ∈ ns, n.sc = a ∧ n.su = su) : ∃ n ∈ modN k (fun m => { m with np := p }) ns, n.sc = a ∧ n.su = su := by
  obtain ⟨n, h1, h2, h3⟩ := h
  refine ⟨_, mem_modN h1, ?_, ?_⟩ <;> split <;> assumption
theorem abs_dec {ns : List Nd} {n : Nd} (nd : (ns.map Nd.nm).Nodup) (hn : n ∈ ns) : abs (modN n.nm (fun m => { m with np := n.np - 1 }) ns) = modG n.nm (fun q => (q.1 - 1, q.2)) (abs ns) := by
  have := abs_np nd hn (-1)
  simpa [Int.sub_eq_add_neg] using this

section
variable {prog : Program} {w : World} {A : Around} {E : Value → Shared → Prop} {s B : Shared} {l l' : List (Addr × C)} {env : Env} {mg mb : Str → Option Value}

theorem r_neI {a b : Int} {t u : Tok} {Q : Value → Shared → Prop} (h : Q (.bool (a != b)) s) : wpAny (model prog w) A (compareOp .NotEq (.int a t) (.int b u)) Q E s := ne_int h

noncomputable def Dn1 (prog : Program) (w : World) (x d n2i rn L tp : Addr) (po nf : Int) (ns : List Nd) (rs : List Str) (l : List (Addr × C)) (i : Nat) (l' : List (Addr × C)) : Prop :=
  ∃ ns', abs ns' = ((rs.take i).foldl doneStep (abs ns, [])).1 ∧ l' = (L, Nsp [("self", .ref x), ("n2i", .ref n2i)]) :: (tp, Tup (rs.map V.str)) :: (rn, Lst (((rs.take i).foldl doneStep (abs ns, [])).2.map V.str)) :: SorL prog w x d n2i (.ref rn) po (nf + i) ns' l
noncomputable def Dn2 (prog : Program) (w : World) (x d n2i rn L tp it : Addr) (po nf : Int) (rs : List Str) (l : List (Addr × C)) (i : Nat) (k : Str) (n : Nd) (st : GS × List Str) (j : Nat) (l' : List (Addr × C)) : Prop :=
  ∃ ns₄, abs ns₄ = ((n.su.take j).foldl decG (modG k (fun q => (-2, q.2)) st.1, st.2)).1 ∧ (∃ n' ∈ ns₄, n'.sc = n.sc ∧ n'.su = n.su) ∧
        l' = (it, TIt tp (i + 1)) :: (L, Nsp [("self", .ref x), ("n2i", .ref n2i)]) :: (tp, Tup (rs.map V.str)) :: (rn, Lst (((n.su.take j).foldl decG (modG k (fun q => (-2, q.2)) st.1, st.2)).2.map V.str)) :: SorL prog w x d n2i (.ref rn) po (nf + i) ns₄ l
set_option maxHeartbeats 2000000 in
theorem done_spec {x d n2i rn : Addr} {po nf : Int} {ns : List Nd} {rs : List Str} {vs : List Value} {R : Result → Shared → Prop} (G : Gd w mg mb B) (D : In B ((rn, Lst []) :: SorL prog w x d n2i (.ref rn) po nf ns l) s) (hd : A.depth < 600) (hh : A.handled = none)
    (hn2 : (n2i == sysModules) = false) (nd : (ns.map Nd.nm).Nodup) (hrs : ∀ k ∈ rs, k ∈ ns.map Nd.nm) (hlen : rs.length ≤ 90) (hb : suB 900 ns) (hcl : ∀ n ∈ ns, ∀ y ∈ n.su, y ∈ ns.map Nd.nm) (hvs : vs.map er = rs.map V.str)
    (hok : ∀ i k, rs[i]? = some k → npG ((rs.take i).foldl doneStep (abs ns, [])).1 k = some (-1))
    (hrd : ∀ i, ((rs.take i).foldl doneStep (abs ns, [])).2.length ≤ 1000)
    (h : ∀ ns' s', abs ns' = (rs.foldl doneStep (abs ns, [])).1 → In B ((rn, Lst ((rs.foldl doneStep (abs ns, [])).2.map V.str)) :: SorL prog w x d n2i (.ref rn) po (nf + rs.length) ns' l) s' → R (.ok (.ret .none)) s') :
    codeAny (model prog w) A (.call (.ref 142) ⟨.ref x :: vs, []⟩) R s := by
  have hvl : vs.length = rs.length := by have := congrArg List.length hvs; simpa using this
  refine r_enterB ["self", "nodes"] G D (by rfl) (by rfl) (by show A.depth < 1000; omega)
    (fun vals l₁ => ∃ tp, vals = [.ref x, .ref tp] ∧ l₁ = (tp, Tup (rs.map V.str)) :: (rn, Lst []) :: SorL prog w x d n2i (.ref rn) po nf ns l) ?_ (by rfl) (by decide) ?_
  · intro A₁ E₁ Q hQ
    rw [bind_var1 rfl rfl]
    refine wpAny_bind (r_newTuple D (by omega) fun tp s D => wpAny_pure ?_)
    rw [hvs] at D
    exact hQ _ _ _ ⟨tp, rfl, rfl⟩ D
  rintro _ _ L A' s ⟨tp, rfl, rfl⟩ hd' hu' hh' hf' D
  have D : In B ((L, Nsp [("self", .ref x), ("nodes", .ref tp)]) :: (tp, Tup (rs.map V.str)) :: (rn, Lst []) :: SorL prog w x d n2i (.ref rn) po nf ns l) s := D
  have hh2 : A'.handled = none := by rw [hh']; exact hh
  unfold SorL at D
  refine noE (wpAny_execs_cons (wpAny_If (wpAny_isTrue_Compare1 (Attribute_any_ ?_))))
  tm_at "nm"
  refine r_getI G D (by tm_at "mem") (by tm_at "mem") rfl (by rfl) (by rfl) (by rfl) (by rfl) (by intro i h; cases h) fun u s hu D => ?_
  obtain rfl := er_ref hu
  refine wpAny_Constant_none (is_none_ref (r_truth ?_))
  refine wpAny_execs_nil (wpAny_execs_cons (wpAny_Assign_Name (Attribute_any_ ?_)))
  tm_at "nm"
  refine r_getI G D (by tm_at "mem") (by tm_at "mem") rfl (by rfl) (by rfl) (by rfl) (by rfl) (by intro i h; cases h) fun u s hu D => ?_
  obtain rfl := er_ref hu
  refine r_store D (by tm_at "up") fun s D => ?_
  refine wpAny_execs_cons (wpAny_For ?_)
  tm_at "nm"
  refine r_iterT D (.inl (by tm_at "mem")) fun it s D => ?_
  have D := D.weak (a := L) (c' := Nsp [("self", .ref x), ("n2i", .ref n2i)]) (by tm_at "up") (Nsp.sub (by tm_at "sub"))
  refine r_for (fun i l' => Dn1 prog w x d n2i rn L tp po nf ns rs l i l') It.tup hh2
    (fun i l' e => by obtain ⟨_, _, rfl⟩ := e; exact .inl (.tail _ (.head _))) ⟨ns, rfl, by rw [show nf + ((0 : Nat) : Int) = nf from by omega]; rfl⟩ D ?_ ?_
  · rintro i y _ s v hy ⟨ns₂, ha₂, rfl⟩ hv D
    rw [List.getElem?_map] at hy
    obtain ⟨k, hk, rfl⟩ := Option.map_eq_some_iff.mp hy
    obtain ⟨tv, rfl⟩ := er_str hv
    have hi : i < rs.length := (List.getElem?_eq_some_iff.mp hk).1
    have hnm : ns₂.map Nd.nm = ns.map Nd.nm := names_abs (by rw [ha₂, done_fold_names])
    have hsus : (abs ns₂).map (·.2.2) = (abs ns).map (·.2.2) := by rw [ha₂, done_sus]
    have nd₂ : (ns₂.map Nd.nm).Nodup := by rw [hnm]; exact nd
    have hb₂ : suB 900 ns₂ := suB_abs hsus hb
    have hcl₂ : ∀ n ∈ ns₂, ∀ y ∈ n.su, y ∈ ns₂.map Nd.nm := by rw [hnm]; exact sus_mem hsus (fun su => ∀ y ∈ su, y ∈ ns.map Nd.nm) hcl
    obtain ⟨n, hn, hnk, hlk⟩ := (dictN_lookup (ns := ns₂) k).resolve_right fun h => h.1 (by rw [hnm]; exact hrs k (List.mem_of_getElem? hk))
    have hnp : n.np = -1 := by
      have h1 := hok i k hk
      rw [← ha₂] at h1
      unfold npG at h1
      rw [← hnk, lookup_abs nd₂ hn] at h1
      simpa using h1
    refine wpAny_assign_Name (r_store D (by tm_at "up") fun s D => ?_)
    unfold SorL at D
    refine wpAny_execs_cons (wpAny_If (wpAny_isTrue_Compare1 (wpAny_NamedExpr (r_callAttr ?_))))
    tm_at "nm"
    refine r_methDict D (.inl (by tm_at "mem")) F.slot_dict_get F.type_dict_get (callWith_one ?_)
    tm_at "nm"
    refine r_dget D (.inl (by tm_at "mem")) hn2 fun u s hu D => ?_
    rw [hlk] at hu
    obtain rfl := er_ref hu
    refine wpAny_assign_Name (r_store D (by tm_at "up") fun s D => ?_)
    refine wpAny_Constant_none (is_none_ref (r_truth ?_))
    have m1 : (n.x, n.ins) ∈ rowsN ns₂ ++ l := List.mem_append_left _ (mem_ins hn)
    have m2 : (n.d, Ida []) ∈ rowsN ns₂ ++ l := List.mem_append_left _ (mem_ida hn)
    have m3 : (n.sc, n.lst) ∈ rowsN ns₂ ++ l := List.mem_append_left _ (mem_lst hn)
    refine wpAny_execs_nil (wpAny_execs_cons (wpAny_Assign_Name (Attribute_any_ ?_)))
    tm_at "nm"
    refine r_getS G D (x := n.x) (d := n.d) (.tail _ (.tail _ (.tail _ (.tail _ (.tail _ (.tail _ (.tail _ m1))))))) (.tail _ (.tail _ (.tail _ (.tail _ (.tail _ (.tail _ (.tail _ m2))))))) (by rfl) (by rfl) (by rfl) (by rfl) (by rfl) (by rfl) rfl (by intro i h; cases h) fun u s hu D => ?_
    obtain ⟨t1, rfl⟩ := er_int hu
    refine r_store D (by tm_at "up") fun s D => ?_
    refine wpAny_execs_cons (wpAny_If (wpAny_isTrue_Compare1 ?_))
    tm_at "nm"
    refine wpAny_Name (r_glob G D (by rfl) (r_neI (r_truth ?_)))
    rw [hnp]
    refine wpAny_execs_nil (wpAny_execs_cons (plainObj_wpAny_Assign_Attribute (wpAny_Name (r_glob G D (by rfl) ?_))))
    tm_at "nm"
    refine r_setS (Cl := 62) (i := 1) (x := n.x) (d := n.d) (sl := [some (.str n.nm), some (.int n.np), some (.ref n.sc)]) G D (.tail _ (.tail _ (.tail _ (.tail _ (.tail _ (.tail _ (.tail _ m2))))))) (.tail (.tail (.tail (.tail (.tail (.tail (.tail (up_np nd₂ hn (-2)).app1))))))) (by rfl) (by rfl) (by rfl) (by rfl) (by rfl) (by decide) fun s D => ?_
    have hm3 : ({ n with np := -2 } : Nd) ∈ modN n.nm (fun m => { m with np := -2 }) ns₂ := by
      have := mem_modN (k := n.nm) (f := fun m => { m with np := -2 }) hn
      rwa [if_pos rfl] at this
    have ha3 : abs (modN n.nm (fun m => { m with np := -2 }) ns₂) = modG k (fun q => (-2, q.2)) ((rs.take i).foldl doneStep (abs ns, [])).1 := by rw [abs_set, ha₂, hnk]
    have hd3 : dictN (modN n.nm (fun m => { m with np := -2 }) ns₂) = dictN ns₂ := dictN_mod _ _ (by intro _; exact ⟨rfl, rfl⟩) _
    rw [← hd3] at D
    have hsu : suG ((rs.take i).foldl doneStep (abs ns, [])).1 k = n.su := by
      unfold suG
      rw [← ha₂, ← hnk, lookup_abs nd₂ hn]; rfl
    have hn3 : (modN n.nm (fun m => { m with np := -2 }) ns₂).map Nd.nm = ns.map Nd.nm := by rw [modN_nm (by intro _; rfl)]; exact hnm
    have hs3 : (abs (modN n.nm (fun m => { m with np := -2 }) ns₂)).map (·.2.2) = (abs ns).map (·.2.2) := by rw [abs_set, modG_sus n.nm (fun q => (-2, q.2)) (fun _ => rfl)]; exact hsus
    have hrl := hrd i
    clear hlk
    generalize modN n.nm (fun m => { m with np := -2 }) ns₂ = ns₃ at D hm3 ha3 hd3 hn3 hs3
    have m1 : (n.x, ({ n with np := -2 } : Nd).ins) ∈ rowsN ns₃ ++ l := List.mem_append_left _ (mem_ins hm3)
    have m2 : (n.d, Ida []) ∈ rowsN ns₃ ++ l := List.mem_append_left _ (mem_ida (n := { n with np := -2 }) hm3)
    refine wpAny_execs_cons (wpAny_For (Attribute_any_ ?_))
    tm_at "nm"
    refine r_getS G D (x := n.x) (d := n.d) (.tail _ (.tail _ (.tail _ (.tail _ (.tail _ (.tail _ (.tail _ m1))))))) (.tail _ (.tail _ (.tail _ (.tail _ (.tail _ (.tail _ (.tail _ m2))))))) (by rfl) (by rfl) (by rfl) (by rfl) (by rfl) (by rfl) rfl (by intro i h; cases h) fun u s hu D => ?_
    obtain rfl := er_ref hu
    have m3 : (n.sc, Lst (n.su.map V.str)) ∈ rowsN ns₃ ++ l := List.mem_append_left _ (mem_lst (n := { n with np := -2 }) hm3)
    refine r_iter D (a := n.sc) (xs := n.su.map V.str) (.inl (.tail _ (.tail _ (.tail _ (.tail _ (.tail _ (.tail _ (.tail _ m3)))))))) fun it2 s D => ?_
    have D := D.weak (a := L) (c' := Nsp [("self", .ref x), ("n2i", .ref n2i)]) (by tm_at "up") (Nsp.sub (by tm_at "sub"))
    have hsl : n.su.length ≤ 900 := hb₂ n hn
    generalize hst : (rs.take i).foldl doneStep (abs ns, []) = st at *
    refine r_for (fun j l' => Dn2 prog w x d n2i rn L tp it po nf rs l i k n st j l')
      (It.list (xs := n.su.map V.str)) hh2 (fun j l' e => ?_) ⟨ns₃, ha3, ⟨_, hm3, rfl, rfl⟩, rfl⟩ D ?_ ?_
    · obtain ⟨ns₄, _, ⟨n', h1, h2, h3⟩, rfl⟩ := e
      have := mem_lst h1
      unfold Nd.lst at this
      rw [h2, h3] at this
      refine .inl (.tail _ (.tail _ (.tail _ (.tail _ ?_))))
      unfold SorL
      exact .tail _ (.tail _ (.tail _ (List.mem_append_left _ this)))
    · rintro j y _ s v hy ⟨ns₄, ha₄, hk4, rfl⟩ hv D
      rw [List.getElem?_map] at hy
      obtain ⟨z, hz, rfl⟩ := Option.map_eq_some_iff.mp hy
      obtain ⟨tz, rfl⟩ := er_str hv
      have hzs : z ∈ n.su := List.mem_of_getElem? hz
      have hnm4 : ns₄.map Nd.nm = ns₃.map Nd.nm := names_abs (by rw [ha₄, decG_fold_names, ha3])
      have nd₄ : (ns₄.map Nd.nm).Nodup := by rw [hnm4, hn3]; exact nd
      obtain ⟨m, hm, hmz, hlk⟩ := (dictN_lookup (ns := ns₄) z).resolve_right fun h => h.1 (by rw [hnm4, hn3, ← hnm]; exact hcl₂ n hn z hzs)
      have m1 : (m.x, m.ins) ∈ rowsN ns₄ ++ l := List.mem_append_left _ (mem_ins hm)
      have m2 : (m.d, Ida []) ∈ rowsN ns₄ ++ l := List.mem_append_left _ (mem_ida hm)
      refine wpAny_assign_Name (r_store D (by tm_at "up") fun s D => ?_)
      unfold SorL at D
      refine wpAny_execs_cons (wpAny_Assign_Name (Subscript_ ?_))
      tm_at "nm"
      tm_at "nm"
      refine r_idxD D (.inl (by tm_at "mem")) hlk fun u s hu D => ?_
      obtain rfl := er_ref hu
      refine r_store D (by tm_at "up") fun s D => ?_
      refine wpAny_execs_cons (wpAny_AugAssign_AttributeAny ?_)
      tm_at "nm"
      refine r_getS G D (x := m.x) (d := m.d) (.tail _ (.tail _ (.tail _ (.tail _ (.tail _ (.tail _ (.tail _ (.tail _ m1)))))))) (.tail _ (.tail _ (.tail _ (.tail _ (.tail _ (.tail _ (.tail _ (.tail _ m2)))))))) (by rfl) (by rfl) (by rfl) (by rfl) (by rfl) (by rfl) rfl (by intro i h; cases h) fun u s hu D => ?_
      obtain ⟨t1, rfl⟩ := er_int hu
      refine r_int D fun t2 s D => r_isub D fun t3 s D => ?_
      refine r_setS (Cl := 62) (i := 1) (x := m.x) (d := m.d) (sl := [some (.str m.nm), some (.int m.np), some (.ref m.sc)]) G D (.tail _ (.tail _ (.tail _ (.tail _ (.tail _ (.tail _ (.tail _ (.tail _ m2)))))))) (.tail (.tail (.tail (.tail (.tail (.tail (.tail (.tail (up_np nd₄ hm (m.np - 1)).app1)))))))) (by rfl) (by rfl) (by rfl) (by rfl) (by rfl) (by decide) fun s D => ?_
      have hd5 : dictN (modN m.nm (fun q => { q with np := m.np - 1 }) ns₄) = dictN ns₄ := dictN_mod _ _ (by intro _; exact ⟨rfl, rfl⟩) _
      rw [← hd5] at D
      have ha5 := abs_dec nd₄ hm
      have hm5 : ({ m with np := m.np - 1 } : Nd) ∈ modN m.nm (fun q => { q with np := m.np - 1 }) ns₄ := by
        have := mem_modN (k := m.nm) (f := fun q => { q with np := m.np - 1 }) hm
        rwa [if_pos rfl] at this
      have nd5 : ((modN m.nm (fun q => { q with np := m.np - 1 }) ns₄).map Nd.nm).Nodup := by rw [modN_nm (by intro _; rfl)]; exact nd₄
      have hk5 := keep_modN (k := m.nm) (p := m.np - 1) hk4
      have hnp5 := lookup_abs nd5 hm5
      have ha6 : abs (modN m.nm (fun q => { q with np := m.np - 1 }) ns₄) = modG z (fun q => (q.1 - 1, q.2)) ((n.su.take j).foldl decG (modG k (fun q => (-2, q.2)) st.1, st.2)).1 := by rw [ha5, ha₄, hmz]
      have hnpz : npG (modG z (fun q => (q.1 - 1, q.2)) ((n.su.take j).foldl decG (modG k (fun q => (-2, q.2)) st.1, st.2)).1) z = some (m.np - 1) := by
        unfold npG
        rw [← ha6, ← hmz]
        show ((abs _).lookup ({ m with np := m.np - 1 } : Nd).nm).map (·.1) = _
        rw [hnp5]; rfl
      have hstep : (n.su.take (j + 1)).foldl decG (modG k (fun q => (-2, q.2)) st.1, st.2) = decG ((n.su.take j).foldl decG (modG k (fun q => (-2, q.2)) st.1, st.2)) z := by rw [take_snoc hz, List.foldl_append]; rfl
      have hlen4 := decG_len (n.su.take j) (modG k (fun q => (-2, q.2)) st.1, st.2)
      have hlt := List.length_take_le j n.su
      have hlt2 := List.length_take_le' j n.su
      generalize (n.su.take j).foldl decG (modG k (fun q => (-2, q.2)) st.1, st.2) = st4 at *
      generalize modN m.nm (fun q => { q with np := m.np - 1 }) ns₄ = ns₅ at *
      have m1 : (m.x, ({ m with np := m.np - 1 } : Nd).ins) ∈ rowsN ns₅ ++ l := List.mem_append_left _ (mem_ins hm5)
      have m2 : (m.d, Ida []) ∈ rowsN ns₅ ++ l := List.mem_append_left _ (mem_ida (n := { m with np := m.np - 1 }) hm5)
      refine wpAny_execs_cons (wpAny_If (wpAny_isTrue_Compare1 (Attribute_any_ ?_)))
      tm_at "nm"
      refine r_getS G D (x := m.x) (d := m.d) (.tail _ (.tail _ (.tail _ (.tail _ (.tail _ (.tail _ (.tail _ (.tail _ m1)))))))) (.tail _ (.tail _ (.tail _ (.tail _ (.tail _ (.tail _ (.tail _ (.tail _ m2)))))))) (by rfl) (by rfl) (by rfl) (by rfl) (by rfl) (by rfl) rfl (by intro i h; cases h) fun u s hu D => ?_
      obtain ⟨t4, rfl⟩ := er_int hu
      refine r_int D fun t5 s D => r_eqI (r_truth ?_)
      cases hzz : (m.np - 1 == 0) with
      | true =>
        have hdec : decG st4 z = (modG z (fun q => (q.1 - 1, q.2)) st4.1, st4.2 ++ [z]) := by
          unfold decG
          dsimp only
          rw [hnpz, beq_iff_eq.mp hzz, if_pos rfl]
        refine wpAny_execs_cons (wpAny_Expr (r_callAttr (Attribute_any_ ?_)))
        tm_at "nm"
        refine r_getI G D (by tm_at "mem") (by tm_at "mem") rfl (by rfl) (by rfl) (by rfl) (by rfl) (by intro i h; cases h) fun u s hu D => ?_
        obtain rfl := er_ref hu
        refine r_methList D (.inl (by tm_at "mem")) F.plainAttrs_list F.slot_list_append F.type_list_append (callWith_one ?_)
        tm_at "nm"
        refine r_appendB D (by tm_at "up") (by rw [List.length_map]; dsimp only at hlen4; omega) fun s D => ?_
        refine wpAny_execs_nil (wpAny_execs_nil ⟨_, ⟨ns₅, ?_, hk5, rfl⟩, ?_⟩)
        · rw [hstep, hdec, ha6]
        · rw [hstep, hdec]
          unfold SorL
          rw [List.map_append]
          exact D.weak (a := L) (by tm_at "up") (Nsp.sub (by tm_at "sub"))
      | false =>
        have hdec : decG st4 z = (modG z (fun q => (q.1 - 1, q.2)) st4.1, st4.2) := by
          unfold decG
          dsimp only
          rw [hnpz, if_neg (by simpa using hzz)]
        refine wpAny_execs_nil (wpAny_execs_nil ⟨_, ⟨ns₅, ?_, hk5, rfl⟩, ?_⟩)
        · rw [hstep, hdec, ha6]
        · rw [hstep, hdec]
          unfold SorL
          exact D.weak (a := L) (by tm_at "up") (Nsp.sub (by tm_at "sub"))
    · rintro _ s ⟨ns₄, ha₄, hk4, rfl⟩ D
      rw [List.length_map, List.take_length] at ha₄ D
      have hdone : (rs.take (i + 1)).foldl doneStep (abs ns, []) = n.su.foldl decG (modG k (fun q => (-2, q.2)) st.1, st.2) := by
        rw [take_snoc hk, List.foldl_append, hst]
        show doneStep st k = _
        unfold doneStep
        rw [hsu]
      unfold SorL at D
      refine wpAny_execs_cons (wpAny_AugAssign_AttributeAny ?_)
      tm_at "nm"
      refine r_getI G D (by tm_at "mem") (by tm_at "mem") rfl (by rfl) (by rfl) (by rfl) (by rfl) (by intro i h; cases h) fun u s hu D => ?_
      obtain ⟨t1, rfl⟩ := er_int hu
      refine r_int D fun t2 s D => r_iadd D fun t3 s D => ?_
      refine r_setI G D (by tm_at "mem") (by tm_at "up") (by rfl) (by rfl) (by rfl) (by rfl) sorM_len fun s D => ?_
      refine wpAny_execs_nil ⟨_, ⟨ns₄, by rw [hdone]; exact ha₄, rfl⟩, ?_⟩
      rw [hdone, show nf + ((i + 1 : Nat) : Int) = nf + i + 1 from by omega]
      exact D
  · rintro _ s ⟨ns₂, ha₂, rfl⟩ D
    rw [List.length_map, List.take_length] at ha₂ D
    exact wpAny_execs_nil (h ns₂ s ha₂ D.drop.drop)
end
set_option maxRecDepth 100000
theorem suOf_abs (ns : List Nd) (k : Str) : suOf ns k = suG (abs ns) k := by
  unfold suOf suG abs
  induction ns with
  | nil => rfl
  | cons n ns ih =>
    rw [List.find?_cons]
    show _ = ((List.lookup k ((n.nm, n.np, n.su) :: _)).map (·.2)).getD []
    rw [List.lookup]
    by_cases h : n.nm = k
    · subst h; simp
    · have h2 : (k == n.nm) = false := by simpa using Ne.symm h
      rw [h2]; simp only [decide_eq_false h]; exact ih
noncomputable def stepG (st : GS × List Str) : GS × List Str := st.2.foldl doneStep (st.2.foldl outG st.1, [])
noncomputable def itG : Nat → GS × List Str → GS × List Str
  | 0, st => st
  | n + 1, st => stepG (itG n st)
structure Ok1 (st : GS × List Str) : Prop where
  sub : ∀ k ∈ st.2, k ∈ st.1.map (·.1)
  len : st.2.length ≤ 90
  out : ∀ i k, st.2[i]? = some k → npG ((st.2.take i).foldl doneStep (st.2.foldl outG st.1, [])).1 k = some (-1)
  rdl : ∀ i, ((st.2.take i).foldl doneStep (st.2.foldl outG st.1, [])).2.length ≤ 1000

structure Rw where
  nm : Str
  t : Addr
  a : Addr
  ws : List Str
structure Rn where
  a : Addr
  ps : List (Addr × Str)
noncomputable def oneRows (ps : List (Addr × Str)) : List (Addr × C) := ps.map fun p => (p.1, Lst [V.str p.2])
noncomputable def Rn.rows (r : Rn) : List (Addr × C) := (r.a, Lst (r.ps.map fun p => V.ref p.1)) :: oneRows r.ps
noncomputable def rowsR (rs : List Rn) : List (Addr × C) := rs.flatMap Rn.rows

section
variable {prog : Program} {w : World} {A : Around} {E : Value → Shared → Prop} {s B : Shared} {l l' : List (Addr × C)} {env : Env} {mg mb : Str → Option Value}

theorem r_assign2 {a b : Str} {pa pb pos : Pos} {k : Nat} {t : Addr} {u₁ u₂ : V} {Q : Unit → Shared → Prop} (D : In B l s) (hA : A.handled = none) (r : Rd B l t (Tup [u₁, u₂]))
    (h : ∀ v₁ v₂ s', er v₁ = u₁ → er v₂ = u₂ → In B l s' → wpAny (model prog w) A (storeName env a v₁) (fun _ s₁ => wpAny (model prog w) A (storeName env b v₂) (fun _ s₂ => Q () s₂) E s₁) E s') :
    wpAny (model prog w) A (assign (.Tuple [.Name a pa, .Name b pb] k pos) env (.ref t)) Q E s := by
  obtain ⟨o, ho, vs, n, rfl, hx⟩ := D.rd r
  obtain ⟨vl⟩ := vs
  obtain ⟨v₁, r₁, rfl, h1, h2⟩ := List.map_eq_cons_iff.mp hx
  obtain ⟨v₂, r₂, rfl, h3, h4⟩ := List.map_eq_cons_iff.mp h2
  rw [List.map_eq_nil_iff] at h4
  subst h4
  refine wpAny_assign_Tuple hA ⟨_, ho, rfl, n, rfl⟩ rfl rfl fun h' he => ?_
  have D' : In B l { s with heap := h', toks := s.toks } := D.ext fun b o e => he b o (Nat.ne_of_lt (Heap.lt_size e)) e
  refine assignInOrder_cons (assign_Name ?_)
  exact wpAny_mono (h v₁ v₂ _ h1 h3 D') (fun _ s₁ h₁ => assignInOrder_cons (assign_Name (wpAny_mono h₁ (fun _ s₂ h₂ => assignInOrder_nil h₂) fun _ _ x => x))) fun _ _ x => x

theorem r_forT {elts : List Expr} {kk : Nat} {tpos : Pos} {body : List Stmt} {a it : Addr} {xs : List Addr} {Q : Flow → Shared → Prop} (J : Nat → List (Addr × C) → Prop) {l₀ : List (Addr × C)} (hA : A.handled = none)
    (hl : ∀ i l, J i l → Rd B l a (Lst (xs.map V.ref))) (h0 : J 0 l₀) (D : In B ((it, Itr a 0) :: l₀) s)
    (turn : ∀ i t l s, xs[i]? = some t → J i l → In B ((it, Itr a (i + 1)) :: l) s →
      wpAny (model prog w) A (assign (.Tuple elts kk tpos) env (.ref t)) (fun _ s₂ => wpAny (model prog w) A (execs body env) (After (fun s₃ => ∃ l', J (i + 1) l' ∧ In B ((it, Itr a (i + 1)) :: l') s₃) Q) NoE s₂) NoE s)
    (done : ∀ l s, J xs.length l → In B l s → Q .next s) :
    codeAny (model prog w) A (.forLoop (.Tuple elts kk tpos) (.ref it) body [] env) (fun r s' => match r with | .ok f => Q f s' | .error e => cameBackBy (model prog w) A env E e s') s := by
  refine codeAny_forLoop_any (fun n s => ∃ i l, i + n = xs.length ∧ J i l ∧ In B ((it, Itr a i) :: l) s) (fun n s hI => ?_) xs.length ⟨0, l₀, by omega, h0, D⟩
  obtain ⟨i, l, hn, hJ, D⟩ := hI
  refine (It.list (prog := prog) (w := w) (B := B) (it := it) (a := a) (xs := xs.map V.ref)).next hA (hl i l hJ) D (by rw [List.length_map]; omega) (fun v s hv D => ?_) fun e s D => wpAny_execs_nil (done l _ (by rw [List.length_map] at e; exact e ▸ hJ) D)
  rw [List.getElem?_map] at hv
  obtain ⟨t, ht, hv⟩ := Option.map_eq_some_iff.mp hv
  obtain rfl := er_ref hv.symm
  have hi : i < xs.length := (List.getElem?_eq_some_iff.mp ht).1
  refine wpAny_letOwnedTupleGo_listiter (itr_is (D.has (.head _))) ?_
  refine noE (wpAny_mono (turn i t l _ ht hJ D) (fun _ s₂ h₂ => wpAny_mono h₂ (fun f s₃ h₃ => ?_) fun _ _ x => x.elim) fun _ _ x => x)
  cases f with
  | next => obtain ⟨l', h1, h2⟩ := h₃; exact ⟨n - 1, by omega, i + 1, l', by omega, h1, h2⟩
  | cont => obtain ⟨l', h1, h2⟩ := h₃; exact ⟨n - 1, by omega, i + 1, l', by omega, h1, h2⟩
  | brk => exact h₃
  | ret v => exact h₃

theorem r_starL {a : Addr} {xs : List V} {Q : List Value → Shared → Prop} (D : In B l s) (r : Rd B l a (Lst xs)) (hsz : xs.length ≤ 1000) (k : ∀ vs s', vs.map er = xs → In B l s' → Q vs s') : StarOf (model prog w) A E (.ref a) Q s := by
  obtain ⟨o, ho, vs, n, rfl, hx⟩ := D.rd r
  have hlen : vs.size = xs.length := by rw [← hx]; simp
  have hT : s.TypeIs (.ref a) "list" := ⟨_, ho, rfl⟩
  unfold StarOf notIterableAtAll
  refine wpAny_bind (wpAny_specialOf hT PySem.F.slot_list_iter.lookup (wpAny_pure ⟨rfl, ?_⟩))
  exact wpAny_collect_seq a (.inl rfl) ho rfl rfl (fun h' hk => k _ _ hx (D.ext (tk := s.toks) hk)) (by rw [sizeLine_eq]; omega)
theorem r_starT {a : Addr} {xs : List V} {Q : List Value → Shared → Prop} (D : In B l s) (r : Rd B l a (Tup xs)) (hsz : xs.length ≤ 1000) (k : ∀ vs s', vs.map er = xs → In B l s' → Q vs s') : StarOf (model prog w) A E (.ref a) Q s := by
  obtain ⟨o, ho, vs, n, rfl, hx⟩ := D.rd r
  have hlen : vs.size = xs.length := by rw [← hx]; simp
  have hT : s.TypeIs (.ref a) "tuple" := ⟨_, ho, rfl⟩
  unfold StarOf notIterableAtAll
  refine wpAny_bind (wpAny_specialOf hT PySem.F.slot_tuple_iter.lookup (wpAny_pure ⟨rfl, ?_⟩))
  exact wpAny_collect_seq a (.inr rfl) ho rfl rfl (fun h' hk => k _ _ hx (D.ext (tk := s.toks) hk)) (by rw [sizeLine_eq]; omega)
theorem r_range {n : Nat} {t : Tok} {Q : Value → Shared → Prop} (D : In B l s) (hn : n ≤ 1000) (k : ∀ r s', In B ((r, fun o => ∃ t u v, o = { cls := .type "range", data := .fields #[.int 0 t, .int n u, .int 1 v] }) :: l) s' → Q (.ref r) s') :
    wpAny (model prog w) A (call (.type "range") [.int n t]) Q E s := call_range_1 (k _ _ (D.push (tk := s.toks + 1 + 1) rfl ⟨_, _, _, rfl⟩))
theorem r_iterR {n : Nat} {r : Addr} {Q : Value → Shared → Prop} (D : In B l s) (hn : n ≤ 1000) (hr : (r, fun o => ∃ t u v, o = { cls := .type "range", data := .fields #[.int 0 t, .int n u, .int 1 v] }) ∈ l) (k : ∀ it s', In B ((it, RIt n 0) :: l) s' → Q (.ref it) s') :
    wpAny (model prog w) A (pyIter (.ref r)) Q E s := by
  obtain ⟨o, ho, t, u, v, rfl⟩ := D.has hr
  have e : Builtin.Range.rangeSize 0 (n : Int) 1 = n := by
    unfold Builtin.Range.rangeSize
    rw [if_pos (by decide)]
    split <;> omega
  refine wpAny_pyIter_range (r := r) (a := 0) (b := n) (c := 1) ho ?_ (k _ _ ?_)
  · unfold Builtin.Range.small
    rw [e]
    simp [Builtin.Range.rangeFitsLong]
    omega
  · rw [e]
    refine D.push (tk := s.toks) rfl ?_
    show _ = _
    simp [rawInt]
end
section
variable {prog : Program} {w : World} {A : Around} {E : Value → Shared → Prop} {s B : Shared} {l l' : List (Addr × C)} {env : Env} {mg mb : Str → Option Value}

theorem r_boundI {x d Cl f : Addr} {sl : List (Option V)} {m : List (Str × V)} {name : Str} {expr : Bool} {Q : Value → Shared → Prop} (G : Gd w mg mb B) (D : In B l s) (hx : (x, Ins Cl d sl) ∈ l) (hd : (d, Ida m) ∈ l)
    (hv : m.lookup name = none) (hg : plainGet (KF w) Cl name = true) (hh : hasDictIn (KF w) Cl = true) (ha : findIn (KF w) (.ref Cl) name = some (some (.ref f))) (hf : isFn (KF w) (.ref f) = true)
    (hgf : specialIn (KF w) (.ref f) "__get__" = some (some (.builtin "function.__get__"))) (ht : takesIn (KF w) (.ref f) = some false) (hc : copiedNames.contains name = false)
    (k : ∀ q s', In B ((q, Ob (methodObj (.ref f) (.ref x))) :: l) s' → Q (.ref q) s') : wpAny (model prog w) A (getAttr (.ref x) name expr) Q E s := by
  obtain ⟨ox, od, I, hid, hod, _⟩ := ins_at D hx hd
  obtain ⟨r, hr, hre⟩ := lookIn_ida (name := name) hid
  rw [hv] at hre
  have : r = none := by cases r <;> simp_all
  subst this
  have X := G.kx.keeps D.keep
  exact get_bind X I (plainGet_of hg).1 (findObj_fn hh ha hgf ht hc hr) (plainGet_of hg).2
    (wpAny_call (fn_get (s := { s with toks := s.toks + 1 }) X (beq_iff_eq.mp hf) (handed_on rfl (k _ _ (D.push (tk := s.toks + 1) rfl rfl)))))

theorem r_callAttrS {o : Expr} {name : Str} {apos pos : Pos} {args : List Expr} {Q : Value → Shared → Prop}
    (h : wpAny M A (eval o env) (fun ov s₁ => wpAny M A (getAttr ov name true) (fun p s₂ => wpAny M A (callWith pos p [] (backTo pos (starEach args env)) []) Q E s₂) E s₁) E s)
    (hbase : attributeBase o name env (eval o env) = eval o env := by rfl)
    (hform : methodCallForm (args.length + 0) (backTo pos (starEach args env)) (backToKw pos (keywordEach [] env)) = false := by rfl) :
    wpAny M A (eval (.Call (.Attribute o name apos) args [] pos) env) Q E s := by
  rw [arm_callAttr, hbase]
  refine wpAny_bind (wpAny_mono h (fun ov s₁ h₁ => wpAny_bind (wpAny_standAt ?_)) fun _ _ x => x)
  unfold methodCall calleeOf
  rw [hform]
  refine wpAny_bind (wpAny_holding (wpAny_bind (wpAny_mono h₁ (fun p s₂ h₂ => wpAny_pure ?_) fun _ _ x => x)))
  exact wpAny_bind (wpAny_pure h₂)

theorem r_callMeth {q f x : Addr} {vs : List Value} {Q : Value → Shared → Prop} (D : In B l s) (hq : (q, Ob (methodObj (.ref f) (.ref x))) ∈ l)
    (h : codeAny (model prog w) A (.call (.ref f) ⟨.ref x :: vs, []⟩) (fun r s' => match r with | .ok (.ret v) => Q v s' | .ok _ => False | .error e => E e s') s) : wpAny (model prog w) A (call (.ref q) vs) Q E s := by
  obtain ⟨o, ho, he⟩ := D.has hq
  have he : o = _ := he
  subst he
  exact wpAny_call (method_call ho h)
theorem star_mono {M : Model} {v : Value} {Q Q' : List Value → Shared → Prop} (h : StarOf M A E v Q s) (k : ∀ vs s', Q vs s' → Q' vs s') : StarOf M A E v Q' s := by
  unfold StarOf at h ⊢
  exact wpAny_mono h (fun b s₂ h₂ => ⟨h₂.1, wpAny_mono h₂.2 (fun vs s₃ h₃ => k vs s₃ h₃) fun _ _ x => x⟩) fun _ _ x => x
theorem r_callS1 {pos p : Pos} {q f x : Addr} {e' : Expr} {Q : Value → Shared → Prop} (G : Gd w mg mb B) (hfn : fnIn (KF w) f = true)
    (h : wpAny (model prog w) A (eval e' env) (fun v' s₂ => StarOf (model prog w) A E v' (fun vs s₃ => ∃ l₁, In B l₁ s₃ ∧ (q, Ob (methodObj (.ref f) (.ref x))) ∈ l₁ ∧
      codeAny (model prog w) A (.call (.ref f) ⟨.ref x :: vs, []⟩) (fun r s' => match r with | .ok (.ret v) => Q v s' | .ok _ => False | .error e => E e s') s₃) s₂) E s)
    (he : starEach [.Starred e' p] env = [(true, eval e' env)] := by rfl) :
    wpAny (model prog w) A (callWith pos (.ref q) [] (backTo pos (starEach [.Starred e' p] env)) []) Q E s := by
  rw [he]
  refine ks_call (P := MethP (KF w) q f (.ref x)) rfl (keeps_M hfn) (ks_lone (wpAny_mono h (fun v' s₂ h₂ => star_mono h₂ fun vs s₃ h₃ => ?_) fun _ _ x => x))
  obtain ⟨l₁, D, hq, hc⟩ := h₃
  obtain ⟨o, ho, heq⟩ := D.has hq
  have heq : o = _ := heq
  subst heq
  exact ⟨⟨ho, G.kx.keeps D.keep⟩, r_callMeth D hq hc⟩
theorem r_callS2 {pos p : Pos} {q f x : Addr} {e e' : Expr} {Q : Value → Shared → Prop} (G : Gd w mg mb B) (hfn : fnIn (KF w) f = true)
    (h : wpAny (model prog w) A (eval e env) (fun v s₁ => wpAny (model prog w) A (eval e' env) (fun v' s₂ => StarOf (model prog w) A E v' (fun vs s₃ => ∃ l₁, In B l₁ s₃ ∧ (q, Ob (methodObj (.ref f) (.ref x))) ∈ l₁ ∧
      codeAny (model prog w) A (.call (.ref f) ⟨.ref x :: v :: vs, []⟩) (fun r s' => match r with | .ok (.ret v) => Q v s' | .ok _ => False | .error e => E e s') s₃) s₂) E s₁) E s)
    (he : starEach [e, .Starred e' p] env = [(false, eval e env), (true, eval e' env)] := by rfl) :
    wpAny (model prog w) A (callWith pos (.ref q) [] (backTo pos (starEach [e, .Starred e' p] env)) []) Q E s := by
  rw [he]
  refine ks_call (P := MethP (KF w) q f (.ref x)) rfl (keeps_M hfn) (Calls.evalArgs_plain (Calls.spliced_cons (wpAny_mono h (fun v s₁ h₁ => ?_) fun _ _ x => x)))
  refine ks_spliced (wpAny_mono h₁ (fun v' s₂ h₂ => star_mono h₂ fun vs s₃ h₃ => Calls.spliced_nil ?_) fun _ _ x => x)
  obtain ⟨l₁, D, hq, hc⟩ := h₃
  obtain ⟨o, ho, heq⟩ := D.has hq
  have heq : o = _ := heq
  subst heq
  rw [List.append_nil]
  exact ⟨⟨ho, G.kx.keeps D.keep⟩, r_callMeth D hq hc⟩
end
set_option maxRecDepth 100000
noncomputable def addAll (rs : List Rw) (g : GS) : GS := rs.foldl (fun g r => addG r.nm r.ws g) g
noncomputable def rdy0 (g : GS) : List Str := (g.filter fun p => p.2.1 == 0).map (·.1)
noncomputable def wid (rs : List Rw) : Nat := (rs.map fun r => 1 + r.ws.length).sum
theorem wid_take {rs : List Rw} {i : Nat} {r : Rw} (h : rs[i]? = some r) : wid (rs.take (i + 1)) = wid (rs.take i) + 1 + r.ws.length := by
  unfold wid
  rw [take_snoc h, List.map_append, List.sum_append_nat]; simp; omega
theorem wid_take_le (rs : List Rw) (i : Nat) : wid (rs.take i) ≤ wid rs := by
  have : wid rs = wid (rs.take i) + wid (rs.drop i) := by
    unfold wid
    rw [← List.sum_append_nat, ← List.map_append, List.take_append_drop]
  omega
theorem readyOf_abs (ns : List Nd) : readyOf ns = rdy0 (abs ns) := by
  unfold readyOf rdy0 abs
  rw [List.filter_map, List.map_map]; rfl
theorem out_names (ks : List Str) (g : GS) : (ks.foldl outG g).map (·.1) = g.map (·.1) := by
  induction ks generalizing g with
  | nil => rfl
  | cons a r ih => rw [List.foldl_cons, ih, outG, modG_names]
theorem out_sus (ks : List Str) (g : GS) : (ks.foldl outG g).map (·.2.2) = g.map (·.2.2) := by
  induction ks generalizing g with
  | nil => rfl
  | cons a r ih => rw [List.foldl_cons, ih, outG, modG_sus a (fun q => (-1, q.2)) (fun _ => rfl)]
theorem itG_names (n : Nat) (st : GS × List Str) : (itG n st).1.map (·.1) = st.1.map (·.1) := by
  induction n with
  | zero => rfl
  | succ n ih => rw [itG, stepG, done_fold_names, out_names, ih]
theorem itG_sus (n : Nat) (st : GS × List Str) : (itG n st).1.map (·.2.2) = st.1.map (·.2.2) := by
  induction n with
  | zero => rfl
  | succ n ih => rw [itG, stepG, done_sus, out_sus, ih]

section
variable {prog : Program} {w : World} {A : Around} {E : Value → Shared → Prop} {s B : Shared} {l l' : List (Addr × C)} {env : Env} {mg mb : Str → Option Value}

theorem r_tuple2 {M : Model} {a b : Expr} {kk : Nat} {pos : Pos} {Q : Value → Shared → Prop} (h : wpAny M A (eval a env) (fun v s₁ => wpAny M A (eval b env) (fun v' s₂ => ∃ l₁, In B l₁ s₂ ∧ ∀ n s', In B ((n, Tup [er v, er v']) :: l₁) s' → Q (.ref n) s') E s₁) E s)
    (he : starEach [a, b] env = (false, eval a env) :: starEach [b] env := by rfl) (he2 : starEach [b] env = (false, eval b env) :: starEach [] env := by rfl) : wpAny M A (eval (.Tuple [a, b] kk pos) env) Q E s := by
  refine wpAny_Tuple ?_
  refine wpAny_items_cons (wpAny_mono h (fun v s₁ h₁ => wpAny_items_cons (wpAny_mono h₁ (fun v' s₂ h₂ => ?_) fun _ _ x => x) he2) fun _ _ x => x) he
  obtain ⟨l₁, D, k⟩ := h₂
  exact wpAny_items_nil ⟨by rw [sizeLine_eq]; simp, k _ _ (D.push (tk := s₂.toks) rfl ⟨#[v, v'], 0, rfl, rfl⟩)⟩

theorem sor_congr {x d n2i : Addr} {rdy : V} {po nf : Int} {ns : List Nd} {Y Y' : List (Addr × C)} (h : Y.Perm Y') : (SorL prog w x d n2i rdy po nf ns Y).Perm (SorL prog w x d n2i rdy po nf ns Y') :=
  List.Perm.cons _ (List.Perm.cons _ (List.Perm.cons _ (List.Perm.append_left _ h)))
theorem rowsR_append (a b : List Rn) : rowsR (a ++ b) = rowsR a ++ rowsR b := List.flatMap_append
noncomputable abbrev rdN (x ro : Addr) (b : Bool) : List (Str × V) := [("sorter", .ref x), ("refused", .bool b), ("rounds", .ref ro)]

noncomputable def Ro1 (prog : Program) (w : World) (x d n2i L a : Addr) (rs : List Rw) (l : List (Addr × C)) (i : Nat) (l' : List (Addr × C)) : Prop :=
  ∃ ns, (ns.map Nd.nm).Nodup ∧ abs ns = addAll (rs.take i) [] ∧ ns.length ≤ wid (rs.take i) ∧ suB (wid (rs.take i)) ns ∧ l' = (L, Nsp [("rows", .ref a), ("sorter", .ref x)]) :: SorL prog w x d n2i .none 0 0 ns l
noncomputable def Ro2 (prog : Program) (w : World) (x d n2i rn ro L : Addr) (b : Bool) (st0 : GS × List Str) (l : List (Addr × C)) (i : Nat) (l' : List (Addr × C)) : Prop :=
  ∃ ns rd po nf, abs ns = (itG i st0).1 ∧ rd.map (fun r : Rn => r.ps.map (·.2)) = (List.range i).map (fun i => (itG i st0).2) ∧
        l' = (rn, Lst ((itG i st0).2.map V.str)) :: SorL prog w x d n2i (.ref rn) po nf ns ((ro, Lst (rd.map fun r => V.ref r.a)) :: (L, Nsp (rdN x ro b)) :: (rowsR rd ++ l))
noncomputable def Ro3 (st0 : GS × List Str) (i : Nat) (Y : List (Addr × C)) (j : Nat) (ys : List V) (l' : List (Addr × C)) : Prop :=
  ∃ ps : List (Addr × Str), ps.map (·.2) = (itG i st0).2.take j ∧ ys = ps.map (fun p => V.ref p.1) ∧ l' = oneRows ps.reverse ++ Y
set_option maxHeartbeats 4000000 in
theorem rounds_spec {a : Addr} {rs : List Rw} {envs : List Env} {R : Result → Shared → Prop} (G : Gd w mg mb B) (D : In B l s) (hd : A.depth < 360) (hh : A.handled = none) (hfr : A.frames = some envs) (ok : FrOk l envs)
    (ra : Rd B l a (Lst ((rs.map Rw.t).map V.ref))) (rt : ∀ r ∈ rs, Rd B l r.t (Tup [.str r.nm, .ref r.a])) (rw' : ∀ r ∈ rs, Rd B l r.a (Lst (r.ws.map V.str))) (hw : wid rs ≤ 80)
    (hcl : ∀ p ∈ addAll rs [], ∀ y ∈ p.2.2, y ∈ (addAll rs []).map (·.1))
    (hrun : ∀ i, i < rs.length → Ok1 (itG i (addAll rs [], rdy0 (addAll rs []))))
    (k : ∀ b tp ro rd s', (b = true → ∃ c ∈ (addAll rs []).map (·.1), Rch (suG (addAll rs [])) c c) → (b = false → ∃ fin, FinOk (suG (addAll rs [])) fin ∧ (∀ k ∈ (addAll rs []).map (·.1), k ∈ fin) ∧ fin.length ≤ (addAll rs []).length) →
      rd.map (fun r : Rn => r.ps.map (·.2)) = (List.range rs.length).map (fun i => (itG i (addAll rs [], rdy0 (addAll rs []))).2) →
      In B ((tp, Tup [.bool b, .ref ro]) :: (ro, Lst (rd.map fun r => V.ref r.a)) :: (rowsR rd ++ l)) s' → R (.ok (.ret (.ref tp))) s') :
    codeAny (model prog w) A (.call (.ref 199) ⟨[.ref a], []⟩) R s := by
  have hrl : rs.length ≤ 80 := by
    refine Nat.le_trans ?_ hw
    unfold wid
    clear k hrun hcl ra rt rw' hw
    induction rs with
    | nil => simp
    | cons r rs ih => simp only [List.map_cons, List.sum_cons, List.length_cons]; omega
  refine r_enter ["rows"] [.ref a] [("rows", .ref a)] G D (by rfl) (by rfl) (by show A.depth < 1000; omega) (BindsTo.of_eq rfl) (by rfl) (by decide) rfl ?_
  intro L A' s' hd' hu' hh' hf' D
  rw [hfr] at hf'
  have hh2 : A'.handled = none := by rw [hh']; exact hh
  refine noE (wpAny_execs_cons (wpAny_Assign_Name (r_callK0 G D (by rfl) (by rfl) (sorter_make G D (by omega) fun x d n2i s hn D => ?_))))
  have D : In B (SorL prog w x d n2i .none 0 0 [] ([(L, Nsp [("rows", .ref a)])] ++ l)) s := D
  have D := D.sorOut [(L, Nsp [("rows", .ref a)])]
  have D : In B ((L, Nsp [("rows", .ref a)]) :: SorL prog w x d n2i .none 0 0 [] l) s := D
  refine r_store D (by tm_at "up") fun s D => ?_
  refine wpAny_execs_cons (wpAny_For ?_)
  tm_at "nm"
  have sorRd : ∀ {p : Addr × C} {b c ns rdy po nf}, Rd B l b c → Rd B (p :: SorL prog w x d n2i rdy po nf ns l) b c := fun h => h.imp (fun h => by unfold SorL; exact .tail _ (.tail _ (.tail _ (.tail _ (List.mem_append_right _ h))))) id
  refine r_iter D (sorRd ra) fun it s D => ?_
  have D := D.weak (a := L) (c' := Nsp [("rows", .ref a), ("sorter", .ref x)]) (by tm_at "up") (Nsp.sub (by tm_at "sub"))
  refine r_forT (fun i l' => Ro1 prog w x d n2i L a rs l i l') hh2
    (fun i l' e => by obtain ⟨_, _, _, _, _, rfl⟩ := e; exact sorRd ra) ⟨[], by simp, by simp [addAll, abs], by simp, (fun n hn => nomatch hn), rfl⟩ D ?_ ?_
  · rintro i t _ s ht ⟨ns, nd, ha, hl, hb, rfl⟩ D
    rw [List.getElem?_map] at ht
    obtain ⟨r, hr, rfl⟩ := Option.map_eq_some_iff.mp ht
    have hrm : r ∈ rs := List.mem_of_getElem? hr
    have hw1 := wid_take hr
    have hw2 := wid_take_le rs (i + 1)
    refine r_assign2 D hh2 (Rd.tail (sorRd (rt r hrm))) fun v₁ v₂ s h1 h2 D => ?_
    obtain ⟨t1, rfl⟩ := er_str h1
    obtain rfl := er_ref h2
    refine r_store D (by tm_at "up") fun s D => ?_
    refine r_store D (by tm_at "up") fun s D => ?_
    refine wpAny_execs_cons (wpAny_Expr (r_callAttrS ?_))
    unfold SorL at D
    tm_at "nm"
    refine r_boundI G D (by tm_at "mem") (by tm_at "mem") rfl (by rfl) (by rfl) (by rfl) (by rfl) (by rfl) (by rfl) (by decide) fun q s D => ?_
    refine r_callS2 (x := x) (f := 109) G (by rfl) ?_
    tm_at "nm"
    tm_at "nm"
    refine r_starL D (Rd.tail (Rd.tail (sorRd (rw' r hrm)))) (by simp; omega) fun vs s hvs D => ⟨_, D, .head _, ?_⟩
    have D : In B ([(q, Ob (methodObj (.ref 109) (.ref x))), (it, Itr a (i + 1)), (L, Nsp (put "row" (.ref r.a) (put "name" (.str r.nm) [("rows", .ref a), ("sorter", .ref x)])))] ++ SorL prog w x d n2i .none 0 0 ns l) s := D
    refine add_spec G (D.sorIn _) (by omega) hh2 hn nd (by omega) hb (by omega) hvs fun ns' s nd' ha' hl' hb' D => ?_
    have D := D.sorOut _
    refine wpAny_execs_nil ⟨_, ⟨ns', nd', ?_, by omega, fun n hn => Nat.le_trans (hb' n hn) (by omega), rfl⟩, ?_⟩
    · rw [ha', ha, take_snoc hr]; unfold addAll; rw [List.foldl_append]; rfl
    · exact (In.drop D).weak (a := L) (by tm_at "up") (Nsp.sub (by tm_at "sub"))
  · rintro _ s ⟨ns, nd, ha, hl, hb, rfl⟩ D
    rw [List.length_map, List.take_length] at ha hl hb
    have hgl : (addAll rs []).length = ns.length := by rw [← ha]; simp [abs]
    have hgn : (addAll rs []).map (·.1) = ns.map Nd.nm := by rw [← ha, abs_nm]
    have hcl' : ∀ n ∈ ns, ∀ y ∈ n.su, y ∈ ns.map Nd.nm := by
      intro n hn y hy
      rw [← hgn]
      refine hcl (n.nm, n.np, n.su) ?_ y hy
      rw [← ha]; exact List.mem_map.mpr ⟨n, hn, rfl⟩
    have hsu : suOf ns = suG (addAll rs []) := by funext k; rw [suOf_abs, ha]
    refine wpAny_execs_cons (wpAny_Assign_Name (r_callK G D (by rfl) (by rfl) (wpAny_items_cons ?_)))
    tm_at "nm"
    have D : In B ([(L, Nsp [("rows", .ref a), ("sorter", .ref x)])] ++ SorL prog w x d n2i .none 0 0 ns l) s := D
    refine wpAny_items_nil ⟨⟨_, D⟩, refused_spec G (D.sorIn _) (by omega) hh2 hf' ((ok.mono (fun p hp => List.mem_append_right _ hp)).cons rfl rfl (.head _)) hn nd (by omega) (fun n hn => Nat.le_trans (hb n hn) (by omega)) hcl' fun b rn s hb1 hb2 D => ?_⟩
    rw [hsu] at hb1 hb2
    rw [← hgn] at hb1 hb2
    rw [← hgl] at hb2
    rw [readyOf_abs, ha] at D
    generalize hst : (addAll rs [], rdy0 (addAll rs [])) = st0 at *
    have hst1 : rdy0 (addAll rs []) = (itG 0 st0).2 := by rw [← hst]; rfl
    rw [hst1] at D
    have D : In B ((rn, Lst ((itG 0 st0).2.map V.str)) :: SorL prog w x d n2i (.ref rn) 0 0 ns ((L, Nsp [("rows", .ref a), ("sorter", .ref x)]) :: l)) s := D
    unfold SorL at D
    refine r_store D (by tm_at "up") fun s D => ?_
    refine wpAny_execs_cons (wpAny_Assign_Name (r_list0 D fun ro s D => ?_))
    refine r_store D (by tm_at "up") fun s D => ?_
    have lRd : ∀ {q r₁ r₂ : List (Addr × C)} {b c}, Rd B l b c → Rd B (q ++ (r₁ ++ (r₂ ++ l))) b c := fun h => h.imp (fun h => List.mem_append_right _ (List.mem_append_right _ (List.mem_append_right _ h))) id
    refine wpAny_execs_cons (wpAny_For (wpAny_Call_ofName (wpAny_Name (r_bi G D (by rfl) (by rfl) (callWith_type1 (wpAny_items_cons (r_callB1 G D (by rfl) (by rfl) ?_)))))))
    tm_at "nm"
    refine r_lenL D (lRd (q := [_, _, _, _, _]) (r₁ := rowsN ns) (r₂ := [_]) ra) (by simp; omega) fun tl s D => ?_
    rw [show ((rs.map Rw.t).map V.ref).length = rs.length from by simp]
    refine wpAny_items_nil (r_range D (by omega) fun rg s D => ?_)
    refine r_iterR D (by omega) (.head _) fun itR s D => ?_
    have D := D.mv1.drop
    have D := D.weak (a := L) (c' := Nsp (rdN x ro b)) (by tm_at "up") (Nsp.sub (by tm_at "sub"))
    have D : In B ((itR, RIt rs.length 0) :: (rn, Lst ((itG 0 st0).2.map V.str)) :: SorL prog w x d n2i (.ref rn) 0 0 ns ((ro, Lst []) :: (L, Nsp (rdN x ro b)) :: l)) s :=
      D.perm (List.Perm.cons _ (((List.Perm.swap _ _ _).trans (List.Perm.cons _ (sor_perm [(ro, Lst [])])) : List.Perm ((ro, Lst []) :: (rn, Lst ((itG 0 st0).2.map V.str)) :: SorL prog w x d n2i (.ref rn) 0 0 ns ((L, Nsp (rdN x ro b)) :: l)) _).symm))
    have hg0 : st0.1 = addAll rs [] := by rw [← hst]
    refine r_for (fun i l' => Ro2 prog w x d n2i rn ro L b st0 l i l') It.range hh2 (fun i l' e => trivial)
      ⟨ns, [], 0, 0, by rw [ha, ← hg0]; rfl, rfl, rfl⟩ D ?_ ?_
    · rintro i y _ s v hy ⟨ns₂, rd, po, nf, ha₂, hrd, rfl⟩ hv D
      have hi : i < rs.length := by have := (List.getElem?_eq_some_iff.mp hy).1; simpa using this
      have hy2 : y = V.int i := by
        rw [List.getElem?_map, List.getElem?_range hi] at hy
        exact (Option.some.inj hy).symm
      subst hy2
      obtain ⟨tv, rfl⟩ := er_int hv
      have O := hrun i hi
      have hnm2 : ns₂.map Nd.nm = ns.map Nd.nm := by rw [← abs_nm, ha₂, itG_names, hg0, hgn]
      have nd₂ : (ns₂.map Nd.nm).Nodup := by rw [hnm2]; exact nd
      have hsus : (abs ns₂).map (·.2.2) = (abs ns).map (·.2.2) := by rw [ha₂, itG_sus, hg0, ha]
      unfold SorL at D
      refine wpAny_assign_Name (r_store D (by tm_at "up") fun s D => ?_)
      refine wpAny_execs_cons (wpAny_Assign_Name (r_callAttr ?_))
      tm_at "nm"
      refine r_methI G D (by tm_at "mem") (by tm_at "mem") rfl (by rfl) (by rfl) (by rfl) ?_
      refine r_callF0 G D (by rfl) ?_
      have D := D.weak (a := L) (c' := Nsp (rdN x ro b)) (by tm_at "up") (Nsp.sub (by tm_at "sub"))
      have D : In B ((itR, RIt rs.length (i + 1)) :: (rn, Lst ((itG i st0).2.map V.str)) :: SorL prog w x d n2i (.ref rn) po nf ns₂ ((ro, Lst (rd.map fun r => V.ref r.a)) :: (L, Nsp (rdN x ro b)) :: (rowsR rd ++ l))) s := D
      have D := D.mv1.perm (List.Perm.cons _ (sor_perm [(itR, RIt rs.length (i + 1))]).symm)
      refine getready_spec G D (by omega) hh2 nd₂ (fun k hk => ?_) (Nat.le_trans O.len (by omega)) fun tp ns₃ s ha₃ D => ?_
      · have := O.sub k hk
        rw [itG_names, hg0, hgn] at this
        rw [hnm2]; exact this
      have D : In B ((tp, Tup ((itG i st0).2.map V.str)) :: (rn, Lst []) :: (x, Ins 159 d []) :: (d, Ida (sorM n2i (.ref rn) (po + (itG i st0).2.length) nf)) :: (n2i, Dc prog w none (dictN ns₃)) :: (rowsN ns₃ ++ ((itR, RIt rs.length (i + 1)) :: (ro, Lst (rd.map fun r => V.ref r.a)) :: (L, Nsp (rdN x ro b)) :: (rowsR rd ++ l)))) s := D
      refine r_store D (by tm_at "up") fun s D => ?_
      have D := D.weak (a := L) (c' := Nsp (("ready", .ref tp) :: rdN x ro b)) (by tm_at "up") (Nsp.sub (by tm_at "sub"))
      refine wpAny_execs_cons (wpAny_Expr (r_callAttrS ?_))
      tm_at "nm"
      refine r_boundI G D (by tm_at "mem") (by tm_at "mem") rfl (by rfl) (by rfl) (by rfl) (by rfl) (by rfl) (by rfl) (by decide) fun q s D => ?_
      refine r_callS1 (x := x) (f := 142) G (by rfl) ?_
      tm_at "nm"
      refine r_starT D (.inl (by tm_at "mem")) (by have := O.len; simp; omega) fun vs s hvs D => ⟨_, D, .head _, ?_⟩
      have hnm3 : ns₃.map Nd.nm = ns.map Nd.nm := by rw [← abs_nm, ha₃, out_names, abs_nm, hnm2]
      have hsus3 : (abs ns₃).map (·.2.2) = (abs ns).map (·.2.2) := by rw [ha₃, out_sus, hsus]
      have D : In B ([(q, Ob (methodObj (.ref 142) (.ref x))), (tp, Tup ((itG i st0).2.map V.str))] ++ (rn, Lst []) :: SorL prog w x d n2i (.ref rn) (po + (itG i st0).2.length) nf ns₃ ((itR, RIt rs.length (i + 1)) :: (ro, Lst (rd.map fun r => V.ref r.a)) :: (L, Nsp (("ready", .ref tp) :: rdN x ro b)) :: (rowsR rd ++ l))) s := D
      have D := D.perm (List.perm_middle.symm)
      have D := D.perm (List.Perm.cons _ (sor_perm [(q, Ob (methodObj (.ref 142) (.ref x))), (tp, Tup ((itG i st0).2.map V.str))]).symm)
      have hnext : itG (i + 1) st0 = (itG i st0).2.foldl doneStep (abs ns₃, []) := by rw [ha₃, ha₂]; rfl
      refine done_spec G D (by omega) hh2 hn (by rw [hnm3]; exact nd) (fun k hk => ?_) O.len ?_ ?_ hvs ?_ ?_ fun ns₄ s ha₄ D => ?_
      · have := O.sub k hk
        rw [itG_names, hg0, hgn] at this
        rw [hnm3]; exact this
      · exact suB_abs hsus3 (fun n hn => Nat.le_trans (hb n hn) (by omega))
      · rw [hnm3]; exact sus_mem hsus3 (fun su => ∀ y ∈ su, y ∈ ns.map Nd.nm) hcl'
      · intro j k hk
        rw [ha₃, ha₂]; exact O.out j k hk
      · intro j
        rw [ha₃, ha₂]; exact O.rdl j
      rw [← hnext] at ha₄ D
      unfold SorL at D
      refine wpAny_execs_cons (wpAny_Expr (r_callAttr ?_))
      tm_at "nm"
      refine r_methList D (.inl (by tm_at "mem")) F.plainAttrs_list F.slot_list_append F.type_list_append ?_
      refine callWith_one (r_listComp ?_)
      tm_at "nm"
      refine r_iterT D (.inl (by tm_at "mem")) fun itC s D => ?_
      have hT : (tp, Tup ((itG i st0).2.map V.str)) ∈ (rn, Lst ((itG (i + 1) st0).2.map V.str)) :: (x, Ins 159 d []) :: (d, Ida (sorM n2i (.ref rn) (po + (itG i st0).2.length) (nf + (itG i st0).2.length))) :: (n2i, Dc prog w none (dictN ns₄)) :: (rowsN ns₄ ++ ([(q, Ob (methodObj (.ref 142) (.ref x))), (tp, Tup ((itG i st0).2.map V.str))] ++ ((itR, RIt rs.length (i + 1)) :: (ro, Lst (rd.map fun r => V.ref r.a)) :: (L, Nsp (("ready", .ref tp) :: rdN x ro b)) :: (rowsR rd ++ l)))) := by tm_at "mem"
      have hZ : In B ((itC, TIt tp 0) :: ((rn, Lst ((itG (i + 1) st0).2.map V.str)) :: (x, Ins 159 d []) :: (d, Ida (sorM n2i (.ref rn) (po + (itG i st0).2.length) (nf + (itG i st0).2.length))) :: (n2i, Dc prog w none (dictN ns₄)) :: (rowsN ns₄ ++ ([(q, Ob (methodObj (.ref 142) (.ref x))), (tp, Tup ((itG i st0).2.map V.str))] ++ ((itR, RIt rs.length (i + 1)) :: (ro, Lst (rd.map fun r => V.ref r.a)) :: (L, Nsp (("ready", .ref tp) :: rdN x ro b)) :: (rowsR rd ++ l)))))) s := D
      have hol := O.len
      refine r_compK (fun j ys l' => Ro3 st0 i ((rn, Lst ((itG (i + 1) st0).2.map V.str)) :: (x, Ins 159 d []) :: (d, Ida (sorM n2i (.ref rn) (po + (itG i st0).2.length) (nf + (itG i st0).2.length))) :: (n2i, Dc prog w none (dictN ns₄)) :: (rowsN ns₄ ++ ([(q, Ob (methodObj (.ref 142) (.ref x))), (tp, Tup ((itG i st0).2.map V.str))] ++ ((itR, RIt rs.length (i + 1)) :: (ro, Lst (rd.map fun r => V.ref r.a)) :: (L, Nsp (("ready", .ref tp) :: rdN x ro b)) :: (rowsR rd ++ l))))) j ys l')
        (It.tup (xs := (itG i st0).2.map V.str)) hh2 ?_ ⟨[], rfl, rfl, rfl⟩ hZ ?_ ?_ (by decide) (by rfl)
      · rintro j ys _ ⟨ps, h1, rfl, rfl⟩
        refine ⟨.inl (List.mem_append_right _ hT), ?_⟩
        have h2 := congrArg List.length h1
        rw [List.length_map, List.length_take] at h2
        rw [List.length_map]; omega
      · rintro K acc j y ys _ s u hy ⟨ps, h1, rfl, rfl⟩ hu D
        rw [List.getElem?_map] at hy
        obtain ⟨z, hz, rfl⟩ := Option.map_eq_some_iff.mp hy
        obtain ⟨tz, rfl⟩ := er_str hu
        refine wpAny_assign_Name (r_store D (by tm_at "up") fun s D => ?_)
        refine r_tests0 (r_list1 (B := B) ?_)
        tm_at "nm"
        refine ⟨_, D, fun n1 s D => ?_⟩
        refine ⟨put "name" (.str z) [], _, ⟨ps ++ [(n1, z)], ?_, ?_, rfl⟩, ?_⟩
        · rw [List.map_append, h1, take_snoc hz]; rfl
        · rw [List.map_append]; rfl
        · rw [List.reverse_append]
          exact D.mv3
      · rintro K acc ys _ s ⟨ps, h1, rfl, rfl⟩ D
        rw [List.length_map, List.take_length] at h1
        refine comp_end D fun s D => ?_
        refine r_append D (by tm_at "up") ?_ fun s D => ?_
        · have h2 := congrArg List.length hrd
          rw [List.length_map, List.length_map, List.length_range] at h2
          rw [List.length_map]; omega
        have D := D.weak (a := L) (c' := Nsp (rdN x ro b)) (by tm_at "up") (Nsp.sub (by tm_at "sub"))
        refine wpAny_execs_nil ⟨_, ⟨ns₄, rd ++ [⟨acc, ps⟩], po + (itG i st0).2.length, nf + (itG i st0).2.length, ha₄, ?_, rfl⟩, ?_⟩
        · rw [List.map_append, hrd, List.range_succ, List.map_append]
          simp only [List.map_cons, List.map_nil, h1]
        · have er1 : (rd ++ [(⟨acc, ps⟩ : Rn)]).map (fun r => V.ref r.a) = rd.map (fun r => V.ref r.a) ++ [er (.ref acc)] := by rw [List.map_append]; rfl
          rw [er1]
          have D1 : In B ((Rn.rows ⟨acc, ps⟩) ++ ((rn, Lst ((itG (i + 1) st0).2.map V.str)) :: SorL prog w x d n2i (.ref rn) (po + (itG i st0).2.length) (nf + (itG i st0).2.length) ns₄ ([(q, Ob (methodObj (.ref 142) (.ref x))), (tp, Tup ((itG i st0).2.map V.str)), (itR, RIt rs.length (i + 1))] ++ ((ro, Lst (rd.map (fun r => V.ref r.a) ++ [er (.ref acc)])) :: (L, Nsp (rdN x ro b)) :: (rowsR rd ++ l))))) s :=
            D.perm (List.Perm.cons _ (List.Perm.append_right _ ((List.reverse_perm ps).map _).symm))
          have D2 := D1.perm List.perm_middle.symm
          have D3 := D2.perm (List.Perm.cons _ ((sor_perm (Rn.rows ⟨acc, ps⟩)).symm))
          have D4 := D3.perm (List.Perm.cons _ (sor_congr (List.perm_append_comm_assoc _ _ _)))
          have D5 := D4.perm (List.Perm.cons _ (sor_perm [(q, Ob (methodObj (.ref 142) (.ref x))), (tp, Tup ((itG i st0).2.map V.str)), (itR, RIt rs.length (i + 1))]))
          have D6 := (D5.mv3).drop.drop
          refine D6.perm (List.Perm.cons _ (List.Perm.cons _ (sor_congr ?_)))
          · rw [rowsR_append]
            have e2 : rowsR [⟨acc, ps⟩] = Rn.rows ⟨acc, ps⟩ := by simp [rowsR]
            rw [e2, List.append_assoc]
            exact ((List.Perm.append_left [(ro, Lst (rd.map (fun r => V.ref r.a) ++ [er (.ref acc)])), (L, Nsp (rdN x ro b))] (List.perm_append_comm_assoc (rowsR rd) (Rn.rows ⟨acc, ps⟩) l)).trans (List.perm_append_comm_assoc _ _ _))
    · rintro _ s ⟨ns₂, rd, po, nf, ha₂, hrd, rfl⟩ D
      rw [List.length_map, List.length_range] at hrd D
      unfold SorL at D
      refine wpAny_execs_cons (wpAny_Return_some (r_tuple2 (B := B) ?_))
      tm_at "nm"
      tm_at "nm"
      refine ⟨_, D, fun tp s D => ?_⟩
      refine k b tp ro rd s hb1 hb2 hrd (D.sublist (.cons_cons _ (.cons _ (.cons _ (.cons _ (.cons _ ?_))))))
      exact List.Sublist.trans (.cons_cons _ (.cons _ (.refl _))) (List.sublist_append_right (rowsN ns₂) _)
end
set_option maxRecDepth 100000
noncomputable def CelO (v : Option V) : C := fun o => ∃ x, o.data = .cell x ∧ x.map er = v
noncomputable def envC (name : Str) (scope : Scope) (L a : Addr) (cd : Value) (cs : List (Str × Addr)) : Env :=
  { scope := scope, locals := L, globals := mainGlobals, cells := cs, qual := name ++ ".<locals>.", func := some a, code := cd, frame := some L, builtins := builtinsNs }
section
variable {prog : Program} {w : World} {M : Model} {A : Around} {E : Value → Shared → Prop} {s B : Shared} {l l' : List (Addr × C)} {env : Env} {mg mb : Str → Option Value}

theorem celO_is {h : Heap} {c : Addr} {v : Option V} (x : Has h c (CelO v)) : ∃ y, h.IsCell c y ∧ y.map er = v := let ⟨o, ho, y, h1, h2⟩ := x; ⟨y, ⟨o, ho, h1⟩, h2⟩
theorem is_celO {h : Heap} {c : Addr} {y : Option Value} (x : h.IsCell c y) : Has h c (CelO (y.map er)) := let ⟨o, ho, h1⟩ := x; ⟨o, ho, y, h1, rfl⟩
theorem r_loadC {x : Str} {c : Addr} {v : V} {Q : Value → Shared → Prop} (D : In B l s) (hc : env.cells.lookup x = some c) (hm : (c, CelO (some v)) ∈ l) (k : ∀ u, er u = v → Q u s)
    (hk : env.scope.kind = .function := by rfl) (hl : env.kindOf x = some .cell := by rfl) : wpAny M A (loadName env x) Q E s := by
  obtain ⟨y, h1, h2⟩ := celO_is (D.has hm)
  obtain ⟨u, rfl, h3⟩ := Option.map_eq_some_iff.mp h2
  exact wpAny_loadName_cell hk hl hc h1 (k u h3)
theorem r_storeC {x : Str} {c : Addr} {v : Value} {o : Option V} {Q : Unit → Shared → Prop} (D : In B l s) (hc : env.cells.lookup x = some c) (u : Up c (CelO o) (CelO (some (er v))) l l') (k : ∀ s', In B l' s' → Q () s')
    (hk : env.scope.kind = .function := by rfl) (hl : env.kindOf x = some .cell := by rfl) : wpAny M A (storeName env x v) Q E s := by
  obtain ⟨y, h1, h2⟩ := celO_is (D.has u.mem)
  exact wpAny_storeName_cell hk hl hc h1 fun h' hc' hs' => k _ (D.upd (tk := s.toks) u hs' (is_celO hc'))

theorem r_enterC {R : Result → Shared → Prop} {name qual : Str} {params : Arguments} {body : List Stmt} {scope : Scope} {dV kV doc pm cdv ct oc : Value} {an od : Option Addr} {osl : Array (Option Value)} {f : Addr} {vals : List Value}
    (cs : Addr → List (Str × Addr)) (binds : List (Str × Value)) (mL : List (Str × V)) (rows : Addr → List (Addr × C))
    (G : Gd w mg mb B) (D : In B l s)
    (ho : (KF w).lookup f = some ⟨oc, od, .func (fnOf name qual params body scope dV kV doc pm an cdv ct), osl⟩) (hcd : codeIn (KF w) cdv qual = true) (hroom : A.depth < recursionLimit)
    (hbind : bindArgs (fnOf name qual params body scope dV kV doc pm an cdv ct) ⟨vals, []⟩ = pure binds)
    (hcs : ∀ L, cellsFrom (L + 1) scope.names [] = cs L)
    (hkind : ∀ L, ∀ x ∈ binds, scope.names.lookup x.1 = some .local ∨ (scope.names.lookup x.1 = some .cell ∧ ((cs L).lookup x.1).isSome = true))
    (hmL : ∀ p ∈ mL, (bindL (fun n => scope.names.lookup n) binds (fun _ => none) p.1).map er = some p.2)
    (hrows : ∀ L, rows L = (cs L).map fun p => (p.2, CelO ((bindC (fun n => scope.names.lookup n) binds (fun _ => none) p.1).map er)))
    (hnc : ∀ L, ((cs L).map (·.1)).Nodup)
    (h : ∀ L A' s', A'.depth = A.depth + 1 → A'.units = A.units + 3 → A'.handled = A.handled → A'.frames = A.frames.map (envC qual scope L f cdv (cs L) :: ·) →
      In B ((L, Nsp mL) :: (rows L ++ l)) s' →
      wpAny (model prog w) A' (execs body (envC qual scope L f cdv (cs L))) (fun fl s' => R (.ok (.ret (match fl with | .ret v => v | _ => .none))) s')
        (fun e s' => wpAny (model prog w) A' (leaving (envC qual scope L f cdv (cs L)) e) (fun _ s'' => R (.error e) s'') (fun e' s'' => R (.error e') s'') s') s')
    (hco : scope.isCoroutine = false := by rfl) (hgen : scope.isGenerator = false := by rfl) (hk : scope.kind = .function := by rfl) : codeAny (model prog w) A (.call (.ref f) ⟨vals, []⟩) R s := by
  have kx := G.kx.keeps D.keep
  refine codeAny_call_cells (fd := fnOf name qual params body scope dV kV doc pm an cdv ct) (body := body) (binds := binds) hroom (kx _ _ ho) rfl (G.lim.keeps D.keep) (codeRec_of kx hcd) rfl hbind rfl ?_ ?_ hco hgen hk
  · intro x hx
    have := hkind s.heap.objs.size x hx
    rw [← hcs] at this; exact this
  intro s₁ X
  have ecs : (callEnvC (fnOf name qual params body scope dV kV doc pm an cdv ct) s.heap.objs.size f).cells = cs s.heap.objs.size := hcs _
  have e : callEnvC (fnOf name qual params body scope dV kV doc pm an cdv ct) s.heap.objs.size f = envC qual scope s.heap.objs.size f cdv (cs s.heap.objs.size) := by
    unfold callEnvC; rw [show (fnOf name qual params body scope dV kV doc pm an cdv ct).scope = scope from rfl, hcs]; rfl
  rw [e] at X ⊢
  refine h s.heap.objs.size _ s₁ rfl rfl rfl rfl ?_
  obtain ⟨h', tk, hs₁, hkeep⟩ := X.done
  have D1 : In B l s₁ := by rw [hs₁]; exact D.ext hkeep
  have hL : Has s₁.heap s.heap.objs.size (Nsp mL) := ns_has X.toInCall.ns hmL
  have hfresh : ∀ p ∈ l, p.1 < s.heap.objs.size := fun p hp => let ⟨o, ho, _⟩ := D.cell p hp; Heap.lt_size ho
  have hBlt : ∀ a, s.heap.objs.size ≤ a → B.heap.get? a = none := fun a ha => by
    cases q : B.heap.get? a with
    | none => rfl
    | some o => exact absurd (Heap.lt_size (D.keep _ _ q)) (Nat.not_lt.mpr ha)
  have hcab : ∀ p ∈ cs s.heap.objs.size, s.heap.objs.size < p.2 := fun p hp => X.above p.1 p.2 hp
  rw [hrows]
  refine ⟨D1.keep, fun p hp => ?_, fun p hp => ?_, ?_, D1.gens, D1.drawn, D1.os⟩
  · rcases List.mem_cons.mp hp with rfl | hp
    · exact hL
    · rcases List.mem_append.mp hp with hp | hp
      · obtain ⟨q, hq, rfl⟩ := List.mem_map.mp hp
        have hlk : (cs s.heap.objs.size).lookup q.1 = some q.2 := by
          have nd := hnc s.heap.objs.size
          clear hcab X e ecs hp
          revert nd hq
          generalize cs s.heap.objs.size = L
          intro hq nd
          induction L with
          | nil => cases hq
          | cons a L ih =>
            obtain ⟨a1, a2⟩ := a
            rw [List.map_cons, List.nodup_cons] at nd
            rcases List.mem_cons.mp hq with rfl | hq
            · simp [List.lookup]
            · have hne : (q.1 == a1) = false := by
                have : q.1 ≠ a1 := fun e => nd.1 (List.mem_map.mpr ⟨q, hq, e⟩)
                simpa using this
              simp only [List.lookup, hne]
              exact ih hq nd.2
        exact is_celO (X.cell q.1 q.2 hlk)
      · exact D1.cell p hp
  · rcases List.mem_cons.mp hp with rfl | hp
    · exact hBlt _ (Nat.le_refl _)
    · rcases List.mem_append.mp hp with hp | hp
      · obtain ⟨q, hq, rfl⟩ := List.mem_map.mp hp
        exact hBlt _ (Nat.le_of_lt (hcab q hq))
      · exact D1.new p hp
  · rw [List.map_cons, List.nodup_cons, List.map_append, List.map_map]
    refine ⟨fun hm => ?_, List.nodup_append.mpr ⟨?_, D.nd, fun a ha b hb => ?_⟩⟩
    · rcases List.mem_append.mp hm with hm | hm
      · obtain ⟨q, hq, e⟩ := List.mem_map.mp hm
        have := hcab q hq
        have e : q.2 = s.heap.objs.size := e
        rw [e] at this; exact Nat.lt_irrefl _ this
      · obtain ⟨q, hq, e⟩ := List.mem_map.mp hm
        have := hfresh q hq
        rw [e] at this; exact Nat.lt_irrefl _ this
    · have := X.apart
      have e2 : (cs s.heap.objs.size).map ((fun x : Addr × C => x.1) ∘ fun p => (p.2, CelO ((bindC (fun n => scope.names.lookup n) binds (fun _ => none) p.1).map er))) = (cs s.heap.objs.size).map (·.2) := rfl
      rw [e2]
      exact List.pairwise_map.mpr this
    · obtain ⟨q, hq, rfl⟩ := List.mem_map.mp ha
      obtain ⟨r, hr, rfl⟩ := List.mem_map.mp hb
      have h1 := hcab q hq
      have h2 := hfresh r hr
      show q.2 ≠ r.1
      intro e
      rw [e] at h1
      exact Nat.lt_irrefl _ (Nat.lt_trans h1 h2)
end
local macro_rules | `(tactic| tm_at "nc") => `(tactic| (refine wpAny_Name ?_; refine r_loadC (by assumption) (by rfl) (by tm_at "mem") ?_; tm_at "inv"))
set_option maxRecDepth 100000
noncomputable def fstStep (acc : List Str) (x : Str) : List Str := if x ∈ acc then acc else acc ++ [x]
noncomputable def firsts (xs : List Str) : List Str := xs.foldl fstStep []
theorem fst_mem (acc xs : List Str) (y : Str) : y ∈ xs.foldl fstStep acc ↔ y ∈ acc ∨ y ∈ xs := by
  induction xs generalizing acc with
  | nil => simp
  | cons x xs ih =>
    rw [List.foldl_cons, ih, fstStep]
    split
    · rename_i h
      constructor
      · rintro (h1 | h1)
        · exact .inl h1
        · exact .inr (.tail _ h1)
      · rintro (h1 | h1)
        · exact .inl h1
        · rcases List.mem_cons.mp h1 with rfl | h1
          · exact .inl h
          · exact .inr h1
    · rw [List.mem_append, List.mem_singleton, List.mem_cons, or_assoc]
theorem firsts_mem (xs : List Str) (y : Str) : y ∈ firsts xs ↔ y ∈ xs := by unfold firsts; rw [fst_mem]; simp
theorem firsts_snoc {xs : List Str} {i : Nat} {x : Str} (h : xs[i]? = some x) : firsts (xs.take (i + 1)) = if x ∈ xs.take i then firsts (xs.take i) else firsts (xs.take i) ++ [x] := by
  rw [take_snoc h]
  show (xs.take i ++ [x]).foldl fstStep [] = _
  rw [List.foldl_append]
  show fstStep (firsts (xs.take i)) x = _
  unfold fstStep
  simp only [firsts_mem]
theorem fst_len (acc xs : List Str) : (xs.foldl fstStep acc).length ≤ acc.length + xs.length := by
  induction xs generalizing acc with
  | nil => simp
  | cons x xs ih =>
    rw [List.foldl_cons]
    have := ih (fstStep acc x)
    have h2 : (fstStep acc x).length ≤ acc.length + 1 := by unfold fstStep; split <;> simp
    simp only [List.length_cons]; omega
theorem firsts_len (xs : List Str) : (firsts xs).length ≤ xs.length := by have := fst_len [] xs; simpa [firsts] using this

section
variable {prog : Program} {w : World} {A : Around} {E : Value → Shared → Prop} {s B : Shared} {l l' : List (Addr × C)} {env : Env} {mg mb : Str → Option Value}

theorem r_sliceTo {value : Expr} {hi : Expr} {p pos : Pos} {a : Addr} {xs : List V} {i : Nat} {Q : Value → Shared → Prop}
    (h : wpAny (model prog w) A (eval value env) (fun o s₁ => wpAny (model prog w) A (eval hi env) (fun vl s₂ => ∃ t l₂, o = .ref a ∧ vl = .int i t ∧ In B l₂ s₂ ∧ Rd B l₂ a (Lst xs) ∧ xs.length ≤ 1000 ∧ i ≤ xs.length ∧
      ∀ n s', In B ((n, Lst (xs.take i)) :: l₂) s' → Q (.ref n) s') E s₁) E s) (ht : ∀ o r, letTemporaryGo value o r = pure () := by intro _ _; rfl) :
    wpAny (model prog w) A (eval (.Subscript value (.Slice none (some hi) none p) pos) env) Q E s := by
  refine wpAny_Subscript_list_slice (wpAny_mono h (fun o s₁ h₁ => ?_) fun _ _ x => x) ht
  rw [evalPart_none]
  refine wpAny_pure ?_
  rw [evalPart_some]
  refine wpAny_mono h₁ (fun vl s₂ h₂ => ?_) fun _ _ x => x
  obtain ⟨t, l₂, rfl, rfl, D, r, hl, hi, k⟩ := h₂
  obtain ⟨ob, ho, vs, n, rfl, hx⟩ := D.rd r
  have hlen : vs.size = xs.length := by rw [← hx]; simp
  refine ⟨a, vs, none, some (i : Int), rfl, ⟨_, ho, rfl, n, rfl⟩, by rw [sizeLine_eq]; omega, .none, .int _ _, k _ _ ?_⟩
  rw [slicePick_upto vs i (by omega)]
  have D1 := D.push (c := Any) (o := { cls := .type "slice", data := .fields #[.none, .int i t, .none] }) (tk := s₂.toks) rfl trivial
  have D2 := D1.push (c := Lst (xs.take i)) (o := { cls := .type "list", data := .seq (vs.toList.take i).toArray }) (tk := s₂.toks) rfl ⟨_, _, rfl, by simp [List.map_take, hx]⟩
  have := D2.mv1.drop
  dsimp only at this
  rwa [Heap.size_push] at this
theorem r_notInS {a : Addr} {xs : List Str} {x : Str} {t : Tok} {Q : Value → Shared → Prop} (D : In B l s) (r : Rd B l a (Lst (xs.map V.str))) (k : Q (.bool (!decide (x ∈ xs))) s) :
    wpAny (model prog w) A (compareOp .NotIn (.str x t) (.ref a)) Q E s := by
  refine r_notIn V.str (fun z => z == x) D r (fun z _ z' _ e => by rw [V.str.inj e]) (fun z _ y hy => ?_) ?_
  · obtain ⟨ty, rfl⟩ := er_str hy
    exact (eqGives_str z x ty t).at _ _
  · have : (xs.any fun z => z == x) = decide (x ∈ xs) := by
      rw [Bool.eq_iff_iff]; simp [List.any_eq_true]
    rw [this]; exact k

set_option maxHeartbeats 1000000 in
theorem first_spec {a : Addr} {ws : List Str} {R : Result → Shared → Prop} (G : Gd w mg mb B) (D : In B l s) (hd : A.depth < 800) (hh : A.handled = none) (ra : Rd B l a (Lst (ws.map V.str))) (hlen : ws.length ≤ 200)
    (k : ∀ n s', In B ((n, Lst ((firsts ws).map V.str)) :: l) s' → R (.ok (.ret (.ref n))) s') : codeAny (model prog w) A (.call (.ref 182) ⟨[.ref a], []⟩) R s := by
  refine r_enterC (fun L => [("things", L + 1)]) [("things", .ref a)] [] (fun L => [(L + 1, CelO (some (.ref a)))]) G D (by rfl) (by rfl) (by show A.depth < 1000; omega) (by rfl) (fun L => by rfl) (fun L x hx => by rw [List.mem_singleton] at hx; subst hx; exact .inr ⟨rfl, rfl⟩) (by intro p hp; cases hp) (fun L => by rfl) (fun L => by show ([("things" : Str)] : List Str).Nodup; decide) ?_
  intro L A' s hd' hu' hh' hf' D
  have hh2 : A'.handled = none := by rw [hh']; exact hh
  have D : In B ((L, Nsp []) :: (L + 1, CelO (some (.ref a))) :: l) s := D
  refine noE (wpAny_execs_cons (wpAny_Return_some (r_listComp (wpAny_Call_ofName (wpAny_Name (r_bi G D (by rfl) (by rfl) (callWith_type1 (wpAny_items_cons (r_callB1 G D (by rfl) (by rfl) ?_)))))))))
  refine wpAny_Name (r_loadC D (by rfl) (by tm_at "mem") ?_)
  tm_at "inv"
  refine r_lenL D ra.tail.tail (by simp; omega) fun tl s D => ?_
  rw [List.length_map]
  refine wpAny_items_nil (r_range D (by omega) fun rg s D => ?_)
  refine r_iterR D (by omega) (.head _) fun it s D => ?_
  have D := D.mv1.drop
  refine r_compK (fun i ys l' => ys = (firsts (ws.take i)).map V.str ∧ l' = (L, Nsp []) :: (L + 1, CelO (some (.ref a))) :: l) It.range hh2 ?_ ⟨rfl, rfl⟩ D ?_ ?_ (by decide) (by rfl)
  · rintro i ys _ ⟨rfl, rfl⟩
    refine ⟨trivial, ?_⟩
    rw [List.length_map]
    have := firsts_len (ws.take i)
    rw [List.length_take] at this
    omega
  · rintro K acc i y ys _ s v hy ⟨rfl, rfl⟩ hv D
    have hi : i < ws.length := by have := (List.getElem?_eq_some_iff.mp hy).1; simpa using this
    have hy2 : y = V.int i := by
      rw [List.getElem?_map, List.getElem?_range hi] at hy
      exact (Option.some.inj hy).symm
    subst hy2
    obtain ⟨tv, rfl⟩ := er_int hv
    have hwi : ws[i]? = some ws[i] := List.getElem?_eq_getElem hi
    refine wpAny_assign_Name (r_store D (by tm_at "up") fun s D => ?_)
    refine r_tests1 (wpAny_isTrue_Compare1 (Subscript_ ?_))
    refine wpAny_Name (r_loadC D (by rfl) (by tm_at "mem") ?_)
    tm_at "inv"
    tm_at "nm"
    refine r_idx D (ra.tail.tail.tail.tail.tail) (by simp; omega) (by rw [List.getElem?_map, hwi]; rfl) ?_
    tm_at "inv"
    refine r_sliceTo (B := B) (a := a) (xs := ws.map V.str) (i := i) ?_
    refine wpAny_Name (r_loadC D (by rfl) (by tm_at "mem") ?_)
    tm_at "inv"
    tm_at "nm"
    refine ⟨_, _, rfl, rfl, D, ra.tail.tail.tail.tail.tail, by simp; omega, by simp; omega, fun sl s D => ?_⟩
    rw [← List.map_take] at D
    refine r_notInS D (.inl (.head _)) (r_truth ?_)
    have D := D.drop
    have hf := firsts_snoc hwi
    by_cases hm : ws[i] ∈ ws.take i
    · rw [if_pos hm] at hf
      rw [decide_eq_true hm]
      refine ⟨_, _, ⟨by rw [hf], rfl⟩, D⟩
    · rw [if_neg hm] at hf
      rw [decide_eq_false hm]
      show wpAny _ _ _ _ _ _
      refine Subscript_ ?_
      refine wpAny_Name (r_loadC D (by rfl) (by tm_at "mem") ?_)
      tm_at "inv"
      tm_at "nm"
      refine r_idx D (ra.tail.tail.tail.tail.tail) (by simp; omega) (by rw [List.getElem?_map, hwi]; rfl) ?_
      intro v hv
      refine ⟨_, _, ⟨?_, rfl⟩, D⟩
      rw [hf, hv, List.map_append]; rfl
  · rintro K acc ys _ s ⟨rfl, rfl⟩ D
    rw [List.length_map, List.length_range, List.take_length] at D
    exact comp_end D fun s D => k acc s (D.sublist (.cons_cons _ (.cons _ (.cons _ (.refl _)))))
end
set_option maxRecDepth 100000
noncomputable def fkObj : Obj := { cls := .type "builtin_function_or_method", data := .fields #[.builtin "dict.fromkeys", .type "dict"] }
theorem fk_type : typeOf (.builtin "dict.fromkeys") = pure (.type "classmethod_descriptor") := by show builtinType _ = _; rw [builtinType_eq_fast]; kernel_rfl
theorem fk_entry : entryFor table "dict.fromkeys" = some Builtin.«dict.fromkeys» := entryFor_of_tree (by kernel_rfl)
theorem fk_entryL : entryFor table "dict.fromkeys.loop" = some Builtin.«dict.fromkeys.loop» := entryFor_of_tree (by kernel_rfl)
theorem fk_plainL : plainId "dict.fromkeys.loop" = true := by decide +kernel
theorem fk_plain : plainId "dict.fromkeys" = true := by decide +kernel
theorem fk_quiet {as : Args} : (Code.builtin "dict.fromkeys" as).quiet = true := Code.quiet_builtin _ (by decide +kernel)
theorem fk_tdict : isType (.type "dict") = pure true := by first | rfl | kernel_rfl | (unfold isType; rw [isSubtype_type]; kernel_rfl)
theorem fk_sub : isSubtype (.type "dict") (.type "dict") = pure true := by rw [isSubtype_type]; kernel_rfl
theorem fk_owner : (kfb_private% "ownerAndName") "dict.fromkeys" = ("dict", "fromkeys") := by first | decide +kernel | kernel_rfl
theorem fk_check (a : Addr) : checkBoundCall "dict.fromkeys" ⟨[.type "dict", .ref a], []⟩ = pure () := by first | kernel_rfl | rfl
section
variable {prog : Program} {w : World} {M : Model} {A : Around} {E : Value → Shared → Prop} {s B : Shared} {l l' : List (Addr × C)} {env : Env} {mg mb : Str → Option Value}
theorem fk_get {P : Fin → Shared → Prop} (h : P (.done (.ret (.ref s.heap.objs.size))) { s with heap := s.heap.push fkObj }) :
    wpAny M A (Builtin.«classmethod_descriptor.__get__» ⟨[.builtin "dict.fromkeys", .none, .type "dict"], []⟩) P E s := by
  unfold Builtin.«classmethod_descriptor.__get__»
  refine wpAny_bind (wpAny_of_eq (a := (.builtin "dict.fromkeys", none, some (.type "dict"))) (by first | rfl | kernel_rfl) ?_)
  simp only [fk_owner]
  refine wpAny_bind (wpAny_of_eq (a := .type "dict") rfl ?_)
  refine wpAny_bind (wpAny_of_eq (a := true) fk_tdict ?_)
  refine KFB.if_not rfl ?_
  refine wpAny_bind (wpAny_of_eq (a := true) fk_sub ?_)
  refine KFB.if_not rfl ?_
  exact wpAny_bind (wpAny_newObj_type (wpAny_pure h))

theorem r_fkMeth {pl : Sem Bool} {Q : Value × List Value → Shared → Prop} (G : Gd w mg mb B) (D : In B l s) (k : ∀ x s', In B ((x, Ob fkObj) :: l) s' → Q (.ref x, []) s') :
    wpAny (model prog w) A (getMethod (.type "dict") (PySem.Str.ofString "fromkeys") pl) Q E s := by
  have X := G.kx.keeps D.keep
  have e : findCls (KF w) (.type "dict") (.type "type") (PySem.Str.ofString "fromkeys") = some (.get (.builtin "classmethod_descriptor.__get__") (.builtin "dict.fromkeys") .none (.type "dict")) := by rfl
  have hstub : opaqueClassAbove (.type "dict") = pure none := by unfold opaqueClassAbove; dsimp only; rw [show Manifest.isStub "dict" = false by decide +kernel]; rfl
  have ht : typeOf (.type "dict") = pure (.type "type") := by first | rfl | kernel_rfl
  have L0 : Looks (model prog w) s.heap (typeOf (.type "dict")) (.type "type") := Looks.of_pure ht
  have hg : findIn (KF w) (.type "type") "__getattribute__" = some (some (.builtin "type.__getattribute__")) := by rfl
  unfold getMethod specialOf
  refine wpAny_bind (wpAny_bind (L0.here ((looks_findIn X hg).here ?_)))
  dsimp only
  rw [if_pos canon_tga]
  refine wpAny_bind (wpAny_mono (Q := fun v => Q (v, [])) (E := E) ?_ (fun _ _ z => wpAny_pure z) fun _ _ z => z)
  have LO : Looks (model prog w) s.heap (opaqueClassAbove (.type "dict")) none := Looks.of_pure hstub
  refine cls_open X LO L0 hg (looks_hook X (r := none) (by rfl)) (by show subIn (KF w) _ _ = _; rfl) e ?_
  show wpAny _ _ (holding [.builtin "dict.fromkeys"] (call (.builtin "classmethod_descriptor.__get__") [.builtin "dict.fromkeys", .none, .type "dict"]) >>= fun v => ret v) _ _ _
  refine wpAny_bind (wpAny_holding (wpAny_call_entry KFB.slot_get fk_type KFB.entry_get (fk_get ⟨_, rfl, wpAny_pure (wpAny_pure (k _ _ (D.push (tk := s.toks + 1) rfl rfl)))⟩) (KFB.args_get _ _ _)))
end
set_option maxRecDepth 100000
theorem dn_typeCall : checkTypeCall "dict" ⟨[], []⟩ = pure () := by kernel_rfl
theorem dn_newCall : checkBuiltinCall "dict.__new__" ⟨[.type "dict"], []⟩ = pure () := by kernel_rfl
theorem setL_none (xs : List Str) (x : Str) : setL x V.none (xs.map fun k => (k, V.none)) = (fstStep xs x).map fun k => (k, V.none) := by
  unfold fstStep
  by_cases h : x ∈ xs
  · rw [if_pos h]
    induction xs with
    | nil => cases h
    | cons y ys ih =>
      show (if y = x then (x, V.none) :: ys.map _ else (y, V.none) :: setL x V.none (ys.map _)) = _
      by_cases e : y = x
      · subst e; rw [if_pos rfl]; rfl
      · rw [if_neg e, ih ((List.mem_cons.mp h).resolve_left (Ne.symm e))]; rfl
  · rw [if_neg h, setL_notMem (by rw [List.map_map]; simpa [Function.comp_def] using h), List.map_append]; rfl
section
variable {prog : Program} {w : World} {A : Around} {E : Value → Shared → Prop} {s B : Shared} {l l' : List (Addr × C)} {env : Env} {mg mb : Str → Option Value}

theorem dn_code {Q₁ : Value → Shared → Prop} (h : Q₁ (.ref s.heap.objs.size) { s with heap := s.heap.push { cls := .type "dict", data := .dict #[] } }) :
    codeAny (model prog w) A (.call (.builtin "dict.__new__") ⟨[.type "dict"], []⟩) (wants Q₁ E) s := by
  refine codeAny_call_builtin F.kt_plain_dict_new F.kt_entry_dict_new (wpAny_of_eq dn_newCall ?_)
  have hsub := F.kt_sub_dict
  have hmro := F.kt_mro_dict
  obtain ⟨hp, g, d, tk, os⟩ := s
  unfold Builtin.«dict.__new__»
  wp_walk
  exact h
theorem r_dictCall0 {Q : Value → Shared → Prop} (G : Gd w mg mb B) (D : In B l s) (k : ∀ n s', (n == sysModules) = false → In B ((n, Dc prog w none []) :: l) s' → Q (.ref n) s') : wpAny (model prog w) A (call (.type "dict") []) Q E s := by
  refine callType_codes (Q₁ := fun obj s₁ => obj = .ref s.heap.objs.size ∧ s₁ = { s with heap := s.heap.push { cls := .type "dict", data := .dict #[] } }) F.kt_called_dict dn_typeCall F.entry_dict_init (dn_code ⟨rfl, rfl⟩) ?_
  rintro obj s₁ ⟨rfl, rfl⟩
  have hnew : (s.heap.push { cls := .type "dict", data := .dict #[] }).DictOf (strKind prog w) s.heap.objs.size [] := Heap.DictOf.new s.heap
  refine ⟨hnew.typeIs, F.args_dict_init_1 _, ?_⟩
  unfold Builtin.«dict.__init__»
  refine wpAny_bind ?_
  unfold Builtin.Dict.selfAndRest
  refine wpAny_bind (wpAny_notOrdered_dict hnew.typeIs ?_)
  show wpAny _ _ (pure (s.heap.objs.size, ([] : List Value))) _ _ _
  refine wpAny_pure ?_
  show wpAny _ _ (Builtin.Dict.addKeywords s.heap.objs.size [] >>= _) _ _ _
  refine wpAny_bind (wpAny_pure (wpAny_pure ⟨rfl, k _ _ (notSys G D) ?_⟩))
  exact D.push (tk := s.toks) rfl ⟨#[], 0, [], ⟨rfl, rfl, rfl⟩, rfl, fun _ he => by simp at he, Pairs.nil, List.nodup_nil, rfl, fun _ h => nomatch h⟩

theorem r_dictSet {d : Addr} {e : Option Nat} {kvs : List (Str × V)} {k : Str} {t : Tok} {v : Value} {Q : Unit → Shared → Prop} (D : In B l s) (u : Up d (Dc prog w e kvs) (Dc prog w none (setL k (er v) kvs)) l l') (hsz : kvs.length ≤ 1000) (h : ∀ s', In B l' s' → Q () s') :
    wpAny (model prog w) A (dictSet d (.str k t) v) Q E s := by
  obtain ⟨vs, hd, rfl⟩ := dc_of (D.has u.mem)
  have nd : (vs.map (·.1)).Nodup := by obtain ⟨_, _, _, _, _, _, _, _, h⟩ := hd; exact h
  refine wpAny_dictSet_pairs (strKind_is prog w k t) hd (fun h' hd' hs' => h _ (D.upd u hs' ?_)) (by rw [List.length_map] at hsz; rw [sizeLine_eq]; omega)
  rw [← stored_kv _ _ _ nd]; exact of_dc hd'

theorem fk_loop {a d it : Addr} {ws : List Str} {R : Result → Shared → Prop} (hA : A.handled = none) (ra : Rd B l a (Lst (ws.map V.str))) (hlen : ws.length ≤ 900)
    (k : ∀ s', In B ((d, Dc prog w none ((firsts ws).map fun x => (x, V.none))) :: l) s' → R (.ok (.ret (.ref d))) s') (n : Nat) :
    ∀ (i : Nat) (s : Shared), i + n = ws.length → In B ((it, Itr a i) :: (d, Dc prog w none ((firsts (ws.take i)).map fun x => (x, V.none))) :: l) s →
      codeAny (model prog w) A (.builtin "dict.fromkeys.loop" ⟨[.ref d, .ref it, .none], []⟩) R s := by
  induction n with
  | zero =>
    intro i s hi D
    refine codeAny_builtin fk_entryL ?_
    rw [Around.under_plainId fk_plainL _]
    unfold Builtin.«dict.fromkeys.loop»
    have hil : i = (ws.map V.str).length := by rw [List.length_map]; omega
    refine wpAny_bind ((It.list (prog := prog) (w := w) (B := B) (it := it) (a := a) (xs := ws.map V.str)).next (i := i) hA (Rd.tail ra) D (by omega) (fun v s hv D => ?_) fun e s D => ?_)
    · rw [List.getElem?_eq_none (by omega)] at hv; cases hv
    · rw [show ws.take i = ws from by rw [List.take_of_length_le (by omega)]] at D
      exact wpAny_pure (k s D)
  | succ n ih =>
    intro i s hi D
    refine codeAny_builtin fk_entryL ?_
    rw [Around.under_plainId fk_plainL _]
    unfold Builtin.«dict.fromkeys.loop»
    refine wpAny_bind ((It.list (prog := prog) (w := w) (B := B) (it := it) (a := a) (xs := ws.map V.str)).next (i := i) hA (Rd.tail ra) D (by rw [List.length_map]; omega) (fun v s hv D => ?_) fun e s D => by rw [List.length_map] at e; omega)
    rw [List.getElem?_map] at hv
    obtain ⟨x, hx, hv⟩ := Option.map_eq_some_iff.mp hv
    obtain ⟨tv, rfl⟩ := er_str hv.symm
    obtain ⟨vs, hdo, _⟩ := dc_of (D.has (.tail _ (.head _)))
    refine wpAny_bind (wpAny_typeOf hdo.typeIs ?_)
    rw [if_pos (by decide)]
    refine wpAny_bind (wpAny_pure (a := d) (wpAny_bind (wpAny_holding ?_)))
    have hfl := firsts_len (ws.take i)
    have hlt := List.length_take_le' i ws
    refine r_dictSet D (.tail (.head rfl)) (by rw [List.length_map]; omega) fun s D => ?_
    refine wpAny_pure ⟨plainId_quiet fk_plainL _, ih (i + 1) s (by omega) ?_⟩
    have e : firsts (ws.take (i + 1)) = fstStep (firsts (ws.take i)) x := by
      rw [take_snoc hx]; unfold firsts; rw [List.foldl_append]; rfl
    rw [e, ← setL_none]
    exact D

theorem r_fromkeys {u a : Addr} {ws : List Str} {Q : Value → Shared → Prop} (G : Gd w mg mb B) (D : In B l s) (hA : A.handled = none) (hu : (u, Ob fkObj) ∈ l) (ra : Rd B l a (Lst (ws.map V.str))) (hlen : ws.length ≤ 900)
    (k : ∀ d s', (d == sysModules) = false → In B ((d, Dc prog w none ((firsts ws).map fun x => (x, V.none))) :: l) s' → Q (.ref d) s') : wpAny (model prog w) A (call (.ref u) [.ref a]) Q E s := by
  obtain ⟨ou, hou, heu⟩ := D.has hu
  have heu : ou = fkObj := heu
  subst heu
  refine wpAny_call (codeAny_of_tree ?_)
  show wpAny _ A.in1 (callAny (.ref u) ⟨[.ref a], []⟩) _ _ s
  simp only [callAny]
  refine wpAny_bind (wpAny_load hou ?_)
  simp only [fkObj, show (Value.type "builtin_function_or_method" == Value.type "method" || Value.type "builtin_function_or_method" == Value.type "builtin_function_or_method" || Value.type "builtin_function_or_method" == Value.type "method-wrapper") = true by decide, if_true]
  show wpAny _ _ (if (Value.type "builtin_function_or_method" != Value.type "method") = true then _ else _) _ _ _
  rw [if_pos (by decide)]
  refine wpAny_bind (wpAny_of_eq (a := ()) (fk_check _) ?_)
  refine wpAny_pure ⟨fk_quiet, codeAny_builtin fk_entry ?_⟩
  rw [Around.under_plainId fk_plain _]
  unfold Builtin.«dict.fromkeys»
  refine wpAny_bind (wpAny_of_eq (a := true) fk_tdict ?_)
  refine KFB.if_not rfl ?_
  refine wpAny_bind (wpAny_of_eq (a := true) fk_sub ?_)
  refine KFB.if_not rfl ?_
  refine KFB.if_not rfl ?_
  refine wpAny_bind (wpAny_rule (wpAny_bind (wpAny_pure ?_)))
  refine wpAny_bind (r_dictCall0 G D fun d s hn D => ?_)
  refine wpAny_holding ?_
  have hT : s.TypeIs (.ref a) "list" := by obtain ⟨o, ho, vs, n, rfl, _⟩ := D.rd (Rd.tail ra); exact ⟨_, ho, rfl⟩
  obtain ⟨vs, hdo, _⟩ := dc_of (D.has (.head _))
  refine wpAny_bind (wpAny_typeOf hT ?_)
  refine wpAny_bind (wpAny_typeOf hdo.typeIs ?_)
  refine KFB.if_not (by decide) ?_
  refine wpAny_bind (wpAny_typeOf hdo.typeIs ?_)
  refine KFB.if_not (by decide) ?_
  refine wpAny_bind (r_iter D (Rd.tail ra) fun it s D => ?_)
  refine wpAny_pure ⟨plainId_quiet fk_plainL _, ?_⟩
  exact fk_loop (A := A) hA ra hlen (fun s D => k d s hn D) ws.length 0 s (by omega) D
end
set_option maxRecDepth 100000
section
variable {prog : Program} {w : World} {A : Around} {E : Value → Shared → Prop} {s B : Shared} {l l' : List (Addr × C)} {env : Env} {mg mb : Str → Option Value}

theorem callWith_fk {pos : Pos} {u : Addr} {e : Expr} {Q : Value → Shared → Prop} (h : wpAny (model prog w) A (eval e env) (fun v s₁ => (∃ l₁, In B l₁ s₁ ∧ (u, Ob fkObj) ∈ l₁) ∧ wpAny (model prog w) A (call (.ref u) [v]) Q E s₁) E s)
    (he : backTo pos (starEach [e] env) = [(false, eval e env)] := by rfl) :
    wpAny (model prog w) A (callWith pos (.ref u) [] (backTo pos (starEach [e] env)) []) Q E s := by
  rw [he]
  refine callWith_of (P := fun h => h.get? u = some fkObj) rfl (fun h hp => ⟨.machine, .inr (.inl rfl), ?_⟩) (Calls.evalArgs_plain (Calls.spliced_cons (wpAny_mono h (fun v s₁ h₁ => Calls.spliced_nil ?_) fun _ _ x => x)))
  · exact (Looks.ld (part := none) hp).andThen .now
  · obtain ⟨⟨l₁, D, hu⟩, hc⟩ := h₁
    obtain ⟨o, ho, he⟩ := D.has hu
    have he : o = fkObj := he
    subst he
    exact ⟨ho, hc⟩

theorem dedup_spec {a : Addr} {ws : List Str} {R : Result → Shared → Prop} (G : Gd w mg mb B) (D : In B l s) (hd : A.depth < 900) (hh : A.handled = none) (ra : Rd B l a (Lst (ws.map V.str))) (hlen : ws.length ≤ 900)
    (k : ∀ d s', (d == sysModules) = false → In B ((d, Dc prog w none ((firsts ws).map fun x => (x, V.none))) :: l) s' → R (.ok (.ret (.ref d))) s') : codeAny (model prog w) A (.call (.ref 29) ⟨[.ref a], []⟩) R s := by
  refine r_enter ["params", "unhashable_fallback"] [.ref a, .bool false] [("params", .ref a), ("unhashable_fallback", .bool false)] G D (by rfl) (by rfl) (by show A.depth < 1000; omega) (binds_peek (G.kx.keeps D.keep) fun S => by rfl) (by rfl) (by decide) rfl ?_
  intro L A' s hd' hu' hh' hf' D
  have hh2 : A'.handled = none := by rw [hh']; exact hh
  refine noE (wpAny_execs_cons (wpAny_Try_except (wpAny_execs_cons (wpAny_Return_some (r_callAttr (wpAny_Name (r_bi G D (by rfl) (by rfl) (r_fkMeth G D fun u s D => ?_))))))))
  refine callWith_fk (B := B) ?_
  tm_at "nm"
  refine ⟨⟨_, D, .head _⟩, r_fromkeys G D hh2 (.head _) ra.tail.tail hlen fun d s hn D => ?_⟩
  exact k d s hn (D.sublist (.cons_cons _ (.cons _ (.cons _ (.refl _)))))
end
set_option maxRecDepth 100000
noncomputable def six : List Str := ["a", "b", "c", "d", "e", "f"]
noncomputable def ltr (i : Int) : Str := six.getD i.toNat "a"
noncomputable def waits0 : List (Str × List Str) := [("a", []), ("b", ["a"]), ("c", ["a", "b", "a"]), ("d", ["c"]), ("e", []), ("f", [])]
noncomputable def stepW (W : List (Str × List Str)) (x : Int) : List (Str × List Str) := W.map fun p => if p.1 = ltr (x.fmod 6) then (p.1, p.2 ++ [ltr ((x.fdiv 6).fmod 6)]) else p
structure Ww where
  nm : Str
  a : Addr
  ws : List Str
noncomputable def wrows (R : List Ww) : List (Addr × C) := R.map fun r => (r.a, Lst (r.ws.map V.str))
noncomputable def wdict (R : List Ww) : List (Str × V) := R.map fun r => (r.nm, V.ref r.a)
noncomputable def wabs (R : List Ww) : List (Str × List Str) := R.map fun r => (r.nm, r.ws)
theorem disp_keys : ∀ (vs : List (Value × Value)) (ks : List (Str × V)), vs.map (fun p => (er p.1, er p.2)) = ks.map (fun p => (V.str p.1, p.2)) → allStrKeys vs = true ∧ (strPairs vs).map kv = ks
  | [], ks, h => by
    have : ks = [] := by simpa using h.symm
    subst this; exact ⟨rfl, rfl⟩
  | p :: vs, ks, h => by
    cases ks with
    | nil => simp at h
    | cons k ks =>
      rw [List.map_cons, List.map_cons] at h
      obtain ⟨h1, h2⟩ := List.cons.inj h
      obtain ⟨h3, h4⟩ := Prod.mk.inj h1
      obtain ⟨pk, pv⟩ := p
      obtain ⟨t, rfl⟩ := er_str h3
      obtain ⟨i1, i2⟩ := disp_keys vs ks h2
      refine ⟨i1, ?_⟩
      show (k.1, er pv) :: (strPairs vs).map kv = _
      rw [i2, h4]
section
variable {prog : Program} {w : World} {A : Around} {E : Value → Shared → Prop} {s B : Shared} {l l' : List (Addr × C)} {env : Env} {mg mb : Str → Option Value}

theorem r_mod6 {a : Int} {t u : Tok} {Q : Value → Shared → Prop} (D : In B l s) (k : ∀ t s', In B l s' → Q (.int (a.fmod 6) t) s') : wpAny (model prog w) A (binaryOp .Mod (.int a t) (.int 6 u)) Q E s := AutoIntOps.mod_1 (by decide) (k _ _ D.tk)
theorem r_div6 {a : Int} {t u : Tok} {Q : Value → Shared → Prop} (D : In B l s) (k : ∀ t s', In B l s' → Q (.int (a.fdiv 6) t) s') : wpAny (model prog w) A (binaryOp .FloorDiv (.int a t) (.int 6 u)) Q E s :=
  AutoIntOps.floordiv_1 (by decide) (by simp [Builtin.divisionGoesByPylong]; intro h; exact absurd h (by decide)) (k _ _ D.tk)
theorem mod6_lt (a : Int) : 0 ≤ a.fmod 6 ∧ a.fmod 6 < 6 := ⟨Int.fmod_nonneg_of_pos a (by decide), Int.fmod_lt_of_pos a (by decide)⟩
theorem r_dictDisp {keys : List (Option Expr)} {values : List Expr} {pos : Pos} {Q : Value → Shared → Prop} (G : Gd w mg mb B) (D : In B l s)
    (h : ∀ d s', (d == sysModules) = false → In B ((d, Dc prog w none []) :: l) s' →
      wpAny (model prog w) A (evalPairs (pairTrees keys values env pos)) (fun vs s₁ => ∃ (ks : List (Str × V)) (l₁ l₂ : List (Addr × C)), vs.map (fun p => (er p.1, er p.2)) = ks.map (fun p => (V.str p.1, p.2)) ∧ (ks.map (·.1)).Nodup ∧ In B l₁ s₁ ∧
        Up d (Dc prog w none []) (Dc prog w none ks) l₁ l₂ ∧ ∀ s', In B l₂ s' → Q (.ref d) s') E s')
    (hall : keys.all (·.isSome) = true := by rfl) (hl : keys.length = values.length := by rfl) (h0 : keys ≠ [] := by exact List.cons_ne_nil _ _) (hlen : Nat.ble keys.length 15 = true := by rfl) : wpAny (model prog w) A (eval (.Dict keys values pos) env) Q E s := by
  refine wpAny_Dict_walk (knd := strKind prog w) hall hl h0 (Nat.le_of_ble_eq_true hlen) ?_
  have D1 := D.push (c := Dc prog w none []) (o := { cls := .type "dict", data := .dict #[] }) (tk := s.toks) rfl ⟨#[], 0, [], ⟨rfl, rfl, rfl⟩, rfl, fun _ he => by simp at he, Pairs.nil, List.nodup_nil, rfl, fun _ h => nomatch h⟩
  refine wpAny_mono (h _ _ (notSys G D) D1) (fun vs s₁ h₁ => ?_) fun _ _ x => x
  obtain ⟨ks, l₁, l₂, hv, hnd, D₁, u, k⟩ := h₁
  obtain ⟨vs', hd, hm⟩ := dc_of (D₁.has u.mem)
  rw [List.map_eq_nil_iff] at hm
  subst hm
  obtain ⟨hk, hsp⟩ := disp_keys vs ks hv
  refine display_done_str hk ?_ hd fun h' hd' hs' => k _ (D₁.upd u hs' ?_)
  · have : (strPairs vs).map (·.1) = ks.map (·.1) := by rw [← hsp, List.map_map]; rfl
    rw [this]; exact hnd
  · rw [← hsp]; exact of_dc hd'
end
set_option maxRecDepth 100000
theorem six_at (i : Nat) (h : i < 6) : ∃ c, (seqIndex? (i : Int) (Str.ofString "abcdef").length).bind ((Str.ofString "abcdef").cps[·]?) = some c ∧ (⟨#[c]⟩ : Str) = ltr i := by
  match i, h with
  | 0, _ => exact ⟨97, by decide, by decide⟩
  | 1, _ => exact ⟨98, by decide, by decide⟩
  | 2, _ => exact ⟨99, by decide, by decide⟩
  | 3, _ => exact ⟨100, by decide, by decide⟩
  | 4, _ => exact ⟨101, by decide, by decide⟩
  | 5, _ => exact ⟨102, by decide, by decide⟩
theorem ltr_mem {i : Int} (h0 : 0 ≤ i) (h1 : i < 6) : ltr i ∈ six := by
  obtain ⟨n, rfl⟩ := Int.eq_ofNat_of_zero_le h0
  have : n < 6 := by omega
  match n, this with
  | 0, _ => decide
  | 1, _ => decide
  | 2, _ => decide
  | 3, _ => decide
  | 4, _ => decide
  | 5, _ => decide
theorem stepW_names (W : List (Str × List Str)) (x : Int) : (stepW W x).map (·.1) = W.map (·.1) := by
  unfold stepW; rw [List.map_map]; refine List.map_congr_left fun p _ => ?_
  simp only [Function.comp]; split <;> rfl
theorem stepW_fold_names (xs : List Int) (W : List (Str × List Str)) : (xs.foldl stepW W).map (·.1) = W.map (·.1) := by
  induction xs generalizing W with
  | nil => rfl
  | cons x xs ih => rw [List.foldl_cons, ih, stepW_names]
noncomputable def modW (k : Str) (y : Str) (R : List Ww) : List Ww := R.map fun r => if r.nm = k then { r with ws := r.ws ++ [y] } else r
theorem up_ws {R : List Ww} {r : Ww} (nd : (R.map Ww.nm).Nodup) (h : r ∈ R) (y : Str) : Up r.a (Lst (r.ws.map V.str)) (Lst (r.ws.map V.str ++ [V.str y])) (wrows R) (wrows (modW r.nm y R)) := by
  induction R with
  | nil => cases h
  | cons m R ih =>
    rw [List.map_cons, List.nodup_cons] at nd
    rcases List.mem_cons.mp h with rfl | h
    · have e : modW r.nm y (r :: R) = { r with ws := r.ws ++ [y] } :: R := by
        show (if r.nm = r.nm then { r with ws := r.ws ++ [y] } else r) :: modW r.nm y R = _
        rw [if_pos rfl]
        congr 1
        unfold modW
        have : ∀ q ∈ R, (if q.nm = r.nm then { q with ws := q.ws ++ [y] } else q) = id q := fun q hq => by
          rw [if_neg]; rfl
          intro e; exact nd.1 (e ▸ List.mem_map_of_mem hq)
        rw [List.map_congr_left this, List.map_id]
      rw [e]
      show Up r.a _ _ ((r.a, Lst (r.ws.map V.str)) :: wrows R) ((r.a, Lst ((r.ws ++ [y]).map V.str)) :: wrows R)
      rw [List.map_append]
      exact .head rfl
    · have hne : m.nm ≠ r.nm := fun e => nd.1 (e ▸ List.mem_map_of_mem h)
      have e : modW r.nm y (m :: R) = m :: modW r.nm y R := by
        show (if m.nm = r.nm then { m with ws := m.ws ++ [y] } else m) :: modW r.nm y R = _
        rw [if_neg hne]
      rw [e]
      exact .tail (ih nd.2 h)
theorem modW_dict (k y : Str) (R : List Ww) : wdict (modW k y R) = wdict R := by
  unfold wdict modW; rw [List.map_map]; refine List.map_congr_left fun p _ => ?_
  simp only [Function.comp]; split <;> rfl
theorem modW_abs (x : Int) (R : List Ww) : wabs (modW (ltr (x.fmod 6)) (ltr ((x.fdiv 6).fmod 6)) R) = stepW (wabs R) x := by
  unfold wabs modW stepW; rw [List.map_map, List.map_map]; refine List.map_congr_left fun p _ => ?_
  simp only [Function.comp]; split <;> rfl
theorem wabs_nm (R : List Ww) : (wabs R).map (·.1) = R.map Ww.nm := by simp [wabs]
theorem wdict_nm (R : List Ww) : (wdict R).map (·.1) = R.map Ww.nm := by simp [wdict]
theorem wdict_lookup {R : List Ww} {k : Str} (h : k ∈ R.map Ww.nm) : ∃ r ∈ R, r.nm = k ∧ (wdict R).lookup k = some (.ref r.a) := by
  induction R with
  | nil => cases h
  | cons m R ih =>
    by_cases e : m.nm = k
    · subst e; exact ⟨m, .head _, rfl, by show List.lookup _ ((_, _) :: _) = _; simp [List.lookup]⟩
    · have hb : (k == m.nm) = false := by simpa using Ne.symm e
      obtain ⟨r, h1, h2, h3⟩ := ih ((List.mem_cons.mp h).resolve_left (Ne.symm e))
      refine ⟨r, .tail _ h1, h2, ?_⟩
      show List.lookup k ((m.nm, _) :: wdict R) = _
      simp [List.lookup, hb, h3]
theorem swaps_dict {ks : List (Option Expr)} {vs : List Expr} {p : Pos} {t : Option Expr} {ln : Nat} {env : Env} : swapsWith (.Dict ks vs p) t ln env = pure false := rfl
section
variable {prog : Program} {w : World} {A : Around} {E : Value → Shared → Prop} {s B : Shared} {l l' : List (Addr × C)} {env : Env} {mg mb : Str → Option Value}

theorem r_six {value slice : Expr} {i : Int} {t u : Tok} {Q : Value → Shared → Prop} (D : In B l s) (h0 : 0 ≤ i) (h1 : i < 6) (k : ∀ t s', In B l s' → Q (.str (ltr i) t) s')
    (hs : subscripted slice false (.str "abcdef" t) (.int i u) = operate [.str "abcdef" t, .int i u] (getItem (.str "abcdef" t) (.int i u)) := by with_unfolding_all rfl) :
    wpAny (model prog w) A (subscriptTail value slice (.str "abcdef" t) (.int i u)) Q E s := by
  obtain ⟨n, rfl⟩ := Int.eq_ofNat_of_zero_le h0
  obtain ⟨c, hc, he⟩ := six_at n (by omega)
  refine tail_any (ops := _) (s := s) (typeIs_str s _ t) F.slot_str_getitem.lookup (P.getItem_str ?_ hc ?_) hs
  · simp only [Bool.or_eq_false_iff, decide_eq_false_iff_not]
    omega
  · rw [he]; exact k _ _ D.tk
theorem r_mulEqAssoc : True := trivial
theorem r_listC1 {M : Model} {x : Str} {kk : Nat} {p pos : Pos} {Q : Value → Shared → Prop} (D : In B l s) (k : ∀ n s', In B ((n, Lst [V.str x]) :: l) s' → Q (.ref n) s') : wpAny M A (eval (.List [.Constant (.str x) kk p] pos) env) Q E s :=
  r_list1 (B := B) (r_strC D fun t s D => ⟨_, D, fun n s' D => k n s' D⟩)
theorem r_listC3 {M : Model} {x y z : Str} {k1 k2 k3 : Nat} {p1 p2 p3 pos : Pos} {Q : Value → Shared → Prop} (D : In B l s) (k : ∀ n s', In B ((n, Lst [V.str x, V.str y, V.str z]) :: l) s' → Q (.ref n) s') :
    wpAny M A (eval (.List [.Constant (.str x) k1 p1, .Constant (.str y) k2 p2, .Constant (.str z) k3 p3] pos) env) Q E s := by
  refine wpAny_List (wpAny_items_cons (r_strC D fun t1 s D => wpAny_items_cons (r_strC D fun t2 s D => wpAny_items_cons (r_strC D fun t3 s D => wpAny_items_nil ⟨by rw [sizeLine_eq]; simp, ?_⟩))))
  exact k _ _ (D.push (tk := s.toks) rfl ⟨#[.str x t1, .str y t2, .str z t3], 0, rfl, rfl⟩)

theorem r_dict6 {k1 k2 k3 k4 k5 k6 v1 v2 v3 v4 v5 v6 : Expr} {pos : Pos} {Q : Value → Shared → Prop}
    (h : ∃ mg mb l B, Gd w mg mb B ∧ In B l s ∧ ∀ d s', (d == sysModules) = false → In B ((d, Dc prog w none []) :: l) s' →
      wpAny (model prog w) A (eval k1 env) (fun a1 s => wpAny (model prog w) A (eval v1 env) (fun b1 s =>
      wpAny (model prog w) A (eval k2 env) (fun a2 s => wpAny (model prog w) A (eval v2 env) (fun b2 s =>
      wpAny (model prog w) A (eval k3 env) (fun a3 s => wpAny (model prog w) A (eval v3 env) (fun b3 s =>
      wpAny (model prog w) A (eval k4 env) (fun a4 s => wpAny (model prog w) A (eval v4 env) (fun b4 s =>
      wpAny (model prog w) A (eval k5 env) (fun a5 s => wpAny (model prog w) A (eval v5 env) (fun b5 s =>
      wpAny (model prog w) A (eval k6 env) (fun a6 s => wpAny (model prog w) A (eval v6 env) (fun b6 s =>
        ∃ (ks : List (Str × V)) (l₁ l₂ : List (Addr × C)), [(er a1, er b1), (er a2, er b2), (er a3, er b3), (er a4, er b4), (er a5, er b5), (er a6, er b6)] = ks.map (fun p => (V.str p.1, p.2)) ∧ (ks.map (·.1)).Nodup ∧ In B l₁ s ∧
        Up d (Dc prog w none []) (Dc prog w none ks) l₁ l₂ ∧ ∀ s', In B l₂ s' → Q (.ref d) s') E s) E s) E s) E s) E s) E s) E s) E s) E s) E s) E s) E s') :
    wpAny (model prog w) A (eval (.Dict [some k1, some k2, some k3, some k4, some k5, some k6] [v1, v2, v3, v4, v5, v6] pos) env) Q E s := by
  obtain ⟨mg, mb, l, B, G, D, h⟩ := h
  refine r_dictDisp G D fun d s' hn D => ?_
  refine wpAny_mono (Q := fun a b => _) (pairTrees_cons_walk (wpAny_mono (h d s' hn D) (fun a1 s h => wpAny_mono h (fun b1 s h => pairTrees_cons_walk (wpAny_mono h (fun a2 s h => wpAny_mono h (fun b2 s h =>
    pairTrees_cons_walk (wpAny_mono h (fun a3 s h => wpAny_mono h (fun b3 s h => pairTrees_cons_walk (wpAny_mono h (fun a4 s h => wpAny_mono h (fun b4 s h =>
    pairTrees_cons_walk (wpAny_mono h (fun a5 s h => wpAny_mono h (fun b5 s h => pairTrees_cons_walk (wpAny_mono h (fun a6 s h => wpAny_mono h (fun b6 s h => evalPairs_nil h)
      fun _ _ x => x) fun _ _ x => x)) fun _ _ x => x) fun _ _ x => x)) fun _ _ x => x) fun _ _ x => x)) fun _ _ x => x) fun _ _ x => x)) fun _ _ x => x) fun _ _ x => x)) fun _ _ x => x) fun _ _ x => x)) (fun _ _ x => x) fun _ _ x => x
set_option maxHeartbeats 200000 in
theorem waits_spec {a : Addr} {xs : List Int} {R : Result → Shared → Prop} (G : Gd w mg mb B) (D : In B l s) (hd : A.depth < 900) (hh : A.handled = none) (ra : Rd B l a (Lst (xs.map V.int))) (hlen : xs.length ≤ 100)
    (k : ∀ dw W s', (dw == sysModules) = false → wabs W = xs.foldl stepW waits0 → In B ((dw, Dc prog w none (wdict W)) :: (wrows W ++ l)) s' → R (.ok (.ret (.ref dw))) s') : codeAny (model prog w) A (.call (.ref 177) ⟨[.ref a], []⟩) R s := by
  refine r_enter ["numbers"] [.ref a] [("numbers", .ref a)] G D (by rfl) (by rfl) (by show A.depth < 1000; omega) (BindsTo.of_eq rfl) (by rfl) (by decide) rfl ?_
  intro L A' s hd' hu' hh' hf' D
  have hh2 : A'.handled = none := by rw [hh']; exact hh
  refine noE ?_
  refine wpAny_execs_cons ?_
  refine wpAny_Assign_Name ?_ ?_
  rotate_left
  · exact swaps_dict
  refine r_dict6 ?_
  refine ⟨mg, mb, _, B, G, D, ?_⟩
  intro dw s hn D
  refine r_strC D fun t s D => ?_
  refine r_list0 D fun n1 s D => ?_
  refine r_strC D fun t s D => ?_
  refine r_listC1 D fun n2 s D => ?_
  refine r_strC D fun t s D => ?_
  refine r_listC3 D fun n3 s D => ?_
  refine r_strC D fun t s D => ?_
  refine r_listC1 D fun n4 s D => ?_
  refine r_strC D fun t s D => ?_
  refine r_list0 D fun n5 s D => ?_
  refine r_strC D fun t s D => ?_
  refine r_list0 D fun n6 s D => ?_
  refine ⟨[("a", .ref n1), ("b", .ref n2), ("c", .ref n3), ("d", .ref n4), ("e", .ref n5), ("f", .ref n6)], _, _, rfl, by show (["a", "b", "c", "d", "e", "f"] : List Str).Nodup; decide, D, by tm_at "up", fun s D => ?_⟩
  refine r_store D (by tm_at "up") fun s D => ?_
  refine wpAny_execs_cons (wpAny_For ?_)
  tm_at "nm"
  have D := D.weak (a := L) (c' := Nsp [("waits", .ref dw)]) (by tm_at "up") (Nsp.sub (by tm_at "sub"))
  have D : In B ((L, Nsp [("waits", .ref dw)]) :: (dw, Dc prog w none (wdict [⟨"a", n1, []⟩, ⟨"b", n2, ["a"]⟩, ⟨"c", n3, ["a", "b", "a"]⟩, ⟨"d", n4, ["c"]⟩, ⟨"e", n5, []⟩, ⟨"f", n6, []⟩])) :: (wrows [⟨"a", n1, []⟩, ⟨"b", n2, ["a"]⟩, ⟨"c", n3, ["a", "b", "a"]⟩, ⟨"d", n4, ["c"]⟩, ⟨"e", n5, []⟩, ⟨"f", n6, []⟩] ++ l)) s :=
    D.perm ((List.reverse_perm [(L, Nsp [("waits", .ref dw)]), (dw, Dc prog w none _), (n1, Lst []), (n2, Lst [V.str "a"]), (n3, Lst [V.str "a", V.str "b", V.str "a"]), (n4, Lst [V.str "c"]), (n5, Lst []), (n6, Lst [])]).symm.append_right l |>.trans (List.Perm.append_right l (List.Perm.append_left [(n6, Lst []), (n5, Lst []), (n4, Lst [V.str "c"]), (n3, Lst [V.str "a", V.str "b", V.str "a"]), (n2, Lst [V.str "a"]), (n1, Lst [])] (List.Perm.refl _))))
  generalize hW : ([⟨"a", n1, []⟩, ⟨"b", n2, ["a"]⟩, ⟨"c", n3, ["a", "b", "a"]⟩, ⟨"d", n4, ["c"]⟩, ⟨"e", n5, []⟩, ⟨"f", n6, []⟩] : List Ww) = W0 at D
  have hW0 : wabs W0 = waits0 := by subst hW; rfl
  clear hW
  have lRd : ∀ {p q : Addr × C} {r b c}, Rd B l b c → Rd B (p :: q :: (r ++ l)) b c := fun h => h.imp (fun h => .tail _ (.tail _ (List.mem_append_right _ h))) id
  refine r_iter D (lRd ra) fun it s D => ?_
  refine r_for (fun i l' => ∃ W, wabs W = (xs.take i).foldl stepW waits0 ∧ (∀ r ∈ W, r.ws.length ≤ 3 + i) ∧ l' = (L, Nsp [("waits", .ref dw)]) :: (dw, Dc prog w none (wdict W)) :: (wrows W ++ l)) (It.list (xs := xs.map V.int)) hh2
    (fun i l' e => by obtain ⟨W, _, _, rfl⟩ := e; exact lRd ra) ⟨W0, hW0, ?_, rfl⟩ D ?_ ?_
  · intro r hr
    have h1 : (r.nm, r.ws) ∈ wabs W0 := List.mem_map.mpr ⟨r, hr, rfl⟩
    rw [hW0] at h1
    have h2 : ∀ p ∈ waits0, p.2.length ≤ 3 := by decide
    have := h2 _ h1
    dsimp only at this
    omega
  · rintro i y _ s v hy ⟨W, ha, hlW, rfl⟩ hv D
    rw [List.getElem?_map] at hy
    obtain ⟨x, hx, rfl⟩ := Option.map_eq_some_iff.mp hy
    obtain ⟨tx, rfl⟩ := er_int hv
    have hi : i < xs.length := (List.getElem?_eq_some_iff.mp hx).1
    have hnm : W.map Ww.nm = six := by rw [← wabs_nm, ha, stepW_fold_names]; rfl
    have hndW : (W.map Ww.nm).Nodup := by rw [hnm]; decide
    obtain ⟨m0, m1⟩ := mod6_lt x
    obtain ⟨q0, q1⟩ := mod6_lt (x.fdiv 6)
    obtain ⟨r, hr, hrn, hlk⟩ := wdict_lookup (R := W) (k := ltr (x.fmod 6)) (by rw [hnm]; exact ltr_mem m0 m1)
    refine wpAny_assign_Name (r_store D (by tm_at "up") fun s D => ?_)
    refine wpAny_execs_cons (wpAny_Expr (r_callAttr (Subscript_ ?_)))
    tm_at "nm"
    refine Subscript_ ?_
    refine r_strC D fun t1 s D => ?_
    refine wpAny_BinOp ?_
    tm_at "nm"
    refine r_int D fun t2 s D => r_mod6 D fun t3 s D => ?_
    refine r_six D m0 m1 fun t4 s D => ?_
    refine r_idxD D (.inl (by tm_at "mem")) hlk fun u s hu D => ?_
    obtain rfl := er_ref hu
    have hrm : (r.a, Lst (r.ws.map V.str)) ∈ wrows W := List.mem_map.mpr ⟨r, hr, rfl⟩
    refine r_methList D (.inl (.tail _ (.tail _ (.tail _ (List.mem_append_left _ hrm))))) F.plainAttrs_list F.slot_list_append F.type_list_append (callWith_one (Subscript_ ?_))
    refine r_strC D fun t5 s D => ?_
    refine wpAny_BinOp (wpAny_BinOp ?_)
    tm_at "nm"
    refine r_int D fun t6 s D => r_div6 D fun t7 s D => ?_
    refine r_int D fun t8 s D => r_mod6 D fun t9 s D => ?_
    refine r_six D q0 q1 fun t10 s D => ?_
    refine r_append D (.tail (.tail (.tail (up_ws hndW hr (ltr ((x.fdiv 6).fmod 6))).app1))) (by have := hlW r hr; rw [List.length_map]; omega) fun s D => ?_
    refine wpAny_execs_nil ⟨_, ⟨modW r.nm (ltr ((x.fdiv 6).fmod 6)) W, ?_, ?_, rfl⟩, ?_⟩
    · rw [hrn, modW_abs, ha, take_snoc hx, List.foldl_append]; rfl
    · intro r' hr'
      obtain ⟨r0, h0, rfl⟩ := List.mem_map.mp hr'
      have := hlW r0 h0
      split
      · simp; omega
      · omega
    · rw [modW_dict]
      exact D.weak (a := L) (by tm_at "up") (Nsp.sub (by tm_at "sub"))
  · rintro _ s ⟨W, ha, _, rfl⟩ D
    rw [List.length_map, List.take_length] at ha
    refine wpAny_execs_cons (wpAny_Return_some ?_)
    tm_at "nm"
    exact k dw W s hn ha D.drop
end
set_option maxRecDepth 100000
section
variable {prog : Program} {w : World} {A : Around} {E : Value → Shared → Prop} {s B : Shared} {l l' : List (Addr × C)} {env : Env} {mg mb : Str → Option Value} {it : Addr} {c : Nat → C} {xs : List V} {nd : Option (Addr × C)}

theorem r_compKD {kx vx iter target : Expr} {ifs : List Expr} {scope : Scope} {cl : List (Str × Addr)} {pos : Pos} {RR : Value → Addr → Result → Shared → Prop} (J : Nat → List (Str × V) → List (Addr × C) → Prop) {l₀ : List (Addr × C)}
    (G : Gd w mg mb B) (I : It prog w B it c xs nd) (hA : A.handled = none) (hl : ∀ i ys l, J i ys l → Ned B l nd ∧ ys.length ≤ 1000) (h0 : J 0 [] l₀) (D : In B ((it, c 0) :: l₀) s)
    (turn : ∀ K acc i x ys l s v, xs[i]? = some x → J i ys l → er v = x → In B ((it, c (i + 1)) :: (K, Nsp []) :: (acc, Dc prog w none ys) :: l) s →
      wpAny (model prog w) A (assign target (compEnvC scope cl K env) v) (fun _ s₂ => wpAny (model prog w) A (tests ifs (compEnvC scope cl K env)) (fun ok s₃ =>
        if ok = true then wpAny (model prog w) A (eval kx (compEnvC scope cl K env)) (fun kv s₄ => wpAny (model prog w) A (eval vx (compEnvC scope cl K env)) (fun y s₅ => ∃ k t m l', kv = .str k t ∧ J (i + 1) (setL k (er y) ys) l' ∧ In B ((it, c (i + 1)) :: (K, Nsp m) :: (acc, Dc prog w none ys) :: l') s₅) NoE s₄) NoE s₃
        else ∃ m l', J (i + 1) ys l' ∧ In B ((it, c (i + 1)) :: (K, Nsp m) :: (acc, Dc prog w none ys) :: l') s₃) NoE s₂) NoE s)
    (done : ∀ K acc ys l s, (acc == sysModules) = false → J xs.length ys l → In B ((K, Nsp []) :: (acc, Dc prog w none ys) :: l) s → RR (.ref acc) K (.ok .next) s)
    (hcell : ∀ y ∈ scope.names, y.2 ≠ .cell) (hkind : scope.kind = .function) (ht : ∀ v, letOwnedTupleGo target (.ref it) v = pure () := by intro _; rfl) :
    wpAny (model prog w) A newDict (fun acc s₃ => wpAny (model prog w) A (newFunctionEnv scope env.globals cl [] env.qual none .none (some env)) (fun cenv s₄ =>
      codeAny (model prog w) A (.compStart (.DictComp kx vx [⟨target, iter, ifs, 0⟩] scope pos) 0 (.ref it) acc { cenv with scope := relabel scope env }) (RR acc cenv.locals) s₄) E s₃) E s := by
  unfold newDict
  refine wpAny_newObj_type ?_ (by size_fits)
  have hns := notSys G D
  have D := (D.push (c := Dc prog w none []) (o := { cls := .type "dict", data := .dict #[] }) (tk := s.toks) rfl ⟨#[], 0, [], ⟨rfl, rfl, rfl⟩, rfl, fun _ he => by simp at he, Pairs.nil, List.nodup_nil, rfl, fun _ h => nomatch h⟩)
  generalize hacc : s.heap.objs.size = acc at D hns ⊢
  generalize hs₁ : ({ s with heap := s.heap.push { cls := .type "dict", data := .dict #[] }, toks := s.toks } : Shared) = s₁ at D
  refine wpAny_newFunctionEnv hcell (by intro y hy; simp at hy) (fun h₁ hns₁ hsb => ?_) hkind
  have hk₁ : ∀ b o, s₁.heap.get? b = some o → h₁.get? b = some o := fun b o e => hsb.extBut b o (Nat.ne_of_lt (Heap.lt_size e)) (Heap.get?_push_of_some _ e)
  have D := D.add (a := s₁.heap.objs.size) (c := Nsp []) (h' := h₁) (tk := s₁.toks) hk₁ (Heap.get?_none_of_le (Nat.le_refl _)) (ns_has hns₁ fun p hp => nomatch hp)
  generalize s₁.heap.objs.size = K at D ⊢
  have loop : ∀ s, In B ((it, c 0) :: (K, Nsp []) :: (acc, Dc prog w none []) :: l₀) s → codeAny (model prog w) A (.compLoop (.DictComp kx vx [⟨target, iter, ifs, 0⟩] scope pos) 0 (.ref it) (.ref acc) (compEnvC scope cl K env)) (RR (.ref acc) K) s := by
    intro s D
    refine codeAny_compLoop_testsD (fun n s => ∃ i ys l, i + n = xs.length ∧ J i ys l ∧ In B ((it, c i) :: (K, Nsp []) :: (acc, Dc prog w none ys) :: l) s) (fun n s hI => ?_) xs.length ⟨0, [], l₀, by omega, h0, D⟩ ht
    obtain ⟨i, ys, l, hn, hJ, D⟩ := hI
    obtain ⟨h1, h2⟩ := hl i ys l hJ
    refine I.next hA h1.tail.tail D (by omega) (fun v s hv D => ?_) fun e s D => done K acc ys l s hns (e ▸ hJ) D
    have hi : i < xs.length := (List.getElem?_eq_some_iff.mp hv).1
    refine noE (wpAny_mono (turn K acc i _ ys l _ _ hv hJ rfl D) (fun _ s₂ h₂ => wpAny_mono h₂ (fun ok s₃ h₃ => ?_) fun _ _ x => x.elim) fun _ _ x => x)
    cases ok with
    | false =>
      obtain ⟨m, l', h4, h5⟩ := h₃
      exact ⟨n - 1, by omega, i + 1, ys, l', by omega, h4, h5.weak (.tail (.head rfl)) (Nsp.sub fun p hp => nomatch hp)⟩
    | true =>
      refine noE (wpAny_mono h₃ (fun kv s₄ h₄ => wpAny_mono h₄ (fun y s₅ h₅ => ?_) fun _ _ x => x.elim) fun _ _ x => x)
      obtain ⟨k, t, m, l', rfl, h6, h7⟩ := h₅
      refine r_dictSet h7 (.tail (.tail (.head rfl))) h2 fun s h7 => ?_
      exact ⟨n - 1, by omega, i + 1, _, l', by omega, h6, h7.weak (.tail (.head rfl)) (Nsp.sub fun p hp => nomatch hp)⟩
  have D1 : In B ((it, c 0) :: (K, Nsp []) :: (acc, Dc prog w none []) :: l₀) { s₁ with heap := h₁, toks := s₁.toks } := D.perm (List.perm_middle (l₁ := [(K, Nsp []), (acc, Dc prog w none [])]).symm)
  exact codeAny_compStart_dict (loop _ D1) (I.self hA (hl 0 [] l₀ h0).1.tail.tail D1 (loop _ D1))
theorem r_dictComp {kx vx iter target : Expr} {ifs : List Expr} {scope : Scope} {cl : List (Str × Addr)} {pos : Pos} {Q : Value → Shared → Prop}
    (h : wpAny (model prog w) A (eval iter env) (fun xv s₁ => wpAny (model prog w) A (pyIter xv) (fun itv s₂ =>
      wpAny (model prog w) A newDict (fun acc s₃ => wpAny (model prog w) A (newFunctionEnv scope env.globals cl [] env.qual none .none (some env)) (fun cenv s₄ =>
        codeAny (model prog w) A (.compStart (.DictComp kx vx [⟨target, iter, ifs, 0⟩] scope pos) 0 itv acc { cenv with scope := relabel scope env }) (compPost (model prog w) A E none Q acc cenv.locals) s₄) E s₃) E s₂) E s₁) E s)
    (hclos : closureFor scope env = pure cl := by rfl) (hkind : scope.kind = .function := by rfl) (hnames : ∀ y ∈ scope.names, y.2 = .local → scope.names.lookup y.1 = some .local := by decide)
    (hs : ∀ x, foldedSetIterable iter env x = pure x := by intro _; rfl) :
    wpAny (model prog w) A (eval (.DictComp kx vx [⟨target, iter, ifs, 0⟩] scope pos) env) Q E s := by
  have e : eval (.DictComp kx vx [⟨target, iter, ifs, 0⟩] scope pos) env = comprehension (.DictComp kx vx [⟨target, iter, ifs, 0⟩] scope pos) scope env (firstIterPos [⟨target, iter, ifs, 0⟩] pos) newDict (firstAsync [⟨target, iter, ifs, 0⟩]) (firstIter [⟨target, iter, ifs, 0⟩] env) := rfl
  rw [e]
  exact wpAny_comprehension_free (use := none) rfl hs hclos hkind hnames h
theorem compD_end {K acc : Addr} {ys : List (Str × V)} {m : List (Str × V)} {Q : Value → Shared → Prop} (D : In B ((K, Nsp m) :: (acc, Dc prog w none ys) :: l) s) (k : ∀ s', In B ((acc, Dc prog w none ys) :: l) s' → Q (.ref acc) s') :
    compPost (model prog w) A E none Q (.ref acc) K (.ok .next) s := by
  obtain ⟨mv, hn, _⟩ := has_ns (D.has (.head _))
  exact ⟨mv, hn, fun h' hs' => k _ (D.dropExt hs'.extBut)⟩
end
set_option maxRecDepth 100000
theorem intsAre_of : ∀ (vs : List Value) (ns : List Int), vs.map er = ns.map V.int → IntsAre vs ns
  | [], ns, h => by have : ns = [] := by simpa using h.symm
                    subst this; exact .nil
  | v :: vs, ns, h => by
    cases ns with
    | nil => simp at h
    | cons n ns =>
      rw [List.map_cons, List.map_cons] at h
      obtain ⟨h1, h2⟩ := List.cons.inj h
      obtain ⟨t, rfl⟩ := er_int h1
      exact .cons n t (intsAre_of vs ns h2)
theorem strsAre_of : ∀ (vs : List Value) (ns : List Str), vs.map er = ns.map V.str → StrsAre vs ns
  | [], ns, h => by have : ns = [] := by simpa using h.symm
                    subst this; exact .nil
  | v :: vs, ns, h => by
    cases ns with
    | nil => simp at h
    | cons n ns =>
      rw [List.map_cons, List.map_cons] at h
      obtain ⟨h1, h2⟩ := List.cons.inj h
      obtain ⟨t, rfl⟩ := er_str h1
      exact .cons n t (strsAre_of vs ns h2)
theorem of_strsAre {vs : List Value} {ns : List Str} (h : StrsAre vs ns) : vs.map er = ns.map V.str := by
  induction h with
  | nil => rfl
  | cons y t _ ih => rw [List.map_cons, List.map_cons, ih]; rfl
section
variable {prog : Program} {w : World} {A : Around} {E : Value → Shared → Prop} {s B : Shared} {l l' : List (Addr × C)} {env : Env} {mg mb : Str → Option Value}
theorem r_max {a : Addr} {ns : List Int} {Q : Value → Shared → Prop} (D : In B l s) (hA : A.handled = none) (r : Rd B l a (Lst (ns.map V.int))) (hne : 0 < ns.length)
    (k : ∀ M t s', M ∈ ns → (∀ a ∈ ns, a ≤ M) → In B l s' → Q (.int M t) s') : wpAny (model prog w) A (call (.builtin "max") [.ref a]) Q E s := by
  obtain ⟨o, ho, vs, n, rfl, hx⟩ := D.rd r
  have hi := intsAre_of vs.toList ns hx
  obtain ⟨xs, e⟩ := hi.allInts.items
  have hns : ns = xs.toList.map (·.1) := by rw [← hi.numsOf, ← nums_intItems, ← e]
  have hsz : 0 < xs.size := by
    have h3 := hne; rw [hns, List.length_map, Array.length_toList] at h3; exact h3
  have hl : s.heap.IsList a (intItems xs) := ⟨_, ho, rfl, n, by rw [← e]⟩
  refine max_intList hA hl hsz fun v h' tk hv hk => ?_
  obtain ⟨t, rfl⟩ := intItems_at hv
  obtain ⟨h1, h2⟩ := argBest_gt (numAt xs) (xs.size - 1)
  refine k _ t _ ?_ (fun a ha => ?_) (D.ext hk)
  · rw [hns, numAt_eq]; exact getD_mem (by rw [List.length_map, Array.length_toList]; omega)
  · rw [hns] at ha
    obtain ⟨j, hj, rfl⟩ := mem_getD ha
    rw [List.length_map, Array.length_toList] at hj
    rw [← numAt_eq]; exact h2 j (by omega)
end
set_option maxRecDepth 100000
noncomputable def mx (xs : List Int) : Int := xs.foldl max 0
theorem mx_fold (xs : List Int) (z : Int) : z ≤ xs.foldl max z ∧ (∀ a ∈ xs, a ≤ xs.foldl max z) ∧ xs.foldl max z ∈ z :: xs := by
  induction xs generalizing z with
  | nil => exact ⟨Int.le_refl _, fun a ha => (nomatch ha), .head _⟩
  | cons x xs ih =>
    obtain ⟨h1, h2, h3⟩ := ih (max z x)
    rw [List.foldl_cons]
    refine ⟨by omega, fun a ha => ?_, ?_⟩
    · rcases List.mem_cons.mp ha with rfl | ha
      · omega
      · exact h2 a ha
    · rcases List.mem_cons.mp h3 with h3 | h3
      · rw [h3]
        by_cases h : z ≤ x
        · rw [Int.max_eq_right h]; exact .tail _ (.head _)
        · rw [Int.max_eq_left (by omega)]; exact .head _
      · exact .tail _ (.tail _ h3)
theorem mx_eq {M : Int} {xs : List Int} (h : M ∈ 0 :: xs) (h2 : ∀ a ∈ 0 :: xs, a ≤ M) : M = mx xs := by
  obtain ⟨h3, h4, h5⟩ := mx_fold xs 0
  refine Int.le_antisymm ?_ (h2 _ h5)
  rcases List.mem_cons.mp h with rfl | h
  · exact h3
  · exact h4 _ h
noncomputable def wOf (W : List (Str × List Str)) (n : Str) : List Str := (W.lookup n).getD []
noncomputable def lev (W : List (Str × List Str)) : Nat → Str → Int
  | 0, _ => 0
  | j + 1, n => mx ((wOf W n).map fun m => 1 + lev W j m)
noncomputable def lvD (W : List Ww) (f : Str → Int) : List (Str × V) := W.map fun r => (r.nm, V.int (f r.nm))
theorem lvD_step {W : List Ww} {i : Nat} {r : Ww} {f : Str → Int} {v : Int} (nd : (W.map Ww.nm).Nodup) (h : W[i]? = some r) (hv : v = f r.nm) : setL r.nm (V.int v) (lvD (W.take i) f) = lvD (W.take (i + 1)) f := by
  subst hv
  have hk : r.nm ∉ (lvD (W.take i) f).map (·.1) := by
    unfold lvD
    rw [List.map_map]
    intro hm
    obtain ⟨q, hq, e⟩ := List.mem_map.mp hm
    have e : q.nm = r.nm := e
    have h2 : W.map Ww.nm = (W.take i).map Ww.nm ++ (r :: W.drop (i + 1)).map Ww.nm := by
      rw [← List.map_append]
      congr 1
      have hi := (List.getElem?_eq_some_iff.mp h)
      obtain ⟨hlt, he⟩ := hi
      rw [← he, ← List.drop_eq_getElem_cons hlt, List.take_append_drop]
    rw [h2] at nd
    exact (List.nodup_append.mp nd).2.2 q.nm (List.mem_map_of_mem hq) r.nm (.head _) e
  rw [setL_notMem hk, take_snoc h]
  unfold lvD
  rw [List.map_append]; rfl
theorem lvD_lookup {W : List Ww} {f : Str → Int} {y : Str} (h : y ∈ W.map Ww.nm) : (lvD W f).lookup y = some (.int (f y)) := by
  induction W with
  | nil => cases h
  | cons m W ih =>
    show List.lookup y ((m.nm, V.int (f m.nm)) :: lvD W f) = _
    by_cases e : y = m.nm
    · subst e; simp [List.lookup]
    · have hb : (y == m.nm) = false := by simpa using e
      simp only [List.lookup, hb]
      exact ih ((List.mem_cons.mp h).resolve_left e)
theorem wOf_mem {W : List Ww} {r : Ww} (nd : (W.map Ww.nm).Nodup) (h : r ∈ W) : wOf (wabs W) r.nm = r.ws := by
  unfold wOf
  induction W with
  | nil => cases h
  | cons m W ih =>
    rw [List.map_cons, List.nodup_cons] at nd
    show ((List.lookup r.nm ((m.nm, m.ws) :: wabs W))).getD [] = _
    rcases List.mem_cons.mp h with rfl | h
    · simp [List.lookup]
    · have hne : (r.nm == m.nm) = false := by
        have : m.nm ≠ r.nm := fun e => nd.1 (e ▸ List.mem_map_of_mem h)
        simpa using Ne.symm this
      simp only [List.lookup, hne]
      exact ih nd.2 h
theorem wdict_at {W : List Ww} {r : Ww} (nd : (W.map Ww.nm).Nodup) (h : r ∈ W) : (wdict W).lookup r.nm = some (.ref r.a) := by
  induction W with
  | nil => cases h
  | cons m W ih =>
    rw [List.map_cons, List.nodup_cons] at nd
    show List.lookup r.nm ((m.nm, V.ref m.a) :: wdict W) = _
    rcases List.mem_cons.mp h with rfl | h
    · simp [List.lookup]
    · have hne : (r.nm == m.nm) = false := by
        have : m.nm ≠ r.nm := fun e => nd.1 (e ▸ List.mem_map_of_mem h)
        simpa using Ne.symm this
      simp only [List.lookup, hne]
      exact ih nd.2 h
theorem wdict_len (W : List Ww) : (wdict W).length = W.length := by simp [wdict]
section
variable {prog : Program} {w : World} {A : Around} {E : Value → Shared → Prop} {s B : Shared} {l l' : List (Addr × C)} {env : Env} {mg mb : Str → Option Value}

theorem r_lenD {d : Addr} {e : Option Nat} {kvs : List (Str × V)} {Q : Value → Shared → Prop} (D : In B l s) (r : Rd B l d (Dc prog w e kvs)) (hn : (d == sysModules) = false) (hl : kvs.length ≤ 1000) (k : ∀ t s', In B l s' → Q (.int kvs.length t) s') :
    wpAny (model prog w) A (call (.builtin "len") [.ref d]) Q E s := by
  obtain ⟨vs, hd, rfl⟩ := dc_of (D.rd r)
  rw [List.length_map] at hl k
  exact call_len_dict hn hd (by omega) (k _ _ D.tk)

set_option maxHeartbeats 1000000 in
theorem levels_spec {dw : Addr} {W : List Ww} {R : Result → Shared → Prop} (G : Gd w mg mb B) (D : In B ((dw, Dc prog w none (wdict W)) :: l) s) (hd : A.depth < 900) (hh : A.handled = none) (hn : (dw == sysModules) = false)
    (rw' : ∀ r ∈ W, Rd B l r.a (Lst (r.ws.map V.str))) (nd : (W.map Ww.nm).Nodup) (hlen : W.length ≤ 50) (hws : ∀ r ∈ W, r.ws.length ≤ 500) (hcl : ∀ r ∈ W, ∀ y ∈ r.ws, y ∈ W.map Ww.nm)
    (k : ∀ dl s', (dl == sysModules) = false → In B ((dl, Dc prog w none (lvD W (lev (wabs W) (W.length + 1)))) :: (dw, Dc prog w none (wdict W)) :: l) s' → R (.ok (.ret (.ref dl))) s') :
    codeAny (model prog w) A (.call (.ref 187) ⟨[.ref dw], []⟩) R s := by
  refine r_enterC (fun L => [("levels", L + 2), ("waits", L + 1)]) [("waits", .ref dw)] [] (fun L => [(L + 2, CelO none), (L + 1, CelO (some (.ref dw)))]) G D (by rfl) (by rfl) (by show A.depth < 1000; omega) (by rfl) (fun L => by rfl) (fun L x hx => by rw [List.mem_singleton] at hx; subst hx; exact .inr ⟨rfl, rfl⟩) (by intro p hp; cases hp) (fun L => by rfl) (fun L => by show (["levels", "waits"] : List Str).Nodup; decide) ?_
  intro L A' s hd' hu' hh' hf' D
  have hh2 : A'.handled = none := by rw [hh']; exact hh
  have D : In B ((L, Nsp []) :: (L + 2, CelO none) :: (L + 1, CelO (some (.ref dw))) :: (dw, Dc prog w none (wdict W)) :: l) s := D
  have D : In B ((L, Nsp []) :: (L + 1, CelO (some (.ref dw))) :: (L + 2, CelO none) :: (dw, Dc prog w none (wdict W)) :: l) s := D.perm (List.Perm.cons _ (List.Perm.swap _ _ _))
  obtain ⟨ep, hop⟩ := D.openD (d := dw) (e := none) (kvs := wdict W) (by tm_at "mem")
  have D := hop _ (by tm_at "up")
  clear hop
  have hkeys : (wdict W).map (fun p => V.str p.1) = W.map fun r => V.str r.nm := by unfold wdict; rw [List.map_map]; rfl
  refine noE (wpAny_execs_cons (wpAny_Assign_Name (r_dictComp ?_)))
  tm_at "nc"
  refine r_iterD D (.inl (by tm_at "mem")) hn fun it s D => ?_
  refine r_compKD (fun i ys l' => ys = lvD (W.take i) (lev (wabs W) 0) ∧ l' = (L, Nsp []) :: (L + 1, CelO (some (.ref dw))) :: (L + 2, CelO none) :: (dw, Dc prog w (some ep) (wdict W)) :: l) G It.keys hh2 ?_ ⟨rfl, rfl⟩ D ?_ ?_ (by decide) (by rfl)
  · rintro i ys _ ⟨rfl, rfl⟩
    refine ⟨.inl (by tm_at "mem"), ?_⟩
    unfold lvD
    rw [List.length_map, List.length_take]; omega
  · rintro K acc i y ys _ s v hy ⟨rfl, rfl⟩ hv D
    rw [hkeys, List.getElem?_map] at hy
    obtain ⟨r, hr, rfl⟩ := Option.map_eq_some_iff.mp hy
    obtain ⟨tv, rfl⟩ := er_str hv
    refine wpAny_assign_Name (r_store D (by tm_at "up") fun s D => ?_)
    refine r_tests0 ?_
    rw [if_pos rfl]
    tm_at "nm"
    refine r_int D fun t s D => ?_
    exact ⟨_, _, _, _, rfl, ⟨lvD_step nd hr rfl, rfl⟩, D⟩
  rintro K dl ys _ s hdl ⟨rfl, rfl⟩ D
  rw [hkeys, List.length_map, List.take_length] at D
  refine compD_end D fun s D => ?_
  refine r_storeC D (by rfl) (by tm_at "up") fun s D => ?_
  have D : In B ((dl, Dc prog w none (lvD W (lev (wabs W) 0))) :: (L, Nsp []) :: (L + 1, CelO (some (.ref dw))) :: (L + 2, CelO (some (.ref dl))) :: (dw, Dc prog w (some ep) (wdict W)) :: l) s := D
  refine wpAny_execs_cons (wpAny_For (wpAny_Call_ofName (wpAny_Name (r_bi G D (by rfl) (by rfl) (callWith_type1 (wpAny_items_cons (wpAny_BinOp (r_callB1 G D (by rfl) (by rfl) ?_))))))))
  tm_at "nc"
  refine r_lenD D (.inl (by tm_at "mem")) hn (by rw [wdict_len]; omega) fun tl s D => ?_
  refine r_int D fun t1 s D => r_addI D fun t2 s D => ?_
  have e7 : ((wdict W).length : Int) + 1 = ((W.length + 1 : Nat) : Int) := by rw [wdict_len]; omega
  rw [e7]
  refine wpAny_items_nil (r_range D (by omega) fun rg s D => ?_)
  refine r_iterR D (by omega) (.head _) fun itR s D => ?_
  have D := D.mv1.drop
  refine r_for (fun i l' => ∃ dl, (dl == sysModules) = false ∧ l' = (dl, Dc prog w none (lvD W (lev (wabs W) i))) :: (L, Nsp []) :: (L + 1, CelO (some (.ref dw))) :: (L + 2, CelO (some (.ref dl))) :: (dw, Dc prog w (some ep) (wdict W)) :: l) It.range hh2 (fun i l' e => trivial)
    ⟨dl, hdl, rfl⟩ D ?_ ?_
  · clear hdl
    rintro i y _ s v hy ⟨dl, hdl, rfl⟩ hv D
    have hi : i < W.length + 1 := by have := (List.getElem?_eq_some_iff.mp hy).1; simpa using this
    have hy2 : y = V.int i := by
      rw [List.getElem?_map, List.getElem?_range hi] at hy
      exact (Option.some.inj hy).symm
    subst hy2
    obtain ⟨tv, rfl⟩ := er_int hv
    refine wpAny_assign_Name (r_store D (by tm_at "up") fun s D => ?_)
    have D := D.weak (a := L) (c' := Nsp []) (by tm_at "up") (Nsp.sub (by tm_at "sub"))
    refine wpAny_execs_cons (wpAny_Assign_Name (r_dictComp ?_))
    tm_at "nc"
    refine r_iterD D (.inl (by tm_at "mem")) hn fun it s D => ?_
    refine r_compKD (fun j ys l' => ys = lvD (W.take j) (lev (wabs W) (i + 1)) ∧ l' = (itR, RIt (W.length + 1) (i + 1)) :: (dl, Dc prog w none (lvD W (lev (wabs W) i))) :: (L, Nsp []) :: (L + 1, CelO (some (.ref dw))) :: (L + 2, CelO (some (.ref dl))) :: (dw, Dc prog w (some ep) (wdict W)) :: l) G It.keys hh2 ?_ ⟨rfl, rfl⟩ D ?_ ?_ (by decide) (by rfl)
    · rintro j ys _ ⟨rfl, rfl⟩
      refine ⟨.inl (by tm_at "mem"), ?_⟩
      unfold lvD
      rw [List.length_map, List.length_take]; omega
    · rintro K acc j y ys _ s v hy ⟨rfl, rfl⟩ hv D
      rw [hkeys, List.getElem?_map] at hy
      obtain ⟨r, hr, rfl⟩ := Option.map_eq_some_iff.mp hy
      obtain ⟨tv, rfl⟩ := er_str hv
      have hrm : r ∈ W := List.mem_of_getElem? hr
      have hrw := rw' r hrm
      refine wpAny_assign_Name (r_store D (by tm_at "up") fun s D => ?_)
      have D := D.weak (a := K) (c' := Nsp [("name", .str r.nm)]) (by tm_at "up") (Nsp.sub (by tm_at "sub"))
      refine r_tests0 ?_
      rw [if_pos rfl]
      tm_at "nm"
      refine r_callB1 G D (by rfl) (by rfl) (wpAny_BinOp (r_list1 (B := B) (r_int D fun t s D => ⟨_, D, fun z s D => ?_⟩)))
      refine r_listComp (Subscript_ ?_)
      tm_at "nc"
      tm_at "nm"
      refine r_idxD D (.inl (by tm_at "mem")) (wdict_at nd hrm) fun u s hu D => ?_
      obtain rfl := er_ref hu
      refine r_iter D (a := r.a) (xs := r.ws.map V.str) (hrw.imp (fun h => by tm_at "mem") id) fun it2 s D => ?_
      generalize hZ : ((z, Lst [V.int 0]) :: (it, KIt dw (j + 1) (wdict W).length ep) :: (K, Nsp [("name", .str r.nm)]) :: (acc, Dc prog w none (lvD (W.take j) (lev (wabs W) (i + 1)))) :: (itR, RIt (W.length + 1) (i + 1)) :: (dl, Dc prog w none (lvD W (lev (wabs W) i))) :: (L, Nsp []) :: (L + 1, CelO (some (.ref dw))) :: (L + 2, CelO (some (.ref dl))) :: (dw, Dc prog w (some ep) (wdict W)) :: l : List (Addr × C)) = Z
      have D : In B ((it2, Itr r.a 0) :: Z) s := by rw [← hZ]; exact D
      have hZ1 : (dl, Dc prog w none (lvD W (lev (wabs W) i))) ∈ Z := by rw [← hZ]; tm_at "mem"
      have hZ2 : (L + 2, CelO (some (.ref dl))) ∈ Z := by rw [← hZ]; tm_at "mem"
      have hZ3 : Rd B Z r.a (Lst (r.ws.map V.str)) := by rw [← hZ]; exact hrw.imp (fun h => by tm_at "mem") id
      have hrl := hws r hrm
      refine r_compK (fun q ys l' => ys = (r.ws.take q).map (fun y => V.int (1 + lev (wabs W) i y)) ∧ l' = Z) (It.list (xs := r.ws.map V.str)) hh2 ?_ ⟨rfl, rfl⟩ D ?_ ?_ (by decide) (by rfl)
      · rintro q ys _ ⟨rfl, rfl⟩
        refine ⟨hZ3, ?_⟩
        rw [List.length_map, List.length_take]; omega
      · rintro K2 acc2 q y ys _ s v hy ⟨rfl, rfl⟩ hv D
        rw [List.getElem?_map] at hy
        obtain ⟨x, hx, rfl⟩ := Option.map_eq_some_iff.mp hy
        obtain ⟨tx, rfl⟩ := er_str hv
        have hxm : x ∈ W.map Ww.nm := hcl r hrm x (List.mem_of_getElem? hx)
        refine wpAny_assign_Name (r_store D (by tm_at "up") fun s D => ?_)
        refine r_tests0 ?_
        rw [if_pos rfl]
        refine wpAny_BinOp (r_int D fun t1 s D => Subscript_ ?_)
        tm_at "nc"
        tm_at "nm"
        refine r_idxD D (d := dl) (.inl (by tm_at "mem")) (lvD_lookup hxm) fun u s hu D => ?_
        obtain ⟨tu, rfl⟩ := er_int hu
        refine r_addI D fun t2 s D => ?_
        refine ⟨_, _, ⟨?_, rfl⟩, D⟩
        rw [take_snoc hx, List.map_append]; rfl
      · rintro K2 acc2 ys _ s ⟨rfl, rfl⟩ D
        rw [List.length_map, List.take_length] at D
        refine comp_end D fun s D => ?_
        rw [← hZ] at D
        refine r_addL D (.inl (by tm_at "mem")) (.inl (by tm_at "mem")) (by simp) (by rw [List.length_map]; omega) fun n3 s D => ?_
        have e0 : ([V.int 0] ++ r.ws.map (fun y => V.int (1 + lev (wabs W) i y)) : List V) = ((0 : Int) :: r.ws.map (fun y => 1 + lev (wabs W) i y)).map V.int := by
          rw [List.map_cons, List.map_map]; rfl
        rw [e0] at D
        refine r_max D hh2 (.inl (.head _)) (by simp) fun M t s hM1 hM2 D => ?_
        have hM : M = lev (wabs W) (i + 1) r.nm := by
          rw [mx_eq hM1 hM2, lev, wOf_mem nd hrm]
        exact ⟨_, _, _, _, rfl, ⟨lvD_step nd hr hM, rfl⟩, D.drop.drop.drop⟩
    · rintro K dl' ys _ s hdl' ⟨rfl, rfl⟩ D
      rw [hkeys, List.length_map, List.take_length] at D
      refine compD_end D fun s D => ?_
      refine r_storeC D (by rfl) (by tm_at "up") fun s D => ?_
      refine wpAny_execs_nil ⟨_, ⟨dl', hdl', rfl⟩, ?_⟩
      have D : In B ((dl', Dc prog w none (lvD W (lev (wabs W) (i + 1)))) :: (itR, RIt (W.length + 1) (i + 1)) :: (dl, Dc prog w none (lvD W (lev (wabs W) i))) :: (L, Nsp []) :: (L + 1, CelO (some (.ref dw))) :: (L + 2, CelO (some (.ref dl'))) :: (dw, Dc prog w (some ep) (wdict W)) :: l) s := D
      exact D.mv1.sublist (.cons_cons _ (.cons_cons _ (.cons _ (.refl _))))
  · rintro _ s ⟨dl, hdl, rfl⟩ D
    rw [List.length_map, List.length_range] at D
    refine wpAny_execs_cons (wpAny_Return_some ?_)
    tm_at "nc"
    have D := D.weak (a := dw) (c' := Dc prog w none (wdict W)) (by tm_at "up") Dc.any
    exact k dl s hdl (D.sublist (.cons_cons _ (.cons _ (.cons _ (.cons _ (.refl _))))))
end
set_option maxRecDepth 100000
noncomputable def Ex0c (c : Value) : C := fun o => o.cls = c ∧ ∃ vs, o.data = .fields vs ∧ vs[1]? = some .none ∧ vs[2]? = some .none
noncomputable def Ex1c (c : Value) (tb : Addr) : C := fun o => o.cls = c ∧ ∃ vs, o.data = .fields vs ∧ vs[1]? = some (.ref tb) ∧ vs[2]? = some .none
theorem Ex0c.ex {c : Value} : ∀ o, Ex0c c o → Ex0 c o := fun o ⟨h1, vs, h2, h3, _⟩ => ⟨h1, vs, h2, h3⟩
theorem Ex1c.ex {c : Value} {tb : Addr} : ∀ o, Ex1c c tb o → Ex1 c tb o := fun o ⟨h1, vs, h2, h3, _⟩ => ⟨h1, vs, h2, h3⟩
theorem Has.mono {h : Heap} {a : Addr} {c c' : C} (x : Has h a c) (k : ∀ o, c o → c' o) : Has h a c' := let ⟨o, ho, hc⟩ := x; ⟨o, ho, k o hc⟩
theorem unchain_entry : entryFor table "proto.unchain" = some Builtin.«proto.unchain» := entryFor_of_tree (by kernel_rfl)
theorem isExc_IndexError' : isSubtype (.type "IndexError") (.type "BaseException") = pure true := by rw [isSubtype_type]; kernel_rfl
theorem notTuple_IndexError' : isSubtype (.type ((Manifest.find? "IndexError").elim "type" fun x => x.metatype)) (.type "tuple") = pure false := by rw [isSubtype_type]; kernel_rfl
theorem sub_IndexError' : isSubtype (.type "IndexError") (.type "IndexError") = pure true := by rw [isSubtype_type]; kernel_rfl
section
variable {prog : Program} {w : World} {M : Model} {A : Around} {E : Value → Shared → Prop} {s B : Shared} {l l' : List (Addr × C)} {env : Env} {mg mb : Str → Option Value}

theorem In.excC {cls : String} {e : Addr} {h' : Heap} {tk : Nat} (D : In B l s) (x : Heap.NewExc s.heap h' e cls) : In B ((e, Ex0c (.type cls)) :: l) { s with heap := h', toks := tk } := by
  obtain ⟨ob, t, h1, h2, h3⟩ := x.there
  exact D.add x.keeps x.new ⟨ob, h1, h2, _, h3, rfl, rfl⟩

theorem raise_h {α : Type} {h e : Addr} {Q : α → Shared → Prop} (hh : A.handled = some (.ref h)) (hne : h ≠ e) {oh : Obj} {vh : Array Value} (ho : s.heap.get? h = some oh) (hd : oh.data = .fields vh) (h2 : vh[2]? = some .none)
    {oe : Obj} {ve : Array Value} (he : s.heap.get? e = some oe) (hde : oe.data = .fields ve) (hsz : 2 < ve.size)
    (k : E (.ref e) { s with heap := s.heap.update e (Obj.mapFields (·.setIfInBounds 2 (.ref h))) }) : wpAny (model prog w) A (raiseNew (.ref e) : Sem α) Q E s := by
  unfold raiseNew
  refine wpAny_bind (wpAny_handled ?_)
  rw [hh]
  have hb : ((Value.ref h != Value.ref e) = true) := by simpa using hne
  simp only [hb, if_true]
  refine wpAny_bind (wpAny_holding (wpAny_runValue (codeAny_builtin unchain_entry ?_)))
  unfold Builtin.«proto.unchain»
  refine wpAny_bind (wpAny_field ho hd h2 ?_)
  rw [if_pos (by decide)]
  refine wpAny_pure ?_
  refine wpAny_bind ?_
  unfold updateField
  refine wpAny_bind (wpAny_load he ?_)
  rw [hde]
  simp only [if_pos hsz]
  exact wpAny_update he (wpAny_throw k)
theorem raiseWords_h {α : Type} {cls msg : String} {h : Addr} {Q : α → Shared → Prop} (hp : PlainExc cls) (hh : A.handled = some (.ref h)) {oh : Obj} {vh : Array Value} (ho : s.heap.get? h = some oh) (hd : oh.data = .fields vh) (h2 : vh[2]? = some .none)
    (k : ∀ h' tk e, (∀ b o, s.heap.get? b = some o → h'.get? b = some o) → s.heap.get? e = none → Has h' e (Ex0 (.type cls)) → E (.ref e) { s with heap := h', toks := tk }) : wpAny (model prog w) A (raiseErrorWords cls msg : Sem α) Q E s := by
  unfold raiseErrorWords
  refine wpAny_bind (wpAny_mkText (wpAny_bind ?_))
  unfold newExc newTuple
  refine wpAny_bind (wpAny_newObj_type ?_)
  refine wpAny_bind (m := firstArgMember _ _) (wpAny_of_eq (a := Value.none) (by simp only [firstArgMember, hp.first]; rfl) ?_)
  rw [hp.own]
  refine wpAny_newObj_type ?_
  have hlt := Heap.lt_size ho
  have keep : ∀ b : Nat, b < s.heap.objs.size → b ≠ s.heap.objs.size + 1 := fun b hb e => by omega
  refine raise_h hh (h := h) (by simp only [Heap.size_push]; exact keep _ hlt) (Heap.get?_push_of_some _ (Heap.get?_push_of_some _ ho)) hd h2 (Heap.get?_push_size _ rfl) rfl (by simp) ?_
  refine k _ _ _ (fun b o hb => ?_) (Heap.get?_none_of_le (by simp)) ?_
  · refine ((Heap.SameBut.update _ _ _).2 b ?_).trans (Heap.get?_push_of_some _ (Heap.get?_push_of_some _ hb))
    simp only [Heap.size_push]; exact keep _ (Heap.lt_size hb)
  · exact ⟨_, Heap.get?_update_self _ (Heap.get?_push_size _ rfl) rfl, rfl, _, rfl, by simp⟩
theorem raiseMade_h {α : Type} {cls msg : String} {h : Addr} {Q : α → Shared → Prop} (hp : PlainExc cls) (hh : A.handled = some (.ref h)) {oh : Obj} {vh : Array Value} (ho : s.heap.get? h = some oh) (hd : oh.data = .fields vh) (h2 : vh[2]? = some .none)
    (k : ∀ h' tk e, (∀ b o, s.heap.get? b = some o → h'.get? b = some o) → s.heap.get? e = none → Has h' e (Ex0 (.type cls)) → E (.ref e) { s with heap := h', toks := tk }) (hm : (msg : Str).length ≤ sizeLine := by size_fits) : wpAny (model prog w) A (raiseErrorMade cls msg : Sem α) Q E s := by
  unfold raiseErrorMade
  refine wpAny_bind (wpAny_mkStr (wpAny_bind ?_) hm)
  unfold newExc newTuple
  refine wpAny_bind (wpAny_newObj_type ?_)
  refine wpAny_bind (m := firstArgMember _ _) (wpAny_of_eq (a := Value.none) (by simp only [firstArgMember, hp.first]; rfl) ?_)
  rw [hp.own]
  refine wpAny_newObj_type ?_
  have hlt := Heap.lt_size ho
  have keep : ∀ b : Nat, b < s.heap.objs.size → b ≠ s.heap.objs.size + 1 := fun b hb e => by omega
  refine raise_h hh (h := h) (by simp only [Heap.size_push]; exact keep _ hlt) (Heap.get?_push_of_some _ (Heap.get?_push_of_some _ ho)) hd h2 (Heap.get?_push_size _ rfl) rfl (by simp) ?_
  refine k _ _ _ (fun b o hb => ?_) (Heap.get?_none_of_le (by simp)) ?_
  · refine ((Heap.SameBut.update _ _ _).2 b ?_).trans (Heap.get?_push_of_some _ (Heap.get?_push_of_some _ hb))
    simp only [Heap.size_push]; exact keep _ (Heap.lt_size hb)
  · exact ⟨_, Heap.get?_update_self _ (Heap.get?_push_size _ rfl) rfl, rfl, _, rfl, by simp⟩

theorem r_idxOut {value slice : Expr} {a : Addr} {xs : List V} {i : Nat} {u : Tok} {Q : Value → Shared → Prop} (D : In B l s) (hA : A.handled = none) (r : Rd B l a (Lst xs)) (hl : xs.length ≤ 1000) (hi : xs.length ≤ i) (hi2 : i ≤ 2000)
    (k : ∀ e s', In B ((e, Ex0c (.type "IndexError")) :: l) s' → E (.ref e) s')
    (hs : subscripted slice false (.ref a) (.int (i : Int) u) = operate [.ref a, .int (i : Int) u] (getItem (.ref a) (.int (i : Int) u)) := by with_unfolding_all rfl) :
    wpAny (model prog w) A (subscriptTail value slice (.ref a) (.int (i : Int) u)) Q E s := by
  obtain ⟨o, ho, vs, n, rfl, hx⟩ := D.rd r
  have hlen : vs.size = xs.length := by rw [← hx]; simp
  exact tail_any (ops := _) (s := s) ⟨_, ho, rfl⟩ slot_list_getitem.lookup (wpAny_getItem_list_out (items := vs) hA ⟨_, ho, rfl, n, rfl⟩ (.inr (by omega)) (by omega) (by omega) fun h' tk e x => k e _ (D.excC x)) hs
theorem getItem_out_h {a h : Addr} {items : Array Value} {k : Int} {u : Tok} {Q : Value → Shared → Prop} (hh : A.handled = some (.ref h)) {oh : Obj} {vh : Array Value} (ho : s.heap.get? h = some oh) (hd : oh.data = .fields vh) (h2 : vh[2]? = some .none)
    (hl : s.heap.IsList a items) (hout : (items.size : Int) ≤ k) (hlo : -(2 ^ 63) ≤ k) (hhi : k < 2 ^ 63)
    (hE : ∀ h' tk e, (∀ b o, s.heap.get? b = some o → h'.get? b = some o) → s.heap.get? e = none → Has h' e (Ex0 (.type "IndexError")) → E (.ref e) { s with heap := h', toks := tk }) :
    wpAny (model prog w) A (getItem (.ref a) (.int k u)) Q E s := by
  obtain ⟨o, hoa, hc, ne, hda⟩ := id hl
  unfold getItem
  try with_reducible refine wpAny_holding ?_
  first | refine wpAny_bind (wpAny_pure ?_) | skip
  refine wpAny_bind (wpAny_sequenceKey hl.typeIs (by decide) ?_)
  refine wpAny_bind (wpAny_callSpecial?_slot (name := Str.ofString "__getitem__") hl.typeIs slot_list_getitem
    (wpAny_call_entry slot_list_getitem hl.typeIs entry_list_getitem ?_ (args_list_getitem _ _)))
  show wpAny _ _ (Builtin.List.listSubscript? (.int k u) >>= _) _ _ s
  refine wpAny_bind (wpAny_listSubscript_int (fitsIndex_both hlo hhi) ?_)
  clear hlo hhi
  cases k with
  | negSucc j => exact absurd hout (by have := Int.negSucc_lt_zero j; omega)
  | ofNat j =>
    have hx : items[j]? = none := Array.getElem?_eq_none (by have : (items.size : Int) ≤ (j : Int) := hout; omega)
    show wpAny _ _ ((seqItemAt a j >>= fun r => pure (r.map (j, ·))) >>= _) _ _ s
    refine wpAny_bind (wpAny_bind (wpAny_seqItemAt hoa hda (wpAny_pure ?_)))
    rw [hx]
    exact wpAny_bind (wpAny_rule (wpAny_bind (raiseWords_h (A := A.in1) plainExc_IndexError hh ho hd h2 hE)))
theorem r_idxOutH {value slice : Expr} {a h tb : Addr} {cls : Value} {xs : List V} {i : Nat} {u : Tok} {Q : Value → Shared → Prop} (D : In B l s) (hA : A.handled = some (.ref h)) (hx : (h, Ex1c cls tb) ∈ l) (r : Rd B l a (Lst xs)) (hl : xs.length ≤ 1000) (hi : xs.length ≤ i) (hi2 : i ≤ 2000)
    (k : ∀ e s', In B ((e, Ex0 (.type "IndexError")) :: l) s' → E (.ref e) s')
    (hs : subscripted slice false (.ref a) (.int (i : Int) u) = operate [.ref a, .int (i : Int) u] (getItem (.ref a) (.int (i : Int) u)) := by with_unfolding_all rfl) :
    wpAny (model prog w) A (subscriptTail value slice (.ref a) (.int (i : Int) u)) Q E s := by
  obtain ⟨oh, hoh, _, vh, hdh, _, h2⟩ := D.has hx
  obtain ⟨o, ho, vs, n, rfl, hx⟩ := D.rd r
  have hlen : vs.size = xs.length := by rw [← hx]; simp
  exact tail_any (ops := _) (s := s) ⟨_, ho, rfl⟩ slot_list_getitem.lookup (getItem_out_h hA hoh hdh h2 ⟨_, ho, rfl, n, rfl⟩ (by omega) (by omega) (by omega) fun h' tk e h1 h2 h3 => k e _ (D.add h1 h2 h3)) hs

theorem r_noteC {e L : Addr} {cls : Value} {envs : List Env} {Q : Unit → Shared → Prop} (D : In B ((e, Ex0c cls) :: l) s) (hfr : A.frames = some (env :: envs)) (hf : env.frame = some L) (ok : FrOk l (env :: envs))
    (k : ∀ tb s', In B ((tb, Tbk (rawInt L)) :: (e, Ex1c cls tb) :: l) s' → Q () s') : wpAny M A (noteFrame (.ref e) env) Q E s := by
  obtain ⟨oe, he, hc, vs, hd, h1, _⟩ := D.has (.head _)
  have hsz : 1 < vs.size := (Array.getElem?_eq_some_iff.mp h1).1
  unfold noteFrame
  simp only [hf]
  refine wpAny_bind (wpAny_field he hd h1 ?_)
  rw [if_neg (by decide)]
  unfold PySem.frameOf
  refine wpAny_bind (wpAny_bind (wpAny_frameEnvs hfr ?_))
  have hdw : ((env :: envs).dropWhile fun x => x.frame != env.frame) = env :: envs := by simp [List.dropWhile]
  rw [hdw]
  unfold frameObject
  refine wpAny_bind (wpAny_bind (r_ready (env :: envs) _ _ D (ok.mono fun _ h => .tail _ h) fun s₁ D₁ => wpAny_pure ?_))
  rw [hf]
  refine wpAny_pure ?_
  refine wpAny_bind (wpAny_entryPlaceOf fun pl hpl => ?_)
  unfold EntryCells.newEntry newFields
  refine wpAny_bind (wpAny_newObj_type ?_ (hpl.sizeOk5 _ _ _ _ _))
  have D₂ : In B ((s₁.heap.objs.size, Tbk (rawInt L)) :: (e, Ex0c cls) :: l) { s₁ with heap := s₁.heap.push { cls := .type "traceback", dict := none, data := .fields ([Value.none, .ref L, .none, rawInt L, .none] ++ (if pl.isEmpty then List.replicate 6 Value.none else pl)).toArray }, toks := s₁.toks } :=
    D₁.push rfl ⟨_, rfl, by simp⟩
  obtain ⟨oe, he, hc, vs, hd, h1, h2⟩ := D₂.has (.tail _ (.head _))
  have hsz : 1 < vs.size := (Array.getElem?_eq_some_iff.mp h1).1
  refine wpAny_setField he hd hsz ?_
  have hd₃ := Obj.data_mapFields hd (·.setIfInBounds 1 (Value.ref s₁.heap.objs.size))
  refine k s₁.heap.objs.size _ ?_
  refine D₂.upd (tk := s₁.toks) (.tail (.head rfl)) (Heap.SameBut.update ..) ⟨_, Heap.get?_update_self _ he (Obj.isFreed_of_fields hd₃), (Obj.cls_mapFields ..).trans hc, _, hd₃, ?_, ?_⟩
  · simp [hsz]
  · rw [Array.getElem?_setIfInBounds]; simp [h2]
theorem r_noteAgainC {e L tb : Addr} {cls : Value} {Q : Unit → Shared → Prop} (D : In B l s) (he : (e, Ex1c cls tb) ∈ l) (ht : (tb, Tbk (rawInt L)) ∈ l) (hf : env.frame = some L) (k : Q () s) : wpAny M A (noteFrame (.ref e) env) Q E s := by
  obtain ⟨oe, ho, hc, vs, hd, h1, _⟩ := D.has he
  obtain ⟨ot, hot, tvs, hdt, h3⟩ := D.has ht
  exact wpAny_noteFrame_inFlight hf ho hd h1 hot hdt h3 k
theorem r_flightC {e tb : Addr} {cls fl : Value} {fr : Option Addr} {Q : Unit → Shared → Prop} (D : In B l s) (he : (e, Ex1c cls tb) ∈ l) (u : Up tb (Tbk fl) (Tbk (fr.elim .none fun f => rawInt f)) l l') (k : ∀ s', In B l' s' → Q () s') : wpAny M A (setFlight (.ref e) fr) Q E s := by
  obtain ⟨oe, ho, hc, vs, hd, h1, _⟩ := D.has he
  obtain ⟨ot, hot, tvs, hdt, h3⟩ := D.has u.mem
  have hsz : 3 < tvs.size := (Array.getElem?_eq_some_iff.mp h3).1
  unfold setFlight
  refine wpAny_bind (wpAny_field ho hd h1 ?_)
  rw [if_pos (show (Value.ref tb != Value.none) = true from by simp)]
  refine wpAny_setField hot hdt hsz (k _ ?_)
  have hd₃ := Obj.data_mapFields hdt (·.setIfInBounds 3 (fr.elim Value.none fun f => rawInt f))
  refine D.upd (tk := s.toks) u (Heap.SameBut.update ..) ⟨_, Heap.get?_update_self _ hot (Obj.isFreed_of_fields hd₃), _, hd₃, ?_⟩
  simp [hsz]
theorem r_backC {e tb L : Addr} {cls fl : Value} (D : In B l s) (he : (e, Ex1c cls tb) ∈ l) (hf : env.frame = some L) (u : Up tb (Tbk fl) (Tbk (rawInt L)) l l') (k : ∀ s', In B l' s' → E (.ref e) s') : cameBackBy M A env E (.ref e) s := by
  obtain ⟨oe, ho, hc, vs, hd, h1, _⟩ := D.has he
  show wpAny M A _ _ _ s
  refine wpAny_bind (wpAny_field ho hd h1 ?_)
  rw [if_neg (by simp)]
  rw [hf]
  exact r_flightC D he u k
theorem r_loopEC {e L : Addr} {cls : Value} {envs : List Env} (D : In B ((e, Ex0c cls) :: l) s) (hfr : A.frames = some (env :: envs)) (hf : env.frame = some L) (ok : FrOk l (env :: envs))
    (k : ∀ tb s', In B ((tb, Tbk (rawInt L)) :: (e, Ex1c cls tb) :: l) s' → E (.ref e) s') : notedBy M A env (cameBackBy M A env E) (.ref e) s :=
  r_noteC D hfr hf ok fun tb s' D' => r_backC D' (.tail _ (.head _)) hf (.head rfl) fun s'' D'' => k tb s'' D''
theorem r_blockE {A₂ : Around} {e tb L : Addr} {cls : Value} (D : In B ((tb, Tbk (rawInt L)) :: (e, Ex1 cls tb) :: l) s) (hf : env.frame = some L)
    (k : ∀ s', In B ((tb, Tbk (rawInt L)) :: (e, Ex1 cls tb) :: l) s' → E (.ref e) s') : notedBy M A₂ env (cameBackBy M A env E) (.ref e) s :=
  r_noteAgain D (.tail _ (.head _)) (.head _) hf (r_back D (.tail _ (.head _)) hf (.head rfl) k)

theorem r_whileOnce {test : Expr} {body : List Stmt} {pos : Pos} {Q : Flow → Shared → Prop}
    (h : wpAny (model prog w) A (isTrue test env (eval test env)) (fun b s₂ => b = false ∧ Q .next s₂) (notedBy (model prog w) A env (cameBackBy (model prog w) A env E)) s) :
    wpAny (model prog w) A (exec (.While test body [] pos) env) Q E s := by
  refine wpAny_While (codeAny_whileLoop (fun _ s' => s' = s) (fun n s' e => ?_) 0 rfl)
  subst e
  refine wpAny_mono h (fun b s₂ h₂ => ?_) fun _ _ x => x
  obtain ⟨rfl, h₂⟩ := h₂
  exact wpAny_execs_nil h₂

theorem r_catchB {X T : String} {e L : Addr} {np hpos : Pos} {x : Str} {b₀ : Stmt} {suite : List Stmt} {envs : List Env} {Q : Flow → Shared → Prop} (G : Gd w mg mb B)
    (D : In B ((e, Ex0 (.type X)) :: l) s ∨ ∃ tb, In B ((tb, Tbk (rawInt L)) :: (e, Ex1 (.type X) tb) :: l) s) (hfr : A.frames = some (env :: envs)) (ok : FrOk l (env :: envs)) (hf : env.frame = some L)
    (hx : nsIn (KF w) mainGlobals x = some none) (hb : bootBuiltins x = some (.type T)) (hexc : isSubtype (.type T) (.type "BaseException") = pure true)
    (hnt : isSubtype (.type ((Manifest.find? T).elim "type" fun x => x.metatype)) (.type "tuple") = pure false) (hsub : isSubtype (.type X) (.type T) = pure true)
    (k : ∀ s', In B l s' → wpAny (model prog w) (A.mark (some (.ref e))) (execs (b₀ :: suite) env) Q (notedBy (model prog w) (A.mark (some (.ref e))) env (cameBackBy (model prog w) A env E)) s')
    (hk : env.scope.kind = .function := by rfl) (hl : env.kindOf x = some .globalImplicit := by rfl) (hg : env.globals = mainGlobals := by rfl) (hbn : env.builtins = builtinsNs := by rfl)
    (hn : x ≠ "__name__" := by decide) (hdb : (x == ("__debug__" : Str)) = false := by decide) :
    wpAny (model prog w) A (noteFrame (.ref e) env) (fun _ s₂ => wpAny (model prog w) A (setFlight (.ref e) none) (fun _ s₃ => wpAny (model prog w) A (handleBy (.ref e) env [.ExceptHandler (some (.Name x np)) none (b₀ :: suite) hpos]) Q E s₃) E s₂) E s := by
  rcases D with D | ⟨tb, D⟩
  · exact r_catch0 G D hfr ok hf hx hb hexc hnt hsub k hk hl hg hbn hn hdb
  · exact r_catch G D hf hx hb hexc hnt hsub k hk hl hg hbn hn hdb

theorem r_extend {a b : Addr} {xs ys : List V} {Q : Value → Shared → Prop} (D : In B l s) (u : Up a (Lst xs) (Lst (xs ++ ys)) l l') (rb : Rd B l b (Lst ys)) (h1 : xs.length ≤ 1000) (h2 : ys.length ≤ 1000) (k : ∀ s', In B l' s' → Q .none s') :
    wpAny (model prog w) A (call (.builtin "list.extend") [.ref a, .ref b]) Q E s := by
  obtain ⟨o, ho, vs, n, rfl, hx⟩ := D.has u.mem
  obtain ⟨o', ho', vs', n', rfl, hx'⟩ := D.rd rb
  have hlen : vs.size = xs.length := by rw [← hx]; simp
  have hlen' : vs'.size = ys.length := by rw [← hx']; simp
  have hc0 : ¬(!vs.isEmpty && Builtin.List.listTooLong (vs.size + vs'.size)) = true := by
    unfold Builtin.List.listTooLong
    rw [sizeLine_eq]
    simp only [Bool.and_eq_true, decide_eq_true_eq, not_and]
    intro _
    omega
  refine call_meets F.slot_list_extend ⟨_, ho, rfl⟩ F.entry_list_extend (F.args_list_extend_2 _ _) (AutoSeq1.list_extend_list_list_0 a vs n b vs' n' hc0 (by rw [sizeLine_eq]; omega) (by rw [sizeLine_eq]; omega)) ⟨ho, ho', k _ ?_⟩
  exact D.upd (tk := s.toks) u (Heap.SameBut.update ..) ⟨_, Heap.get?_update_self _ ho rfl, _, _, rfl, by simp [hx, hx']⟩
end
set_option maxRecDepth 100000
noncomputable def dif (xs ys : List Str) : List Str := xs.filter fun x => !decide (x ∈ ys)
theorem dif_nil (xs : List Str) : dif xs [] = xs := by unfold dif; simp
theorem dif_same {e : Str} {xs ys : List Str} (h : e ∉ xs) : dif (e :: xs) (e :: ys) = dif xs ys := by
  unfold dif
  rw [List.filter_cons]
  simp only [List.mem_cons, true_or, decide_true, Bool.not_true, Bool.false_eq_true, if_false]
  refine List.filter_congr fun x hx => ?_
  have : x ≠ e := by rintro rfl; exact h hx
  simp [this]
theorem dif_lt {e : Str} {xs ys : List Str} (h : e ∉ ys) : dif (e :: xs) ys = e :: dif xs ys := by
  unfold dif
  rw [List.filter_cons]
  simp [h]
noncomputable def slt (x y : Str) : Prop := x.cps.toList < y.cps.toList
theorem slt_irrefl (x : Str) : ¬ slt x x := List.lt_irrefl _
noncomputable abbrev slN (a1 a2 m u : Addr) (i j : Nat) : List (Str × V) := [("expected", .ref a1), ("actual", .ref a2), ("missing", .ref m), ("unexpected", .ref u), ("i", .int i), ("j", .int j)]
theorem drop_cons {α : Type} {xs : List α} {i : Nat} {x : α} (h : xs[i]? = some x) : xs.drop i = x :: xs.drop (i + 1) := by
  obtain ⟨h1, h2⟩ := List.getElem?_eq_some_iff.mp h
  rw [← h2]; exact List.drop_eq_getElem_cons h1
section
variable {prog : Program} {w : World} {A : Around} {E : Value → Shared → Prop} {s B : Shared} {l l' : List (Addr × C)} {env : Env} {mg mb : Str → Option Value}

noncomputable def Sl1 (B : Shared) (xs ys : List Str) (L a1 a2 m u : Addr) (l : List (Addr × C)) (n : Nat) (s : Shared) : Prop :=
  ∃ i j mis, n + i = xs.length ∧ (ys.drop j).Sublist (xs.drop i) ∧ j ≤ ys.length ∧ mis ++ dif (xs.drop i) (ys.drop j) = dif xs ys ∧ mis.length ≤ i ∧ In B ((L, Nsp (slN a1 a2 m u i j)) :: (m, Lst (mis.map V.str)) :: (u, Lst []) :: l) s
noncomputable def Sl2 (B : Shared) (xs ys : List Str) (L a1 a2 m u : Addr) (l : List (Addr × C)) (n : Nat) (s : Shared) : Prop :=
  ∃ i j mis n', n' < n ∧ n' + i = xs.length ∧ (ys.drop j).Sublist (xs.drop i) ∧ j ≤ ys.length ∧ mis ++ dif (xs.drop i) (ys.drop j) = dif xs ys ∧ mis.length ≤ i ∧ In B ((L, Nsp (slN a1 a2 m u i j)) :: (m, Lst (mis.map V.str)) :: (u, Lst []) :: l) s
noncomputable def Sl3 (B : Shared) (xs ys : List Str) (L a1 a2 m u : Addr) (l : List (Addr × C)) (e : Value) (s : Shared) : Prop :=
  ∃ ev i j mis, e = .ref ev ∧ i ≤ xs.length ∧ j ≤ ys.length ∧ ys.drop j = [] ∧ mis ++ xs.drop i = dif xs ys ∧ mis.length ≤ i ∧
      (In B ((ev, Ex0 (.type "IndexError")) :: (L, Nsp (slN a1 a2 m u i j)) :: (m, Lst (mis.map V.str)) :: (u, Lst []) :: l) s ∨ ∃ tb, In B ((tb, Tbk (rawInt L)) :: (ev, Ex1 (.type "IndexError") tb) :: (L, Nsp (slN a1 a2 m u i j)) :: (m, Lst (mis.map V.str)) :: (u, Lst []) :: l) s)
set_option maxHeartbeats 1000000 in
theorem sld_spec {a1 a2 : Addr} {xs ys : List Str} {envs : List Env} {R : Result → Shared → Prop} (G : Gd w mg mb B) (D : In B l s) (hd : A.depth < 800) (hh : A.handled = none) (hfr : A.frames = some envs) (ok : FrOk l envs)
    (r1 : Rd B l a1 (Lst (xs.map V.str))) (r2 : Rd B l a2 (Lst (ys.map V.str))) (hs : xs.Pairwise slt) (hsub : ys.Sublist xs) (hl : xs.length ≤ 100)
    (k : ∀ tp m u s', In B ((tp, Tup [.ref m, .ref u]) :: (m, Lst ((dif xs ys).map V.str)) :: (u, Lst []) :: l) s' → R (.ok (.ret (.ref tp))) s') :
    codeAny (model prog w) A (.call (.ref 170) ⟨[.ref a1, .ref a2], []⟩) R s := by
  have hyl : ys.length ≤ 100 := Nat.le_trans hsub.length_le hl
  refine r_enter ["expected", "actual"] [.ref a1, .ref a2] [("expected", .ref a1), ("actual", .ref a2)] G D (by rfl) (by rfl) (by show A.depth < 1000; omega) (BindsTo.of_eq rfl) (by rfl) (by decide) rfl ?_
  intro L A' s hd' hu' hh' hf' D
  rw [hfr] at hf'
  have hh2 : A'.handled = none := by rw [hh']; exact hh
  refine noE (wpAny_execs_cons (wpAny_Assign_two (r_int D fun t s D => ?_)))
  refine wpAny_assign_Name (r_store D (by tm_at "up") fun s D => ?_)
  refine wpAny_assign_Name (r_store D (by tm_at "up") fun s D => ?_)
  refine wpAny_execs_cons (wpAny_Assign_Name (r_list0 D fun m s D => ?_))
  refine r_store D (by tm_at "up") fun s D => ?_
  refine wpAny_execs_cons (wpAny_Assign_Name (r_list0 D fun u s D => ?_))
  refine r_store D (by tm_at "up") fun s D => ?_
  have D := D.weak (a := L) (c' := Nsp (slN a1 a2 m u (0 : Nat) (0 : Nat))) (by tm_at "up") (Nsp.sub (by tm_at "sub"))
  have D : In B ((L, Nsp (slN a1 a2 m u 0 0)) :: (m, Lst (([] : List Str).map V.str)) :: (u, Lst []) :: l) s := D.perm ((List.reverse_perm [(L, Nsp (slN a1 a2 m u 0 0)), (m, Lst []), (u, Lst [])]).symm.append_right l)
  have okL : ∀ {env : Env} {mm : List (Str × V)} {c₁ c₂ : Addr × C}, env.scope.kind = .function → env.frame = some L → FrOk ((L, Nsp mm) :: c₁ :: c₂ :: l) (env :: envs) := fun h1 h2 => (ok.mono (fun p hp => .tail _ (.tail _ (.tail _ hp)))).cons h1 h2 (.head _)
  refine wpAny_execs_cons (r_while (fun n s => Sl1 B xs ys L a1 a2 m u l n s) ?_ xs.length ⟨0, 0, [], rfl, hsub, Nat.zero_le _, rfl, Nat.zero_le _, D⟩)
  clear D
  rintro n s ⟨i, j, mis, hn, hsb, hj, hmis, hml, D⟩
  refine isTrue_plain (wpAny_Constant_bool (r_truth ?_))
  refine wpAny_execs_cons (wpAny_Try_except (wpAny_mono
    (Q := fun f s => f = .next ∧ Sl2 B xs ys L a1 a2 m u l n s) (E := fun e s => Sl3 B xs ys L a1 a2 m u l e s) ?_ ?_ ?_))
  · -- the try's body
    refine wpAny_execs_cons (wpAny_Assign_Name (Subscript_ ?_))
    tm_at "nm"
    tm_at "nm"
    by_cases hi : i < xs.length
    · obtain ⟨e, he⟩ : ∃ e, xs[i]? = some e := ⟨_, List.getElem?_eq_getElem hi⟩
      refine r_idx D r1.tail.tail.tail (by simp; omega) (by rw [List.getElem?_map, he]; rfl) ?_
      tm_at "inv"
      refine r_store D (by tm_at "up") fun s D => ?_
      refine wpAny_execs_cons (wpAny_Assign_Name (Subscript_ ?_))
      tm_at "nm"
      tm_at "nm"
      by_cases hjl : j < ys.length
      · obtain ⟨a, ha⟩ : ∃ a, ys[j]? = some a := ⟨_, List.getElem?_eq_getElem hjl⟩
        refine r_idx D r2.tail.tail.tail (by simp; omega) (by rw [List.getElem?_map, ha]; rfl) ?_
        tm_at "inv"
        refine r_store D (by tm_at "up") fun s D => ?_
        have hxd := drop_cons he
        have hyd := drop_cons ha
        have hpw : (e :: xs.drop (i + 1)).Pairwise slt := by rw [← hxd]; exact hs.sublist (List.drop_sublist i xs)
        have hpw1 := (List.pairwise_cons.mp hpw).1
        have hne : e ∉ xs.drop (i + 1) := fun h => slt_irrefl e (hpw1 e h)
        have hnx : ∀ x, xs[i + 1]? = some x → x ≠ e := fun x hx => by
          rintro rfl
          exact hne (by rw [drop_cons hx]; exact .head _)
        rw [hxd, hyd] at hsb hmis
        refine wpAny_execs_cons (wpAny_If (wpAny_isTrue_Compare1 ?_))
        tm_at "nm"
        tm_at "nm"
        refine lt_str (r_truth ?_)
        cases hsb with
        | cons _ hsb =>
          have hlt : slt e a := hpw1 a (hsb.subset (.head _))
          have hea : e ∉ a :: ys.drop (j + 1) := fun h => hne (hsb.subset h)
          have hi1 : i + 1 < xs.length := by
            have := hsb.length_le
            simp at this; omega
          obtain ⟨e', he'⟩ : ∃ e', xs[i + 1]? = some e' := ⟨_, List.getElem?_eq_getElem hi1⟩
          rw [decide_eq_true (show e.cps.toList < a.cps.toList from hlt)]
          refine wpAny_execs_cons (wpAny_Expr (r_callAttr ?_))
          tm_at "nm"
          refine r_methList D (.inl (by tm_at "mem")) F.plainAttrs_list F.slot_list_append F.type_list_append (callWith_one ?_)
          tm_at "nm"
          refine r_append D (by tm_at "up") (by simp; omega) fun s D => ?_
          refine wpAny_execs_cons (wpAny_AugAssign_Name ?_)
          tm_at "ld"
          refine r_int D fun t1 s D => r_iadd D fun t2 s D => ?_
          refine r_store D (by tm_at "up") fun s D => ?_
          have ei : er (.int ((i : Int) + 1) t2) = V.int ((i + 1 : Nat) : Int) := by show V.int _ = V.int _; congr 1
          rw [ei] at D
          refine wpAny_execs_cons (r_whileOnce (wpAny_isTrue_Compare1 (Subscript_ ?_)))
          tm_at "nm"
          tm_at "nm"
          refine r_idx D r1.tail.tail.tail (by simp; omega) (by rw [List.getElem?_map, he']; rfl) ?_
          tm_at "inv"
          tm_at "nm"
          refine PyProof.Rows.eq_str (r_truth ⟨by simpa using hnx e' he', ?_⟩)
          refine wpAny_execs_nil (wpAny_execs_nil ⟨rfl, i + 1, j, mis ++ [e], n - 1, by omega, by omega, by rw [hyd]; exact hsb, hj, ?_, by simp; omega, ?_⟩)
          · rw [dif_lt hea] at hmis
            rw [hyd, List.append_assoc]; exact hmis
          · have D := D.weak (a := L) (c' := Nsp (slN a1 a2 m u (i + 1) j)) (by tm_at "up") (Nsp.sub (by tm_at "sub"))
            rw [List.map_append]; exact D
        | cons_cons _ hsb =>
          rw [decide_eq_false (show ¬ e.cps.toList < e.cps.toList from slt_irrefl e)]
          rw [dif_same hne] at hmis
          refine wpAny_execs_cons (wpAny_If (wpAny_isTrue_Compare1 ?_))
          tm_at "nm"
          tm_at "nm"
          refine P.gt_str (r_truth ?_)
          rw [decide_eq_false (show ¬ e.cps.toList < e.cps.toList from slt_irrefl e)]
          refine wpAny_execs_cons (wpAny_AugAssign_Name ?_)
          tm_at "ld"
          refine r_int D fun t1 s D => r_iadd D fun t2 s D => ?_
          refine r_store D (by tm_at "up") fun s D => ?_
          have ei : er (.int ((i : Int) + 1) t2) = V.int ((i + 1 : Nat) : Int) := by show V.int _ = V.int _; congr 1
          rw [ei] at D
          have hnj : ∀ y, ys[j + 1]? = some y → y ≠ e := fun y hy => by
            rintro rfl
            exact hne (hsb.subset (by rw [drop_cons hy]; exact .head _))
          have D := D.weak (a := L) (c' := Nsp (("e", .str e) :: ("a", .str e) :: slN a1 a2 m u (i + 1) j)) (by tm_at "up") (Nsp.sub (by tm_at "sub"))
          refine wpAny_execs_cons (wpAny_Try_finally (wpAny_execs_cons (r_whileOnce (wpAny_isTrue_Compare1 (Subscript_ ?_)))))
          tm_at "nm"
          tm_at "nm"
          by_cases hi1 : i + 1 < xs.length
          · obtain ⟨e', he'⟩ : ∃ e', xs[i + 1]? = some e' := ⟨_, List.getElem?_eq_getElem hi1⟩
            refine r_idx D r1.tail.tail.tail (by simp; omega) (by rw [List.getElem?_map, he']; rfl) ?_
            tm_at "inv"
            tm_at "nm"
            refine PyProof.Rows.eq_str (r_truth ⟨by simpa using hnx e' he', ?_⟩)
            refine wpAny_execs_nil (wpAny_execs_nil (wpAny_execs_cons (wpAny_AugAssign_Name ?_)))
            tm_at "ld"
            refine r_int D fun t1 s D => r_iadd D fun t2 s D => ?_
            refine r_store D (by tm_at "up") fun s D => ?_
            have ej : er (.int ((j : Int) + 1) t2) = V.int ((j + 1 : Nat) : Int) := by show V.int _ = V.int _; congr 1
            rw [ej] at D
            refine wpAny_execs_cons (r_whileOnce (wpAny_isTrue_Compare1 (Subscript_ ?_)))
            tm_at "nm"
            tm_at "nm"
            by_cases hj1 : j + 1 < ys.length
            · obtain ⟨a', ha'⟩ : ∃ a', ys[j + 1]? = some a' := ⟨_, List.getElem?_eq_getElem hj1⟩
              refine r_idx D r2.tail.tail.tail (by simp; omega) (by rw [List.getElem?_map, ha']; rfl) ?_
              tm_at "inv"
              tm_at "nm"
              refine PyProof.Rows.eq_str (r_truth ⟨by simpa using hnj a' ha', ?_⟩)
              refine wpAny_execs_nil (wpAny_execs_nil (wpAny_execs_nil (wpAny_execs_nil ⟨rfl, i + 1, j + 1, mis, n - 1, by omega, by omega, hsb, Nat.le_of_lt hj1, hmis, by omega, ?_⟩)))
              exact D.weak (a := L) (by tm_at "up") (Nsp.sub (by tm_at "sub"))
            · have hyn : ys.drop (j + 1) = [] := List.drop_eq_nil_of_le (by omega)
              have D := D.weak (a := L) (c' := Nsp (slN a1 a2 m u (i + 1) (j + 1))) (by tm_at "up") (Nsp.sub (by tm_at "sub"))
              refine r_idxOut D hh2 r2.tail.tail.tail (by simp; omega) (by simp; omega) (by omega) fun ev s D => ?_
              have D := D.weak (a := ev) (.head rfl) Ex0c.ex
              refine r_loopE D hf' rfl (okL rfl rfl) fun tb s D => ?_
              refine r_blockE D rfl fun s D => ?_
              rw [hyn, dif_nil] at hmis
              exact ⟨ev, i + 1, j + 1, mis, rfl, by omega, by omega, hyn, hmis, by omega, .inr ⟨tb, D⟩⟩
          · have hxn : xs.drop (i + 1) = [] := List.drop_eq_nil_of_le (by omega)
            have hyn : ys.drop (j + 1) = [] := by rw [hxn] at hsb; exact List.sublist_nil.mp hsb
            have hj1 : ys.length ≤ j + 1 := by rw [List.drop_eq_nil_iff] at hyn; exact hyn
            refine r_idxOut D hh2 r1.tail.tail.tail (by simp; omega) (by simp; omega) (by omega) fun ev s D => ?_
            refine r_loopEC D hf' rfl (okL rfl rfl) fun tb s D => ?_
            refine r_noteAgainC D (.tail _ (.head _)) (.head _) rfl ⟨(fun h => nomatch h), ?_⟩
            refine r_noteAgainC D (.tail _ (.head _)) (.head _) rfl ?_
            refine r_flightC D (.tail _ (.head _)) (.head rfl) fun s D => ?_
            refine wpAny_execs_cons (wpAny_AugAssign_Name ?_)
            tm_at "ld"
            refine r_int D fun t1 s D => r_iadd D fun t2 s D => ?_
            refine r_store D (by tm_at "up") fun s D => ?_
            have ej : er (.int ((j : Int) + 1) t2) = V.int ((j + 1 : Nat) : Int) := by show V.int _ = V.int _; congr 1
            rw [ej] at D
            refine wpAny_execs_cons (r_whileOnce (wpAny_isTrue_Compare1 (Subscript_ ?_)))
            tm_at "nm"
            tm_at "nm"
            have D := D.weak (a := L) (c' := Nsp (slN a1 a2 m u (i + 1) (j + 1))) (by tm_at "up") (Nsp.sub (by tm_at "sub"))
            refine r_idxOutH D rfl (.tail _ (.head _)) r2.tail.tail.tail.tail.tail (by simp; omega) (by simp; omega) (by omega) fun ev2 s D => ?_
            have D := D.sublist (.cons_cons _ (.cons _ (.cons _ (.refl _))))
            refine r_loopE D (by exact hf') rfl (okL rfl rfl) fun tb2 s D => ?_
            refine r_blockE D rfl fun s D => ?_
            rw [hyn, dif_nil] at hmis
            exact ⟨ev2, i + 1, j + 1, mis, rfl, by omega, by omega, hyn, hmis, by omega, .inr ⟨tb2, D⟩⟩
      · have hyn : ys.drop j = [] := List.drop_eq_nil_of_le (by omega)
        have D := D.weak (a := L) (c' := Nsp (slN a1 a2 m u i j)) (by tm_at "up") (Nsp.sub (by tm_at "sub"))
        refine r_idxOut D hh2 r2.tail.tail.tail (by simp; omega) (by simp; omega) (by omega) fun ev s D => ?_
        have D := D.weak (a := ev) (.head rfl) Ex0c.ex
        rw [hyn, dif_nil] at hmis
        exact ⟨ev, i, j, mis, rfl, by omega, hj, hyn, hmis, hml, .inl D⟩
    · have hxn : xs.drop i = [] := List.drop_eq_nil_of_le (by omega)
      have hyn : ys.drop j = [] := by rw [hxn] at hsb; exact List.sublist_nil.mp hsb
      refine r_idxOut D hh2 r1.tail.tail.tail (by simp; omega) (by simp; omega) (by omega) fun ev s D => ?_
      have D := D.weak (a := ev) (.head rfl) Ex0c.ex
      rw [hyn, dif_nil] at hmis
      exact ⟨ev, i, j, mis, rfl, by omega, hj, hyn, hmis, hml, .inl D⟩
  · rintro f s ⟨rfl, i', j', mis', n', h1, h2, h3, h4, h5, h6, D⟩
    exact wpAny_execs_nil (wpAny_execs_nil ⟨n', h1, i', j', mis', h2, h3, h4, h5, h6, D⟩)
  · rintro e s ⟨ev, i', j', mis', rfl, h1, h2, h3, h4, h5, D⟩
    refine r_catchB G D hf' (okL rfl rfl) rfl (by rfl) (by rfl) isExc_IndexError' notTuple_IndexError' sub_IndexError' fun s D => ?_
    refine noE (wpAny_execs_cons (wpAny_Expr (r_callAttr ?_)))
    tm_at "nm"
    refine r_methList D (.inl (by tm_at "mem")) F.plainAttrs_list F.slot_list_extend F.type_list_extend (callWith_one ?_)
    refine r_sliceFrom (B := B) (a := a1) (xs := xs.map V.str) (i := i') ?_
    tm_at "nm"
    tm_at "nm"
    refine ⟨_, _, rfl, rfl, D, r1.tail.tail.tail, by simp; omega, by simp; omega, fun sl s D => ?_⟩
    refine r_extend D (by tm_at "up") (.inl (.head _)) (by simp; omega) (by simp; omega) fun s D => ?_
    have D := D.drop
    refine wpAny_execs_cons (wpAny_Expr (r_callAttr ?_))
    tm_at "nm"
    refine r_methList D (.inl (by tm_at "mem")) F.plainAttrs_list F.slot_list_extend F.type_list_extend (callWith_one ?_)
    refine r_sliceFrom (B := B) (a := a2) (xs := ys.map V.str) (i := j') ?_
    tm_at "nm"
    tm_at "nm"
    refine ⟨_, _, rfl, rfl, D, r2.tail.tail.tail, by simp; omega, by simp; omega, fun sl s D => ?_⟩
    refine r_extend D (by tm_at "up") (.inl (.head _)) (by simp) (by simp; omega) fun s D => ?_
    have D := D.drop
    rw [← List.map_drop, ← List.map_append, h4, ← List.map_drop, h3] at D
    refine wpAny_execs_cons (wpAny_Break ?_)
    refine wpAny_execs_cons (wpAny_Return_some (r_tuple2 (B := B) ?_))
    tm_at "nm"
    tm_at "nm"
    refine ⟨_, D, fun tp s D => ?_⟩
    exact k tp m u s (D.sublist (.cons_cons _ (.cons _ (.refl _))))
end
set_option maxRecDepth 100000
section
variable {prog : Program} {w : World} {A : Around} {E : Value → Shared → Prop} {s B : Shared} {l l' : List (Addr × C)} {env : Env} {mg mb : Str → Option Value}

theorem r_isNotB {M : Model} {a b : Bool} {Q : Value → Shared → Prop} (h : Q (.bool (a != b)) s) : wpAny M A (compareOp .IsNot (.bool a) (.bool b)) Q E s := by
  by_cases e : a = b
  · subst e
    rw [show (a != a) = false from by simp] at h
    exact wpAny_isNot_self rfl h
  · rw [show (a != b) = true from by simpa using e] at h
    exact wpAny_isNot_other rfl (fun x => e (Value.bool.inj x)) h

theorem eqaStr {v v' : Value} {x : Str} (h : er v = .str x) (h' : er v' = .str x) : SeqAt.EqAt A s v v' true := by
  obtain ⟨t, rfl⟩ := er_str h
  obtain ⟨t', rfl⟩ := er_str h'
  have := SeqAt.EqAt.str_str (A := A) (s := s) x t x t'
  rwa [beq_self_eq_true] at this
theorem all_true {n : Nat} : (List.range n).all (fun _ => true) = true := by simp
theorem lst_at {h : Heap} {a : Addr} {xs : List V} (x : Has h a (Lst xs)) : ∃ vs : Array Value, h.IsList a vs ∧ vs.toList.map er = xs := by
  obtain ⟨o, ho, vs, n, rfl, hx⟩ := x
  exact ⟨vs, ⟨_, ho, rfl, n, rfl⟩, hx⟩
theorem tup_at {h : Heap} {a : Addr} {xs : List V} (x : Has h a (Tup xs)) : ∃ vs : Array Value, h.IsTuple a vs ∧ vs.toList.map er = xs := by
  obtain ⟨o, ho, vs, n, rfl, hx⟩ := x
  exact ⟨vs, ⟨_, ho, rfl, n, rfl⟩, hx⟩
theorem er_get {vs : Array Value} {xs : List V} (hx : vs.toList.map er = xs) {j : Nat} (h : j < vs.size) : xs[j]? = some (er vs[j]) := by
  rw [← hx]; simp [h]
noncomputable def Eqs (A : Around) (s : Shared) (xs ys : List V) : Prop := ∀ (j : Nat) (x y : V), xs[j]? = some x → ys[j]? = some y → ∀ v v', er v = x → er v' = y → SeqAt.EqAt A s v v' true
theorem rcaList {a b : Addr} {xs ys : List V} (ha : Has s.heap a (Lst xs)) (hb : Has s.heap b (Lst ys)) (hl : xs.length = ys.length) (hu : A.units < cLine) (he : Eqs A.in1 s xs ys) : SeqAt.RcAt A s (.ref a) (.ref b) true := by
  obtain ⟨va, h1, hx⟩ := lst_at ha
  obtain ⟨vb, h2, hy⟩ := lst_at hb
  have la : va.size = xs.length := by rw [← hx]; simp
  have lb : vb.size = ys.length := by rw [← hy]; simp
  have := SeqAt.RcAt.lists (A := A) (e := fun _ => true) h1 h2 (by omega) hu fun j h1 h2 => he j _ _ (er_get hx h1) (er_get hy h2) _ _ rfl rfl
  rwa [all_true] at this
theorem rcaTup {a b : Addr} {xs ys : List V} (ha : Has s.heap a (Tup xs)) (hb : Has s.heap b (Tup ys)) (hl : xs.length = ys.length) (hu : A.units < cLine) (he : Eqs A.in1 s xs ys) : SeqAt.RcAt A s (.ref a) (.ref b) true := by
  obtain ⟨va, h1, hx⟩ := tup_at ha
  obtain ⟨vb, h2, hy⟩ := tup_at hb
  have la : va.size = xs.length := by rw [← hx]; simp
  have lb : vb.size = ys.length := by rw [← hy]; simp
  have := SeqAt.RcAt.tuples (A := A) (e := fun _ => true) h1 h2 hu fun j h1 h2 => he j _ _ (er_get hx h1) (er_get hy h2) _ _ rfl rfl
  rwa [all_true, show va.size = vb.size from by omega, beq_self_eq_true] at this
theorem eqaRef {a b : Addr} (h : SeqAt.RcAt A s (.ref a) (.ref b) true) : SeqAt.EqAt A s (.ref a) (.ref b) true := by
  by_cases e : a = b
  · subst e; exact SeqAt.EqAt.same _
  · exact SeqAt.EqAt.of_refs e h
theorem eqs_str {xs : List Str} : Eqs A s (xs.map V.str) (xs.map V.str) := by
  intro j x y hx hy v v' hv hv'
  rw [hx] at hy
  cases hy
  rw [List.getElem?_map] at hx
  obtain ⟨z, _, rfl⟩ := Option.map_eq_some_iff.mp hx
  exact eqaStr hv hv'
theorem r_neL {a b : Addr} {xs ys : List V} {Q : Value → Shared → Prop} (D : In B l s) (ra : Rd B l a (Lst xs)) (rb : Rd B l b (Lst ys)) (hl : xs.length = ys.length) (hu : A.units < cLine) (he : Eqs A.in1 s xs ys) (h : Q (.bool false) s) :
    wpAny (model prog w) A (compareOp .NotEq (.ref a) (.ref b)) Q E s := by
  obtain ⟨va, h1, hx⟩ := lst_at (D.rd ra)
  obtain ⟨vb, h2, hy⟩ := lst_at (D.rd rb)
  have la : va.size = xs.length := by rw [← hx]; simp
  have lb : vb.size = ys.length := by rw [← hy]; simp
  have := SeqAt.RcNeAt.lists (A := A) (e := fun _ => true) h1 h2 (by omega) hu fun j h1 h2 => he j _ _ (er_get hx h1) (er_get hy h2) _ _ rfl rfl
  rw [all_true] at this
  exact this prog w E Q h
theorem r_neT {a b : Addr} {xs ys : List V} {Q : Value → Shared → Prop} (D : In B l s) (ra : Rd B l a (Tup xs)) (rb : Rd B l b (Tup ys)) (hl : xs.length = ys.length) (hu : A.units < cLine) (he : Eqs A.in1 s xs ys) (h : Q (.bool false) s) :
    wpAny (model prog w) A (compareOp .NotEq (.ref a) (.ref b)) Q E s := by
  obtain ⟨va, h1, hx⟩ := tup_at (D.rd ra)
  obtain ⟨vb, h2, hy⟩ := tup_at (D.rd rb)
  have la : va.size = xs.length := by rw [← hx]; simp
  have lb : vb.size = ys.length := by rw [← hy]; simp
  have := SeqAt.RcNeAt.tuples (A := A) (e := fun _ => true) h1 h2 hu fun j h1 h2 => he j _ _ (er_get hx h1) (er_get hy h2) _ _ rfl rfl
  rw [all_true, show va.size = vb.size from by omega, beq_self_eq_true] at this
  exact this prog w E Q h
theorem r_eqNil {a b : Addr} {xs : List V} {Q : Value → Shared → Prop} (D : In B l s) (ra : Rd B l a (Lst xs)) (rb : Rd B l b (Lst [])) (hu : A.units < cLine) (h : Q (.bool xs.isEmpty) s) :
    wpAny (model prog w) A (compareOp .Eq (.ref a) (.ref b)) Q E s := by
  cases xs with
  | nil => exact rcaList (D.rd ra) (D.rd rb) rfl hu (fun j x y hx => by simp at hx) prog w E Q h
  | cons x xs =>
    obtain ⟨va, h1, hx⟩ := lst_at (D.rd ra)
    obtain ⟨vb, h2, hy⟩ := lst_at (D.rd rb)
    have la : va.size = xs.length + 1 := by have := congrArg List.length hx; simpa using this
    have lb : vb.size = 0 := by have := congrArg List.length hy; simpa using this
    exact SeqAt.RcAt.lists_lengths h1 h2 (by rw [la, lb]; simp) hu prog w E Q h
theorem r_sorted {a : Addr} {xs : List Str} {Q : Value → Shared → Prop} (D : In B l s) (ra : Rd B l a (Lst (xs.map V.str))) (hl : xs.length < 64)
    (k : ∀ n ys s', ys.Perm xs → sortedS ys = true → In B ((n, Lst (ys.map V.str)) :: l) s' → Q (.ref n) s') : wpAny (model prog w) A (call (.builtin "sorted") [.ref a]) Q E s := by
  obtain ⟨vs, h1, hx⟩ := lst_at (D.rd ra)
  have hlen : vs.toList.length = xs.length := by have := congrArg List.length hx; simpa using this
  refine sorted_strs (vs := vs.toList) (ss := xs) (by simpa using h1) (strsAre_of _ _ hx) (by omega) fun out ss' a1 a2 a3 => ?_
  obtain ⟨e, he⟩ := sortedAll_at s.heap vs.toList out
  refine k _ ss' _ a2 a3 ?_
  exact D.add (tk := s.toks) (fun _ _ => sortedAll_old) (Heap.get?_none_of_le (Nat.le_succ _)) ⟨_, he, _, _, rfl, of_strsAre a1⟩
theorem r_listStr {x : Str} {t : Tok} {ys : List Str} {Q : Value → Shared → Prop} (D : In B l s) (hA : A.handled = none) (hy : ys.map (·.cps.toList) = x.cps.toList.map fun c => [c]) (hl : ys.length ≤ 1000)
    (k : ∀ n s', In B ((n, Lst (ys.map V.str)) :: l) s' → Q (.ref n) s') : wpAny (model prog w) A (call (.type "list") [.str x t]) Q E s := by
  have hlen : x.cps.size = ys.length := by have := congrArg List.length hy; simpa using this.symm
  refine call_list_str hA x t (fun h' tk acc' c' hk ho hI => ?_) (by rw [sizeLine_eq]; omega)
  refine k _ _ (D.add hk (Heap.get?_none_of_le (Nat.le_refl _)) ⟨_, ho, _, _, rfl, ?_⟩)
  obtain ⟨h1, h2⟩ := hI
  refine List.ext_getElem? fun j => ?_
  rw [List.getElem?_map, List.getElem?_map, Array.getElem?_toList]
  by_cases hj : j < acc'.size
  · rw [Array.getElem?_eq_getElem hj]
    obtain ⟨c, u, h3, h4⟩ := h2 j _ (Array.getElem?_eq_getElem hj)
    rw [h4]
    have h5 : (ys.map (·.cps.toList))[j]? = some [c] := by rw [hy]; simp [h3]
    rw [List.getElem?_map] at h5
    obtain ⟨y, h6, h7⟩ := Option.map_eq_some_iff.mp h5
    rw [h6]
    have : y = ⟨#[c]⟩ := by
      obtain ⟨cs⟩ := y
      obtain ⟨cl⟩ := cs
      simp at h7
      rw [h7]
    rw [this]; rfl
  · rw [Array.getElem?_eq_none (by omega), List.getElem?_eq_none (by omega)]; rfl
theorem r_iterS {x : Str} {t : Tok} {Q : Value → Shared → Prop} (D : In B l s) (ha : x.cps.all (· < 128) = true) (k : ∀ it s', In B ((it, SIt x t 0) :: l) s' → Q (.ref it) s') : wpAny (model prog w) A (pyIter (.str x t)) Q E s :=
  wpAny_pyIter_ascii ha (k _ _ (D.push (tk := s.toks) rfl ⟨rfl, rfl⟩))
theorem r_sliceTo' {value : Expr} {hi : Expr} {p pos : Pos} {a : Addr} {xs : List V} {i : Nat} {Q : Value → Shared → Prop}
    (h : wpAny (model prog w) A (eval value env) (fun o s₁ => wpAny (model prog w) A (eval hi env) (fun vl s₂ => ∃ t l₂, o = .ref a ∧ vl = .int i t ∧ In B l₂ s₂ ∧ Rd B l₂ a (Lst xs) ∧ xs.length ≤ 1000 ∧
      ∀ n s', In B ((n, Lst (xs.take i)) :: l₂) s' → Q (.ref n) s') E s₁) E s) (ht : ∀ o r, letTemporaryGo value o r = pure () := by intro _ _; rfl) :
    wpAny (model prog w) A (eval (.Subscript value (.Slice none (some hi) none p) pos) env) Q E s := by
  refine wpAny_Subscript_list_slice (wpAny_mono h (fun o s₁ h₁ => ?_) fun _ _ x => x) ht
  rw [evalPart_none]
  refine wpAny_pure ?_
  rw [evalPart_some]
  refine wpAny_mono h₁ (fun vl s₂ h₂ => ?_) fun _ _ x => x
  obtain ⟨t, l₂, rfl, rfl, D, r, hl, k⟩ := h₂
  obtain ⟨ob, ho, vs, n, rfl, hx⟩ := D.rd r
  have hlen : vs.size = xs.length := by rw [← hx]; simp
  refine ⟨a, vs, none, some (i : Int), rfl, ⟨_, ho, rfl, n, rfl⟩, by rw [sizeLine_eq]; omega, .none, .int _ _, k _ _ ?_⟩
  rw [slicePick_upto' vs i]
  have D1 := D.push (c := Any) (o := { cls := .type "slice", data := .fields #[.none, .int i t, .none] }) (tk := s₂.toks) rfl trivial
  have D2 := D1.push (c := Lst (xs.take i)) (o := { cls := .type "list", data := .seq (vs.toList.take i).toArray }) (tk := s₂.toks) rfl ⟨_, _, rfl, by simp [List.map_take, hx]⟩
  have := D2.mv1.drop
  dsimp only at this
  rwa [Heap.size_push] at this
end

section
variable {prog : Program} {w : World} {A : Around} {E : Value → Shared → Prop} {R : Result → Shared → Prop} {s B : Shared} {l l' : List (Addr × C)} {env : Env} {mg mb : Str → Option Value}
variable {elt t₀ t₁ i₀ i₁ : Expr} {scope : Scope} {pos : Pos} {acc : Value}

theorem comp2_in {it : Value} (I : Nat → Shared → Prop)
    (turn : ∀ n s, I n s → wpAny (model prog w) A (pyNext it) (fun r s₁ => match r with
      | none => R (.ok .next) s₁
      | some v => wpAny (model prog w) A (assign t₁ env v) (fun _ s₂ => wpAny (model prog w) A (eval elt env) (fun x s₄ =>
              wpAny (model prog w) A (call (.builtin "list.append") [acc, x]) (fun _ s₅ => ∃ m, m < n ∧ I m s₅) NoE s₄) NoE s₂) NoE s₁) NoE s)
    (n : Nat) (h : I n s) (ht : ∀ v, letOwnedTupleGo t₁ it v = pure () := by intro _; rfl) :
    codeAny (model prog w) A (.compLoop (.ListComp elt [⟨t₀, i₀, [], 0⟩, ⟨t₁, i₁, [], 0⟩] scope pos) 1 it acc env) R s := by
  refine codeAny_loop rfl I (fun n s hI => ?_) n h
  show wpAny _ A ((compTurn (.ListComp elt [⟨t₀, i₀, [], 0⟩, ⟨t₁, i₁, [], 0⟩] scope pos) 1 it acc env).onRaise (fun x => do noteFrame x env; theTreesLotGoes x)) _ _ s
  refine wpAny_noted ?_
  have e : compTurn (.ListComp elt [⟨t₀, i₀, [], 0⟩, ⟨t₁, i₁, [], 0⟩] scope pos) 1 it acc env = (standAt i₁.pos >>= fun _ => pyNext it >>= fun r => match r with
      | none => pure (.done .next)
      | some v => letOwnedTupleGo t₁ it v >>= fun _ => assign t₁ env v >>= fun _ =>
        (eval elt env >>= fun x => call (.builtin "list.append") [acc, x] >>= fun _ => pure ()) >>= fun _ =>
          again (.compLoop (.ListComp elt [⟨t₀, i₀, [], 0⟩, ⟨t₁, i₁, [], 0⟩] scope pos) 1 it acc env)) := by rfl
  rw [e]
  refine wpAny_bind (wpAny_standAt (wpAny_bind (noE (wpAny_mono (turn n s hI) (fun r s₁ h₁ => ?_) fun _ _ h' => h'))))
  cases r with
  | none => exact wpAny_pure h₁
  | some v =>
    refine wpAny_bind (wpAny_of_eq (ht v) ?_)
    refine wpAny_bind (noE (wpAny_mono h₁ (fun _ s₂ h₂ => ?_) fun _ _ h' => h'))
    exact wpAny_bind (wpAny_bind (noE (wpAny_mono h₂ (fun x s₄ h₄ => wpAny_bind (noE (wpAny_mono h₄ (fun _ s₅ h₅ => wpAny_pure (wpAny_pure ⟨rfl, h₅⟩)) fun _ _ h' => h'))) fun _ _ h' => h')))
theorem comp2_start {it : Value}
    (h0 : codeAny (model prog w) A (.compLoop (.ListComp elt [⟨t₀, i₀, [], 0⟩, ⟨t₁, i₁, [], 0⟩] scope pos) 1 it acc env) R s)
    (h : wpAny (model prog w) A (pyIter it) (fun it' s' => codeAny (model prog w) A (.compLoop (.ListComp elt [⟨t₀, i₀, [], 0⟩, ⟨t₁, i₁, [], 0⟩] scope pos) 1 it' acc env) R s')
      (notedBy (model prog w) A env fun x s' => R (.error x) s') s) :
    codeAny (model prog w) A (.compStart (.ListComp elt [⟨t₀, i₀, [], 0⟩, ⟨t₁, i₁, [], 0⟩] scope pos) 1 it acc env) R s := by
  refine codeAny_of_tree ?_
  show wpAny _ _ ((compStart (.ListComp elt [⟨t₀, i₀, [], 0⟩, ⟨t₁, i₁, [], 0⟩] scope pos) 1 it acc env).onRaise (fun x => do noteFrame x env; standAt theWindowsPlace)) _ _ s
  refine wpAny_notedAt ?_
  unfold compStart
  show wpAny _ _ (ask >>= _) _ _ s
  refine wpAny_bind (wpAny_askSetting (wpAny_ite ?_))
  split
  · first
      | exact wpAny_bind (wpAny_pure (wpAny_pure (And.intro rfl h0)))
      | exact wpAny_pure (And.intro rfl h0)
  · first
      | exact wpAny_bind (wpAny_rule (wpAny_bind (wpAny_standAt (wpAny_bind (wpAny_mono h (fun it' s' h' => wpAny_pure (And.intro rfl h')) fun _ _ x => x)))))
      | (refine wpAny_bind (wpAny_rule ?_); show wpAny _ _ (standAt i₁.pos >>= _) _ _ s; exact wpAny_bind (wpAny_standAt (wpAny_bind (wpAny_mono h (fun it' s' h' => wpAny_pure (And.intro rfl h')) fun _ _ x => x))))
theorem comp2_out {it : Value} (I : Nat → Shared → Prop)
    (turn : ∀ n s, I n s → wpAny (model prog w) A (pyNext it) (fun r s₁ => match r with
      | none => R (.ok .next) s₁
      | some v => wpAny (model prog w) A (assign t₀ env v) (fun _ s₂ => wpAny (model prog w) A (eval i₁ env) (fun x s₃ => wpAny (model prog w) A (pyIter x) (fun it₂ s₄ =>
          codeAny (model prog w) A (.compStart (.ListComp elt [⟨t₀, i₀, [], 0⟩, ⟨t₁, i₁, [], 0⟩] scope pos) 1 it₂ acc env) (fun r s₅ => match r with | .ok _ => ∃ m, m < n ∧ I m s₅ | .error _ => False) s₄) NoE s₃) NoE s₂) NoE s₁) NoE s)
    (n : Nat) (h : I n s) (ht : ∀ v, letOwnedTupleGo t₀ it v = pure () := by intro _; rfl) (hs : ∀ x, foldedSetIterable i₁ env x = pure x := by intro _; rfl) :
    codeAny (model prog w) A (.compLoop (.ListComp elt [⟨t₀, i₀, [], 0⟩, ⟨t₁, i₁, [], 0⟩] scope pos) 0 it acc env) R s := by
  refine codeAny_loop rfl I (fun n s hI => ?_) n h
  show wpAny _ A ((compTurn (.ListComp elt [⟨t₀, i₀, [], 0⟩, ⟨t₁, i₁, [], 0⟩] scope pos) 0 it acc env).onRaise (fun x => do noteFrame x env; theTreesLotGoes x)) _ _ s
  refine wpAny_noted ?_
  have e : compTurn (.ListComp elt [⟨t₀, i₀, [], 0⟩, ⟨t₁, i₁, [], 0⟩] scope pos) 0 it acc env = (standAt i₀.pos >>= fun _ => pyNext it >>= fun r => match r with
      | none => pure (.done .next)
      | some v => letOwnedTupleGo t₀ it v >>= fun _ => assign t₀ env v >>= fun _ =>
        eval i₁ env >>= fun x => standAt i₁.pos >>= fun _ => foldedSetIterable i₁ env x >>= fun x => holding [x] (pyIter x) >>= fun it₂ =>
          runOwn (.compStart (.ListComp elt [⟨t₀, i₀, [], 0⟩, ⟨t₁, i₁, [], 0⟩] scope pos) 1 it₂ acc env) env >>= fun _ =>
          again (.compLoop (.ListComp elt [⟨t₀, i₀, [], 0⟩, ⟨t₁, i₁, [], 0⟩] scope pos) 0 it acc env)) := by rfl
  rw [e]
  refine wpAny_bind (wpAny_standAt (wpAny_bind (noE (wpAny_mono (turn n s hI) (fun r s₁ h₁ => ?_) fun _ _ h' => h'))))
  cases r with
  | none => exact wpAny_pure h₁
  | some v =>
    refine wpAny_bind (wpAny_of_eq (ht v) ?_)
    refine wpAny_bind (noE (wpAny_mono h₁ (fun _ s₂ h₂ => wpAny_bind (noE (wpAny_mono h₂ (fun x s₃ h₃ => ?_) fun _ _ h' => h'))) fun _ _ h' => h'))
    refine wpAny_bind (wpAny_standAt (wpAny_bind (wpAny_of_eq (hs x) (wpAny_bind (wpAny_holding (noE (wpAny_mono h₃ (fun it₂ s₄ h₄ => ?_) fun _ _ h' => h')))))))
    refine wpAny_bind (wpAny_runOwn (codeAny_mono h₄ fun r s₅ h₅ => ?_))
    cases r with
    | ok f => exact wpAny_pure ⟨rfl, h₅⟩
    | error e => exact h₅.elim
end
set_option maxRecDepth 100000
noncomputable def stf (r : Rn) : List Str := r.ps.map (·.2)
noncomputable def outS (rs : List Rn) : List Str := rs.flatMap stf
noncomputable def RnOk (B : Shared) (l : List (Addr × C)) (r : Rn) : Prop := Rd B l r.a (Lst (r.ps.map fun p => V.ref p.1)) ∧ ∀ p ∈ r.ps, Rd B l p.1 (Lst [V.str p.2])
theorem Rd.up {B : Shared} {l l' : List (Addr × C)} {a : Addr} {c : C} (r : Rd B l a c) (h : ∀ p ∈ l, p ∈ l') : Rd B l' a c := r.imp (h _) id
theorem RnOk.up {B : Shared} {l l' : List (Addr × C)} {r : Rn} (k : RnOk B l r) (h : ∀ p ∈ l, p ∈ l') : RnOk B l' r := ⟨k.1.up h, fun p hp => (k.2 p hp).up h⟩
theorem outS_take {rs : List Rn} {i : Nat} {r : Rn} (h : rs[i]? = some r) : outS (rs.take (i + 1)) = outS (rs.take i) ++ stf r := by
  rw [take_snoc h]; unfold outS; rw [List.flatMap_append]; simp
theorem slt_trans {x y z : Str} (h1 : slt x y) (h2 : slt y z) : slt x z := List.lt_trans h1 h2
theorem slt_of {x y : Str} (h : ¬ slt y x) (hne : x ≠ y) : slt x y := by
  refine Classical.byContradiction fun h2 => hne ?_
  have h3 : x.cps.toList = y.cps.toList := List.le_antisymm (show ¬ y.cps.toList < x.cps.toList from h) (show ¬ x.cps.toList < y.cps.toList from h2)
  obtain ⟨⟨a⟩⟩ := x
  obtain ⟨⟨b⟩⟩ := y
  simp at h3
  rw [h3]
theorem strict_rise : ∀ (l : List Str) (p : Str), risingS p l = true → (p :: l).Nodup → (p :: l).Pairwise slt
  | [], p, _, _ => by simp
  | x :: r, p, h, nd => by
    have h : (!Spec.ltCps x.cps.toList p.cps.toList && risingS x r) = true := h
    rw [Bool.and_eq_true, ltCps_eq] at h
    obtain ⟨h1, h2⟩ := h
    have h1 : ¬ slt x p := by rw [Bool.not_eq_true', decide_eq_false_iff_not] at h1; exact h1
    rw [List.nodup_cons] at nd
    have hpx : slt p x := slt_of h1 (fun e => nd.1 (e ▸ .head _))
    have ih := strict_rise r x h2 nd.2
    refine List.pairwise_cons.mpr ⟨fun y hy => ?_, ih⟩
    rcases List.mem_cons.mp hy with rfl | hy
    · exact hpx
    · exact slt_trans hpx ((List.pairwise_cons.mp ih).1 y hy)
theorem strict_of {l : List Str} (h : sortedS l = true) (nd : l.Nodup) : l.Pairwise slt := by
  cases l with
  | nil => exact .nil
  | cons x r => exact strict_rise r x h nd
theorem sub_of_strict : ∀ (xs ys : List Str), xs.Pairwise slt → ys.Pairwise slt → (∀ y ∈ ys, y ∈ xs) → ys.Sublist xs
  | [], ys, _, _, h => by
    cases ys with
    | nil => exact .slnil
    | cons y ys => exact absurd (h y (.head _)) (by simp)
  | x :: xs, [], _, _, _ => List.nil_sublist _
  | x :: xs, y :: ys, hx, hy, h => by
    obtain ⟨hx1, hx2⟩ := List.pairwise_cons.mp hx
    obtain ⟨hy1, hy2⟩ := List.pairwise_cons.mp hy
    by_cases e : y = x
    · subst e
      refine .cons_cons _ (sub_of_strict xs ys hx2 hy2 fun z hz => ?_)
      rcases List.mem_cons.mp (h z (.tail _ hz)) with rfl | h1
      · exact absurd (hy1 z hz) (slt_irrefl z)
      · exact h1
    · have hyx : y ∈ xs := (List.mem_cons.mp (h y (.head _))).resolve_left e
      refine .cons _ (sub_of_strict xs (y :: ys) hx2 hy fun z hz => ?_)
      rcases List.mem_cons.mp (h z hz) with rfl | h1
      · rcases List.mem_cons.mp hz with e2 | hz
        · exact absurd e2.symm e
        · exact absurd (slt_trans (hx1 y hyx) (hy1 z hz)) (slt_irrefl z)
      · exact h1
theorem six_strict : six.Pairwise slt := by
  have : sortedS six = true := by decide
  exact strict_of this (by decide)
theorem six_cps : six.map (·.cps.toList) = ("abcdef" : Str).cps.toList.map fun c => [c] := by decide
section
variable {prog : Program} {w : World} {A : Around} {E : Value → Shared → Prop} {s B : Shared} {l l' : List (Addr × C)} {env : Env} {mg mb : Str → Option Value}

theorem r_listComp2 {elt i₀ t₀ i₁ t₁ : Expr} {scope : Scope} {cl : List (Str × Addr)} {pos : Pos} {Q : Value → Shared → Prop}
    (h : wpAny (model prog w) A (eval i₀ env) (fun xv s₁ => wpAny (model prog w) A (pyIter xv) (fun itv s₂ =>
      wpAny (model prog w) A (newList []) (fun acc s₃ => wpAny (model prog w) A (newFunctionEnv scope env.globals cl [] env.qual none .none (some env)) (fun cenv s₄ =>
        codeAny (model prog w) A (.compStart (.ListComp elt [⟨t₀, i₀, [], 0⟩, ⟨t₁, i₁, [], 0⟩] scope pos) 0 itv acc { cenv with scope := relabel scope env }) (compPost (model prog w) A E none Q acc cenv.locals) s₄) E s₃) E s₂) E s₁) E s)
    (hclos : closureFor scope env = pure cl := by rfl) (hkind : scope.kind = .function := by rfl) (hnames : ∀ y ∈ scope.names, y.2 = .local → scope.names.lookup y.1 = some .local := by decide)
    (hs : ∀ x, foldedSetIterable i₀ env x = pure x := by intro _; rfl) :
    wpAny (model prog w) A (eval (.ListComp elt [⟨t₀, i₀, [], 0⟩, ⟨t₁, i₁, [], 0⟩] scope pos) env) Q E s := by
  rw [eval_ListComp]
  exact wpAny_comprehension_free (use := none) rfl hs hclos hkind hnames h

theorem r_flat {x y : Str} {px py pz pe pos : Pos} {i₀ : Expr} {scope : Scope} {cl : List (Str × Addr)} {a it : Addr} {ds : List Rn} {RR : Value → Addr → Result → Shared → Prop}
    (hA : A.handled = none) (D : In B ((it, Itr a 0) :: l) s) (ra : Rd B l a (Lst (ds.map fun r => V.ref r.a))) (hd : ∀ r ∈ ds, RnOk B l r) (hsz : (ds.flatMap Rn.ps).length ≤ 1000)
    (done : ∀ K acc s', In B ((K, Nsp []) :: (acc, Lst ((ds.flatMap Rn.ps).map fun p => V.ref p.1)) :: l) s' → RR (.ref acc) K (.ok .next) s')
    (hcell : ∀ y ∈ scope.names, y.2 ≠ .cell) (hkind : scope.kind = .function)
    (hx : ∀ K, (compEnvC scope cl K env).kindOf x = some .local) (hy : ∀ K, (compEnvC scope cl K env).kindOf y = some .local) (hxy : x ≠ y)
    (hdx : (x == ("__debug__" : Str)) = false) (hdy : (y == ("__debug__" : Str)) = false) :
    wpAny (model prog w) A (newList []) (fun acc s₃ => wpAny (model prog w) A (newFunctionEnv scope env.globals cl [] env.qual none .none (some env)) (fun cenv s₄ =>
      codeAny (model prog w) A (.compStart (.ListComp (.Name y pe) [⟨.Name x px, i₀, [], 0⟩, ⟨.Name y py, .Name x pz, [], 0⟩] scope pos) 0 (.ref it) acc { cenv with scope := relabel scope env }) (RR acc cenv.locals) s₄) E s₃) E s := by
  unfold newList
  refine wpAny_newObj_type ?_ (by size_fits)
  have D := (D.push (c := Lst []) (o := { cls := .type "list", data := .seq ([] : List Value).toArray }) (tk := s.toks) rfl ⟨_, _, rfl, rfl⟩)
  generalize hacc : s.heap.objs.size = acc at D ⊢
  generalize hs₁ : ({ s with heap := s.heap.push { cls := .type "list", data := .seq ([] : List Value).toArray }, toks := s.toks } : Shared) = s₁ at D
  refine wpAny_newFunctionEnv hcell (by intro y hy; simp at hy) (fun h₁ hns hsb => ?_) hkind
  have hk₁ : ∀ b o, s₁.heap.get? b = some o → h₁.get? b = some o := fun b o e => hsb.extBut b o (Nat.ne_of_lt (Heap.lt_size e)) (Heap.get?_push_of_some _ e)
  have D := D.add (a := s₁.heap.objs.size) (c := Nsp []) (h' := h₁) (tk := s₁.toks) hk₁ (Heap.get?_none_of_le (Nat.le_refl _)) (ns_has hns fun p hp => nomatch hp)
  generalize s₁.heap.objs.size = K at D ⊢
  have hkk : (compEnvC scope cl K env).scope.kind = .function := hkind
  have hpp : ((compEnvC scope cl K env).scope.kind == .class || ((compEnvC scope cl K env).scope.kind == .module && (compEnvC scope cl K env).locals != (compEnvC scope cl K env).globals)) = false := by rw [hkk]; rfl
  have loop : ∀ s, In B ((it, Itr a 0) :: (K, Nsp []) :: (acc, Lst []) :: l) s → codeAny (model prog w) A (.compLoop (.ListComp (.Name y pe) [⟨.Name x px, i₀, [], 0⟩, ⟨.Name y py, .Name x pz, [], 0⟩] scope pos) 0 (.ref it) (.ref acc) (compEnvC scope cl K env)) (RR (.ref acc) K) s := by
    intro s D
    refine comp2_out (fun n s => ∃ i, i + n = ds.length ∧ In B ((it, Itr a i) :: (K, Nsp []) :: (acc, Lst (((ds.take i).flatMap Rn.ps).map fun p => V.ref p.1)) :: l) s) (fun n s hI => ?_) ds.length ⟨0, by omega, D⟩
    obtain ⟨i, hn, D⟩ := hI
    refine (It.list (prog := prog) (w := w) (B := B) (it := it) (a := a) (xs := ds.map fun r : Rn => V.ref r.a)).next hA ra.tail.tail D (by rw [List.length_map]; omega) (fun v s hv D => ?_) fun e s D => ?_
    · rw [List.getElem?_map] at hv
      obtain ⟨r, hr, hv⟩ := Option.map_eq_some_iff.mp hv
      obtain rfl := er_ref hv.symm
      have hi : i < ds.length := (List.getElem?_eq_some_iff.mp hr).1
      have hrm : r ∈ ds := List.mem_of_getElem? hr
      refine wpAny_assign_Name (r_store D (.tail (.head rfl)) (fun s D => ?_) (hx K) hpp)
      refine wpAny_Name (r_load D (.tail _ (.head _)) mem_put_self (fun u hu => ?_) hkk (hx K)) hdx
      obtain rfl := er_ref hu
      refine r_iter D ((hd r hrm).1.tail.tail.tail) fun it₂ s D => ?_
      have e1 : (ds.take (i + 1)).flatMap Rn.ps = (ds.take i).flatMap Rn.ps ++ r.ps := by rw [take_snoc hr, List.flatMap_append]; simp
      have hlen : ((ds.take i).flatMap Rn.ps).length + r.ps.length ≤ 1000 := by
        have e2 : ds.flatMap Rn.ps = (ds.take (i + 1)).flatMap Rn.ps ++ (ds.drop (i + 1)).flatMap Rn.ps := by rw [← List.flatMap_append, List.take_append_drop]
        have := congrArg List.length e2
        rw [List.length_append, e1, List.length_append] at this
        omega
      have inner : ∀ s, In B ((it₂, Itr r.a 0) :: (it, Itr a (i + 1)) :: (K, Nsp (put x (.ref r.a) [])) :: (acc, Lst (((ds.take i).flatMap Rn.ps).map fun p => V.ref p.1)) :: l) s → codeAny (model prog w) A (.compLoop (.ListComp (.Name y pe) [⟨.Name x px, i₀, [], 0⟩, ⟨.Name y py, .Name x pz, [], 0⟩] scope pos) 1 (.ref it₂) (.ref acc) (compEnvC scope cl K env))
          (fun r s₅ => match r with | .ok _ => ∃ m, m < n ∧ ∃ i, i + m = ds.length ∧ In B ((it, Itr a i) :: (K, Nsp []) :: (acc, Lst (((ds.take i).flatMap Rn.ps).map fun p => V.ref p.1)) :: l) s₅ | .error _ => False) s := by
        intro s D
        refine comp2_in (fun q s => ∃ j mm, j + q = r.ps.length ∧ In B ((it₂, Itr r.a j) :: (it, Itr a (i + 1)) :: (K, Nsp mm) :: (acc, Lst (((ds.take i).flatMap Rn.ps ++ r.ps.take j).map fun p => V.ref p.1)) :: l) s) (fun q s hI => ?_) r.ps.length ⟨0, _, by omega, by simpa using D⟩
        obtain ⟨j, mm, hq, D⟩ := hI
        refine (It.list (prog := prog) (w := w) (B := B) (it := it₂) (a := r.a) (xs := r.ps.map fun p : Addr × Str => V.ref p.1)).next hA ((hd r hrm).1.tail.tail.tail) D (by rw [List.length_map]; omega) (fun v s hv D => ?_) fun e s D => ?_
        · rw [List.getElem?_map] at hv
          obtain ⟨p, hp, hv⟩ := Option.map_eq_some_iff.mp hv
          obtain rfl := er_ref hv.symm
          have hj : j < r.ps.length := (List.getElem?_eq_some_iff.mp hp).1
          refine wpAny_assign_Name (r_store D (.tail (.tail (.head rfl))) (fun s D => ?_) (hy K) hpp)
          refine wpAny_Name (r_load D (.tail _ (.tail _ (.head _))) mem_put_self (fun u hu => ?_) hkk (hy K)) hdy
          obtain rfl := er_ref hu
          refine r_append D (.tail (.tail (.tail (.head rfl)))) (by rw [List.length_map, List.length_append, List.length_take]; omega) fun s D => ?_
          refine ⟨q - 1, by omega, j + 1, put y (.ref p.1) mm, by omega, ?_⟩
          rw [take_snoc hp, ← List.append_assoc, List.map_append (l₂ := [p])]
          exact D
        · rw [List.length_map] at e
          subst e
          rw [List.take_length, ← e1] at D
          exact ⟨n - 1, by omega, i + 1, by omega, D.weak (.tail (.head rfl)) (Nsp.sub fun p hp => nomatch hp)⟩
      exact comp2_start (inner _ D) ((It.list (prog := prog) (w := w) (B := B) (it := it₂) (a := r.a) (xs := r.ps.map fun p : Addr × Str => V.ref p.1)).self hA ((hd r hrm).1.tail.tail.tail) D (inner _ D))
    · rw [List.length_map] at e
      subst e
      rw [List.take_length] at D
      exact done K acc s D
  have D1 : In B ((it, Itr a 0) :: (K, Nsp []) :: (acc, Lst []) :: l) { s₁ with heap := h₁, toks := s₁.toks } := D.perm (List.perm_middle (l₁ := [(K, Nsp []), (acc, Lst [])]).symm)
  exact codeAny_compStart_list (loop _ D1) ((It.list (prog := prog) (w := w) (B := B) (it := it) (a := a) (xs := ds.map fun r : Rn => V.ref r.a)).self hA ra.tail.tail D1 (loop _ D1))
end
set_option maxRecDepth 100000
theorem lst_empty (d : Rn) : (d.ps.map fun p => V.ref p.1).isEmpty = d.ps.isEmpty := by cases d.ps <;> rfl
noncomputable abbrev tdN (ro oo : Addr) : List (Str × V) := [("rounds", .ref ro), ("others", .ref oo)]
section
variable {prog : Program} {w : World} {A : Around} {E : Value → Shared → Prop} {s B : Shared} {l l' : List (Addr × C)} {env : Env} {mg mb : Str → Option Value}

theorem six_ascii : ("abcdef" : Str).cps.all (· < 128) = true := by kernel_rfl
theorem r_assignLC {y : Str} {py spos : Pos} {elt iter target : Expr} {ifs : List Expr} {scope : Scope} {cl : List (Str × Addr)} {pos : Pos} {Q : Flow → Shared → Prop}
    (h : wpAny (model prog w) A (eval iter env) (fun xv s₁ => wpAny (model prog w) A (pyIter xv) (fun itv s₂ =>
      wpAny (model prog w) A (newList []) (fun acc s₃ => wpAny (model prog w) A (newFunctionEnv scope env.globals cl [] env.qual none .none (some env)) (fun cenv s₄ =>
        codeAny (model prog w) A (.compStart (.ListComp elt [⟨target, iter, ifs, 0⟩] scope pos) 0 itv acc { cenv with scope := relabel scope env }) (compPost (model prog w) A E (some (assign (.Name y py) env)) (fun _ s' => Q .next s') acc cenv.locals) s₄) E s₃) E s₂) E s₁) E s)
    (hsw : swapsWith (.ListComp elt [⟨target, iter, ifs, 0⟩] scope pos) (some (.Name y py)) spos.line env = pure true := by rfl)
    (hclos : closureFor scope env = pure cl := by rfl) (hkind : scope.kind = .function := by rfl) (hnames : ∀ y ∈ scope.names, y.2 = .local → scope.names.lookup y.1 = some .local := by decide)
    (hs : ∀ x, foldedSetIterable iter env x = pure x := by intro _; rfl) :
    wpAny (model prog w) A (exec (.Assign [.Name y py] (.ListComp elt [⟨target, iter, ifs, 0⟩] scope pos) spos) env) Q E s := by
  rw [exec_Assign_Name_used _ _ _ _ hsw]
  refine wpAny_bind (wpAny_standAt (wpAny_bind ?_))
  show wpAny _ A (do let _ ← comprehension (.ListComp elt [⟨target, iter, ifs, 0⟩] scope pos) scope env _ (newList []) false (eval iter env) (some (assign (.Name y py) env))) _ _ s
  exact wpAny_bind (wpAny_mono (wpAny_comprehension_free (use := some (assign (.Name y py) env)) (Q := fun _ s' => Q .next s') rfl hs hclos hkind hnames h) (fun _ s' hq => wpAny_pure (wpAny_pure hq)) fun _ _ e => e)
theorem comp_endU {K acc : Addr} {ys : List V} {m mm : List (Str × V)} {y : Str} {py : Pos} {Q : Value → Shared → Prop} (D : In B ((K, Nsp m) :: (acc, Lst ys) :: l) s) (u : Up env.locals (Nsp mm) (Nsp (put y (.ref acc) mm)) l l') (k : ∀ s', In B ((acc, Lst ys) :: l') s' → Q .none s')
    (hl : env.kindOf y = some .local := by rfl) (hp : (env.scope.kind == .class || (env.scope.kind == .module && env.locals != env.globals)) = false := by rfl) :
    compPost (model prog w) A E (some (assign (.Name y py) env)) Q (.ref acc) K (.ok .next) s := by
  show wpAny (model prog w) A (assign (.Name y py) env (.ref acc)) _ _ s
  refine wpAny_assign_Name (r_store D (.tail (.tail u)) (fun s' D' => ?_) hl hp)
  obtain ⟨mv, hn, _⟩ := has_ns (D'.has (.head _))
  exact ⟨mv, hn, fun h' hs' => k _ (D'.dropExt hs'.extBut)⟩

set_option maxHeartbeats 4000000 in
theorem told_spec {ro oo du : Addr} {rs os ds : List Rn} {envs : List Env} {R : Result → Shared → Prop} (G : Gd w mg mb B) (D : In B l s) (hd : A.depth < 600) (hu : A.units < 6000) (hh : A.handled = none) (hfr : A.frames = some envs) (ok : FrOk l envs)
    (r1 : Rd B l ro (Lst (rs.map fun r => V.ref r.a))) (r2 : Rd B l oo (Lst (os.map fun r => V.ref r.a))) (r3 : Rd B l du (Lst (ds.map fun r => V.ref r.a)))
    (k1 : ∀ r ∈ rs, RnOk B l r) (k2 : ∀ r ∈ os, RnOk B l r) (k3 : ∀ r ∈ ds, RnOk B l r)
    (hn1 : rs.length = 6) (hn2 : os.length = 6) (hn3 : ds.length = 7) (hz1 : ∀ r ∈ rs, r.ps.length ≤ 40) (hz2 : ∀ r ∈ os, r.ps.length ≤ 40) (hz3 : ∀ r ∈ ds, r.ps.length ≤ 40)
    (h0 : ∀ d e, ds[0]? = some d → ds[1]? = some e → cmpO d.ps (d.ps ++ e.ps) = e.ps.isEmpty ∧ cmpO (e.ps ++ d.ps) d.ps = e.ps.isEmpty)
    (hk : ∀ i r o d e, rs[i]? = some r → os[i]? = some o → ds[i]? = some d → ds[i + 1]? = some e → cmpO r.ps o.ps = true ∧ cmpO d.ps r.ps = true ∧ cmpO r.ps e.ps = (d.ps.isEmpty && e.ps.isEmpty))
    (hnd : (outS rs).Nodup) (hsix : ∀ x ∈ outS rs, x ∈ six) (hmem : ∀ i, i ≤ 6 → ∀ x ∈ six, x ∈ outS (rs.take i) ↔ x ∈ outS (ds.take i))
    (k : ∀ s', In B l s' → R (.ok (.ret (.bool true))) s') : codeAny (model prog w) A (.call (.ref 204) ⟨[.ref ro, .ref oo, .ref du], []⟩) R s := by
  refine r_enterC (fun L => [("k", L + 2), ("due", L + 1)]) [("rounds", .ref ro), ("others", .ref oo), ("due", .ref du)] (tdN ro oo) (fun L => [(L + 2, CelO none), (L + 1, CelO (some (.ref du)))]) G D (by rfl) (by rfl) (by show A.depth < 1000; omega) (by rfl) (fun L => by rfl)
    (fun L => List.forall_mem_cons.mpr ⟨.inl rfl, List.forall_mem_cons.mpr ⟨.inl rfl, List.forall_mem_cons.mpr ⟨.inr ⟨rfl, rfl⟩, List.forall_mem_nil _⟩⟩⟩)
    (List.forall_mem_cons.mpr ⟨rfl, List.forall_mem_cons.mpr ⟨rfl, List.forall_mem_nil _⟩⟩) (fun L => by rfl) (fun L => by show (["k", "due"] : List Str).Nodup; decide) ?_
  intro L A' s hd' hu' hh' hf' D
  rw [hfr] at hf'
  have hh2 : A'.handled = none := by rw [hh']; exact hh
  have D : In B ((L, Nsp (tdN ro oo)) :: (L + 2, CelO none) :: (L + 1, CelO (some (.ref du))) :: l) s := D
  obtain ⟨d0, hd0⟩ : ∃ d, ds[0]? = some d := ⟨_, List.getElem?_eq_getElem (by omega)⟩
  obtain ⟨d1, hd1⟩ : ∃ d, ds[1]? = some d := ⟨_, List.getElem?_eq_getElem (by omega)⟩
  have m0 := List.mem_of_getElem? hd0
  have m1 := List.mem_of_getElem? hd1
  obtain ⟨c0, c1⟩ := h0 d0 d1 hd0 hd1
  have x0 := k3 d0 m0
  have x1 := k3 d1 m1
  have z0 := hz3 d0 m0
  have z1 := hz3 d1 m1
  have g0 : (ds.map fun r => V.ref r.a)[0]? = some (V.ref d0.a) := by rw [List.getElem?_map, hd0]; rfl
  have g1 : (ds.map fun r => V.ref r.a)[1]? = some (V.ref d1.a) := by rw [List.getElem?_map, hd1]; rfl
  have hdl : (ds.map fun r => V.ref r.a).length ≤ 1000 := by rw [List.length_map]; omega
  have hrl : (rs.map fun r => V.ref r.a).length ≤ 1000 := by rw [List.length_map]; omega
  have hol : (os.map fun r => V.ref r.a).length ≤ 1000 := by rw [List.length_map]; omega
  refine noE (wpAny_execs_cons (wpAny_Assign_Name (wpAny_Compare1 (Subscript_ ?_))))
  tm_at "nc"
  refine r_int D fun t s D => r_idx (i := 1) D (r3.up (fun p hp => by tm_at "mem")) hdl g1 ?_
  tm_at "inv"
  refine r_list0 D fun z s D => r_eqNil D (x1.1.up (fun p hp => by tm_at "mem")) (.inl (.head _)) (by show A'.units < 9900; omega) ?_
  rw [lst_empty]
  refine r_store D (by tm_at "up") fun s D => ?_
  have D := D.drop
  have D := D.weak (a := L) (c' := Nsp (("alone", .bool d1.ps.isEmpty) :: tdN ro oo)) (by tm_at "up") (Nsp.sub (by tm_at "sub"))
  refine wpAny_execs_cons (wpAny_If (isTrue_or (wpAny_isTrue_Compare1 (r_callName G D (by rfl) (by rfl) rfl (wpAny_items_cons (Subscript_ ?_))))))
  tm_at "nc"
  refine r_int D fun t s D => r_idx (i := 0) D (r3.up (fun p hp => by tm_at "mem")) hdl g0 ?_
  tm_at "inv"
  refine wpAny_items_cons (wpAny_BinOp (Subscript_ ?_))
  tm_at "nc"
  refine r_int D fun t s D => r_idx (i := 0) D (r3.up (fun p hp => by tm_at "mem")) hdl g0 ?_
  tm_at "inv"
  refine Subscript_ ?_
  tm_at "nc"
  refine r_int D fun t s D => r_idx (i := 1) D (r3.up (fun p hp => by tm_at "mem")) hdl g1 ?_
  tm_at "inv"
  refine r_addL D (x0.1.up (fun p hp => by tm_at "mem")) (x1.1.up (fun p hp => by tm_at "mem")) (by rw [List.length_map]; omega) (by rw [List.length_map]; omega) fun n3 s D => ?_
  rw [← List.map_append] at D
  refine wpAny_items_nil ⟨⟨_, D⟩, compare_spec (sg := d0.ps) (tg := d0.ps ++ d1.ps) G D (by omega) (by omega) hh2 hf' ((ok.mono (fun p hp => by tm_at "mem")).cons rfl rfl (by tm_at "mem")) (x0.1.up (fun p hp => by tm_at "mem")) (.inl (.head _)) ?_ (by omega) (by rw [List.length_append]; omega) fun s D => ?_⟩
  · intro p hp
    have hp : p ∈ d0.ps ∨ p ∈ d1.ps := by
      rcases List.mem_append.mp hp with h | h
      · exact .inl h
      · exact List.mem_append.mp h
    exact hp.elim (fun h => (x0.2 p h).up (fun p hp => by tm_at "mem")) (fun h => (x1.2 p h).up (fun p hp => by tm_at "mem"))
  have D := D.drop
  tm_at "nm"
  refine r_isNotB (r_truth ?_)
  rw [c0, show (d1.ps.isEmpty != d1.ps.isEmpty) = false from by simp]
  refine isTrue_or (wpAny_isTrue_Compare1 (r_callName G D (by rfl) (by rfl) rfl (wpAny_items_cons (wpAny_BinOp (Subscript_ ?_)))))
  tm_at "nc"
  refine r_int D fun t s D => r_idx (i := 1) D (r3.up (fun p hp => by tm_at "mem")) hdl g1 ?_
  tm_at "inv"
  refine Subscript_ ?_
  tm_at "nc"
  refine r_int D fun t s D => r_idx (i := 0) D (r3.up (fun p hp => by tm_at "mem")) hdl g0 ?_
  tm_at "inv"
  refine r_addL D (x1.1.up (fun p hp => by tm_at "mem")) (x0.1.up (fun p hp => by tm_at "mem")) (by rw [List.length_map]; omega) (by rw [List.length_map]; omega) fun n3 s D => ?_
  rw [← List.map_append] at D
  refine wpAny_items_cons (Subscript_ ?_)
  tm_at "nc"
  refine r_int D fun t s D => r_idx (i := 0) D (r3.up (fun p hp => by tm_at "mem")) hdl g0 ?_
  tm_at "inv"
  refine wpAny_items_nil ⟨⟨_, D⟩, compare_spec (sg := d1.ps ++ d0.ps) (tg := d0.ps) G D (by omega) (by omega) hh2 hf' ((ok.mono (fun p hp => by tm_at "mem")).cons rfl rfl (by tm_at "mem")) (.inl (.head _)) (x0.1.up (fun p hp => by tm_at "mem")) ?_ (by rw [List.length_append]; omega) (by omega) fun s D => ?_⟩
  · intro p hp
    have hp : p ∈ d0.ps ∨ p ∈ d1.ps := by
      rcases List.mem_append.mp hp with h | h
      · exact (List.mem_append.mp h).symm
      · exact .inl h
    exact hp.elim (fun h => (x0.2 p h).up (fun p hp => by tm_at "mem")) (fun h => (x1.2 p h).up (fun p hp => by tm_at "mem"))
  have D := D.drop
  tm_at "nm"
  refine r_isNotB (r_truth ?_)
  rw [c1, show (d1.ps.isEmpty != d1.ps.isEmpty) = false from by simp]
  refine isTrue_or_nil ?_
  refine wpAny_execs_nil (wpAny_execs_cons (wpAny_Assign_Name (r_list0 D fun ou s D => ?_)))
  refine r_store D (by tm_at "up") fun s D => ?_
  have D := D.weak (a := L) (c' := Nsp (("out", .ref ou) :: tdN ro oo)) (by tm_at "up") (Nsp.sub (by tm_at "sub"))
  refine wpAny_execs_cons (wpAny_For (wpAny_Call_ofName (wpAny_Name (r_bi G D (by rfl) (by rfl) (callWith_type1 (wpAny_items_cons (r_callB1 G D (by rfl) (by rfl) ?_)))))))
  tm_at "nm"
  refine r_lenL D (r1.up (fun p hp => by tm_at "mem")) hrl fun tl s D => ?_
  rw [List.length_map, hn1]
  refine wpAny_items_nil (r_range (n := 6) D (by omega) fun rg s D => ?_)
  refine r_iterR D (by omega) (.head _) fun itR s D => ?_
  have D := D.mv1.drop
  refine r_for (fun i l' => ∃ ou o, l' = (ou, Lst ((outS (rs.take i)).map V.str)) :: (L, Nsp (("out", .ref ou) :: tdN ro oo)) :: (L + 2, CelO o) :: (L + 1, CelO (some (.ref du))) :: l) It.range hh2 (fun i l' e => trivial) ⟨ou, none, rfl⟩ D ?_ ?_
  · rintro i y _ s v hy ⟨ou, o, rfl⟩ hv D
    have hi : i < 6 := by have := (List.getElem?_eq_some_iff.mp hy).1; simpa using this
    have hy2 : y = V.int i := by
      rw [List.getElem?_map, List.getElem?_range hi] at hy
      exact (Option.some.inj hy).symm
    subst hy2
    obtain ⟨tv, rfl⟩ := er_int hv
    obtain ⟨r, hr⟩ : ∃ r, rs[i]? = some r := ⟨_, List.getElem?_eq_getElem (by omega)⟩
    obtain ⟨q, hq⟩ : ∃ r, os[i]? = some r := ⟨_, List.getElem?_eq_getElem (by omega)⟩
    obtain ⟨d, hd⟩ : ∃ r, ds[i]? = some r := ⟨_, List.getElem?_eq_getElem (by omega)⟩
    obtain ⟨e, he⟩ : ∃ r, ds[i + 1]? = some r := ⟨_, List.getElem?_eq_getElem (by omega)⟩
    obtain ⟨q1, q2, q3⟩ := hk i r q d e hr hq hd he
    have xr := k1 r (List.mem_of_getElem? hr)
    have xq := k2 q (List.mem_of_getElem? hq)
    have xd := k3 d (List.mem_of_getElem? hd)
    have xe := k3 e (List.mem_of_getElem? he)
    have zr := hz1 r (List.mem_of_getElem? hr)
    have zq := hz2 q (List.mem_of_getElem? hq)
    have zd := hz3 d (List.mem_of_getElem? hd)
    have ze := hz3 e (List.mem_of_getElem? he)
    have gr : (rs.map fun r => V.ref r.a)[i]? = some (V.ref r.a) := by rw [List.getElem?_map, hr]; rfl
    have gq : (os.map fun r => V.ref r.a)[i]? = some (V.ref q.a) := by rw [List.getElem?_map, hq]; rfl
    have gd : (ds.map fun r => V.ref r.a)[i]? = some (V.ref d.a) := by rw [List.getElem?_map, hd]; rfl
    have ge : (ds.map fun r => V.ref r.a)[i + 1]? = some (V.ref e.a) := by rw [List.getElem?_map, he]; rfl
    refine wpAny_assign_Name (r_storeC D (by rfl) (by tm_at "up") fun s D => ?_)
    have D : In B ((itR, RIt 6 (i + 1)) :: (ou, Lst ((outS (rs.take i)).map V.str)) :: (L, Nsp (("out", .ref ou) :: tdN ro oo)) :: (L + 2, CelO (some (.int i))) :: (L + 1, CelO (some (.ref du))) :: l) s := D
    refine wpAny_execs_cons (wpAny_If (isTrue_or (wpAny_isTrue_Compare1 (r_callName G D (by rfl) (by rfl) rfl (wpAny_items_cons (Subscript_ ?_))))))
    tm_at "nm"
    tm_at "nc"
    refine r_idx D (r1.up (fun p hp => by tm_at "mem")) hrl gr ?_
    tm_at "inv"
    refine wpAny_items_cons (Subscript_ ?_)
    tm_at "nm"
    tm_at "nc"
    refine r_idx D (r2.up (fun p hp => by tm_at "mem")) hol gq ?_
    tm_at "inv"
    refine wpAny_items_nil ⟨⟨_, D⟩, compare_spec (sg := r.ps) (tg := q.ps) G D (by omega) (by omega) hh2 hf' ((ok.mono (fun p hp => by tm_at "mem")).cons rfl rfl (by tm_at "mem")) (xr.1.up (fun p hp => by tm_at "mem")) (xq.1.up (fun p hp => by tm_at "mem")) ?_ (by omega) (by omega) fun s D => ?_⟩
    · intro p hp
      exact (List.mem_append.mp hp).elim (fun h => (xr.2 p h).up (fun p hp => by tm_at "mem")) (fun h => (xq.2 p h).up (fun p hp => by tm_at "mem"))
    refine wpAny_Constant_bool (r_isNotB (r_truth ?_))
    rw [q1]
    refine isTrue_or (wpAny_isTrue_Compare1 (r_callName G D (by rfl) (by rfl) rfl (wpAny_items_cons (Subscript_ ?_))))
    tm_at "nc"
    tm_at "nc"
    refine r_idx D (r3.up (fun p hp => by tm_at "mem")) hdl gd ?_
    tm_at "inv"
    refine wpAny_items_cons (Subscript_ ?_)
    tm_at "nm"
    tm_at "nc"
    refine r_idx D (r1.up (fun p hp => by tm_at "mem")) hrl gr ?_
    tm_at "inv"
    refine wpAny_items_nil ⟨⟨_, D⟩, compare_spec (sg := d.ps) (tg := r.ps) G D (by omega) (by omega) hh2 hf' ((ok.mono (fun p hp => by tm_at "mem")).cons rfl rfl (by tm_at "mem")) (xd.1.up (fun p hp => by tm_at "mem")) (xr.1.up (fun p hp => by tm_at "mem")) ?_ (by omega) (by omega) fun s D => ?_⟩
    · intro p hp
      exact (List.mem_append.mp hp).elim (fun h => (xd.2 p h).up (fun p hp => by tm_at "mem")) (fun h => (xr.2 p h).up (fun p hp => by tm_at "mem"))
    refine wpAny_Constant_bool (r_isNotB (r_truth ?_))
    rw [q2]
    refine isTrue_or_nil ?_
    refine wpAny_execs_nil (wpAny_execs_cons (wpAny_If (wpAny_isTrue_Compare1 (r_callName G D (by rfl) (by rfl) rfl (wpAny_items_cons (Subscript_ ?_))))))
    tm_at "nm"
    tm_at "nc"
    refine r_idx D (r1.up (fun p hp => by tm_at "mem")) hrl gr ?_
    tm_at "inv"
    refine wpAny_items_cons (Subscript_ ?_)
    tm_at "nc"
    refine wpAny_BinOp ?_
    tm_at "nc"
    refine r_int D fun t1 s D => r_addI D fun t2 s D => ?_
    refine r_idx (i := i + 1) D (r3.up (fun p hp => by tm_at "mem")) hdl ge ?_
    tm_at "inv"
    refine wpAny_items_nil ⟨⟨_, D⟩, compare_spec (sg := r.ps) (tg := e.ps) G D (by omega) (by omega) hh2 hf' ((ok.mono (fun p hp => by tm_at "mem")).cons rfl rfl (by tm_at "mem")) (xr.1.up (fun p hp => by tm_at "mem")) (xe.1.up (fun p hp => by tm_at "mem")) ?_ (by omega) (by omega) fun s D => ?_⟩
    · intro p hp
      exact (List.mem_append.mp hp).elim (fun h => (xr.2 p h).up (fun p hp => by tm_at "mem")) (fun h => (xe.2 p h).up (fun p hp => by tm_at "mem"))
    refine wpAny_mono (Q := fun v s' => v = .bool (d.ps.isEmpty && e.ps.isEmpty) ∧ In B ((itR, RIt 6 (i + 1)) :: (ou, Lst ((outS (rs.take i)).map V.str)) :: (L, Nsp (("out", .ref ou) :: tdN ro oo)) :: (L + 2, CelO (some (.int i))) :: (L + 1, CelO (some (.ref du))) :: l) s') (E := NoE) ?_ ?_ (fun _ _ x => x)
    · refine BoolOp_and (wpAny_Compare1 (Subscript_ ?_))
      tm_at "nc"
      tm_at "nc"
      refine r_idx D (r3.up (fun p hp => by tm_at "mem")) hdl gd ?_
      tm_at "inv"
      refine r_list0 D fun z s D => r_eqNil D (xd.1.up (fun p hp => by tm_at "mem")) (.inl (.head _)) (by show A'.units < 9900; omega) (r_truth ?_)
      rw [lst_empty]
      have D := D.drop
      cases hde : d.ps.isEmpty with
      | false => exact ⟨rfl, D⟩
      | true =>
        refine BoolOp_one (wpAny_Compare1 (Subscript_ ?_))
        tm_at "nc"
        refine wpAny_BinOp ?_
        tm_at "nc"
        refine r_int D fun t1 s D => r_addI D fun t2 s D => ?_
        refine r_idx (i := i + 1) D (r3.up (fun p hp => by tm_at "mem")) hdl ge ?_
        tm_at "inv"
        refine r_list0 D fun z s D => r_eqNil D (xe.1.up (fun p hp => by tm_at "mem")) (.inl (.head _)) (by show A'.units < 9900; omega) ?_
        rw [lst_empty]
        exact ⟨rfl, D.drop⟩
    rintro _ s ⟨rfl, D⟩
    refine r_isNotB (r_truth ?_)
    rw [q3, show ((d.ps.isEmpty && e.ps.isEmpty) != (d.ps.isEmpty && e.ps.isEmpty)) = false from by simp]
    refine wpAny_execs_nil (wpAny_execs_cons (wpAny_Assign_Name (wpAny_BinOp ?_)))
    tm_at "nm"
    refine r_listComp (Subscript_ ?_)
    tm_at "nm"
    tm_at "nc"
    refine r_idx D (r1.up (fun p hp => by tm_at "mem")) hrl gr ?_
    tm_at "inv"
    refine r_iter D (xr.1.up (fun p hp => by tm_at "mem")) fun it s D => ?_
    have hxr : Rd B ((itR, RIt 6 (i + 1)) :: (ou, Lst ((outS (rs.take i)).map V.str)) :: (L, Nsp (("out", .ref ou) :: tdN ro oo)) :: (L + 2, CelO (some (.int i))) :: (L + 1, CelO (some (.ref du))) :: l) r.a (Lst (r.ps.map fun p => V.ref p.1)) := xr.1.up (fun p hp => by tm_at "mem")
    refine r_compK (fun j ys l' => ys = (r.ps.take j).map (fun p => V.str p.2) ∧ l' = (itR, RIt 6 (i + 1)) :: (ou, Lst ((outS (rs.take i)).map V.str)) :: (L, Nsp (("out", .ref ou) :: tdN ro oo)) :: (L + 2, CelO (some (.int i))) :: (L + 1, CelO (some (.ref du))) :: l) (It.list (xs := r.ps.map fun p : Addr × Str => V.ref p.1)) hh2 ?_ ⟨rfl, rfl⟩ D ?_ ?_ (by decide) (by rfl)
    · rintro j ys _ ⟨rfl, rfl⟩
      refine ⟨hxr, ?_⟩
      rw [List.length_map, List.length_take]; omega
    · rintro K acc j y ys _ s v hy ⟨rfl, rfl⟩ hv D
      rw [List.getElem?_map] at hy
      obtain ⟨p, hp, rfl⟩ := Option.map_eq_some_iff.mp hy
      obtain rfl := er_ref hv
      have xp := xr.2 p (List.mem_of_getElem? hp)
      refine wpAny_assign_Name (r_store D (by tm_at "up") fun s D => ?_)
      refine r_tests0 ?_
      rw [if_pos rfl]
      refine Subscript_ ?_
      tm_at "nm"
      refine r_int D fun t s D => r_idx (i := 0) (a := p.1) (xs := [V.str p.2]) D (xp.up (fun p hp => by tm_at "mem")) (by simp) rfl ?_
      intro u hu
      refine ⟨_, _, ⟨?_, rfl⟩, D⟩
      rw [take_snoc hp, List.map_append, hu]; rfl
    rintro K acc ys _ s ⟨rfl, rfl⟩ D
    rw [List.length_map, List.take_length] at D
    refine comp_end D fun s D => ?_
    have hol1 : (outS rs).length ≤ 6 := List.Nodup.length_le_of_subset hnd (fun x hx => hsix x hx)
    have hsubl : (outS (rs.take (i + 1))).Sublist (outS rs) := by
      unfold outS
      conv => rhs; rw [← List.take_append_drop (i + 1) rs, List.flatMap_append]
      exact List.sublist_append_left _ _
    have hol2 : (outS (rs.take (i + 1))).length ≤ 6 := Nat.le_trans hsubl.length_le hol1
    have hst := outS_take hr
    have hol3 : (outS (rs.take i)).length ≤ 6 := by rw [hst, List.length_append] at hol2; omega
    refine r_addL D (.inl (by tm_at "mem")) (.inl (.head _)) (by rw [List.length_map]; omega) (by rw [List.length_map]; omega) fun n3 s D => ?_
    have e3 : (outS (rs.take i)).map V.str ++ r.ps.map (fun p => V.str p.2) = (outS (rs.take (i + 1))).map V.str := by
      rw [hst, List.map_append]; unfold stf; rw [List.map_map]; rfl
    rw [e3] at D
    refine r_store D (by tm_at "up") fun s D => ?_
    have D := D.weak (a := L) (c' := Nsp (("out", .ref n3) :: tdN ro oo)) (by tm_at "up") (Nsp.sub (by tm_at "sub"))
    have D : In B ((itR, RIt 6 (i + 1)) :: (n3, Lst ((outS (rs.take (i + 1))).map V.str)) :: (L, Nsp (("out", .ref n3) :: tdN ro oo)) :: (L + 2, CelO (some (.int i))) :: (L + 1, CelO (some (.ref du))) :: l) s := (D.mv1.drop.mv1).sublist (.cons_cons _ (.cons_cons _ (.cons _ (.refl _))))
    have hdt : ∀ d ∈ ds.take (i + 1), RnOk B l d := fun d hd => k3 d (List.mem_of_mem_take hd)
    have hfl : ((ds.take (i + 1)).flatMap Rn.ps).length ≤ 1000 := by
      have : ∀ xs : List Rn, (∀ d ∈ xs, d.ps.length ≤ 40) → (xs.flatMap Rn.ps).length ≤ 40 * xs.length := by
        intro xs
        induction xs with
        | nil => intro _; simp
        | cons x xs ih =>
          intro hx
          have h1 := hx x (.head _)
          have h2 := ih fun d hd => hx d (.tail _ hd)
          rw [List.flatMap_cons, List.length_append, List.length_cons]; omega
      have h1 := this (ds.take (i + 1)) fun d hd => hz3 d (List.mem_of_mem_take hd)
      have h2 := List.length_take_le' (i + 1) ds
      omega
    have hsing : ∀ q ∈ (ds.take (i + 1)).flatMap Rn.ps, Rd B l q.1 (Lst [V.str q.2]) := fun q hq => by
      obtain ⟨d, hd, hqd⟩ := List.mem_flatMap.mp hq
      exact (hdt d hd).2 q hqd
    have hmm := hmem (i + 1) (by omega)
    generalize hT : (ds.take (i + 1)).flatMap Rn.ps = T at *
    have hTo : ∀ x, x ∈ outS (ds.take (i + 1)) ↔ ∃ q ∈ T, q.2 = x := by
      intro x
      rw [← hT]
      unfold outS stf
      simp only [List.mem_flatMap, List.mem_map]
      constructor
      · rintro ⟨d, hd, p, hp, rfl⟩; exact ⟨p, ⟨d, hd, hp⟩, rfl⟩
      · rintro ⟨p, ⟨d, hd, hp⟩, rfl⟩; exact ⟨d, hd, p, hp, rfl⟩
    refine wpAny_execs_cons (r_assignLC (r_strC D fun t s D => r_iterS D six_ascii fun itS s D => ?_))
    refine r_compK (fun j ys l' => ys = ((six.take j).filter fun x => !T.any fun q => q.2 == x).map V.str ∧ l' = (itR, RIt 6 (i + 1)) :: (n3, Lst ((outS (rs.take (i + 1))).map V.str)) :: (L, Nsp (("out", .ref n3) :: tdN ro oo)) :: (L + 2, CelO (some (.int i))) :: (L + 1, CelO (some (.ref du))) :: l) (It.str (ys := six) six_cps) hh2 ?_ ⟨rfl, rfl⟩ D ?_ ?_ (by decide) (by rfl)
    · rintro j ys _ ⟨rfl, rfl⟩
      refine ⟨trivial, ?_⟩
      rw [List.length_map]
      have h1 := List.length_filter_le (fun x => !T.any fun q => q.2 == x) (six.take j)
      have h2 := List.length_take_le' j six
      have h3 : six.length = 6 := rfl
      omega
    · rintro K acc j y ys _ s v hy ⟨rfl, rfl⟩ hv D
      rw [List.getElem?_map] at hy
      obtain ⟨x, hx, rfl⟩ := Option.map_eq_some_iff.mp hy
      obtain ⟨tx, rfl⟩ := er_str hv
      refine wpAny_assign_Name (r_store D (by tm_at "up") fun s D => ?_)
      refine r_tests1 (wpAny_isTrue_Compare1 (r_list1 (B := B) ?_))
      tm_at "nm"
      refine ⟨_, D, fun n1 s D => ?_⟩
      refine r_listComp2 (r_sliceTo' (B := B) (a := du) (xs := ds.map fun r => V.ref r.a) (i := i + 1) ?_)
      tm_at "nc"
      refine wpAny_BinOp ?_
      tm_at "nc"
      refine r_int D fun t1 s D => r_addI D fun t2 s D => ?_
      refine ⟨t2, _, rfl, rfl, D, r3.up (fun p hp => by tm_at "mem"), hdl, fun sl s D => ?_⟩
      rw [← List.map_take] at D
      refine r_iter D (.inl (.head _)) fun it2 s D => ?_
      refine r_flat (ds := ds.take (i + 1)) hh2 D (.inl (.head _)) (fun d hd => (hdt d hd).up (fun p hp => by tm_at "mem")) (by rw [hT]; exact hfl) ?_ (by decide) (by rfl) (fun K => by rfl) (fun K => by rfl) (by decide) (by decide) (by decide)
      intro K2 acc2 s D
      rw [hT] at D
      refine comp_end D fun s D => ?_
      have sing : ∀ q ∈ T, Has s.heap q.1 (Lst [.str q.2]) := fun q hq => D.rd ((hsing q hq).up (fun p hp => by tm_at "mem"))
      have sing1 : Has s.heap n1 (Lst [.str x]) := D.has (by tm_at "mem")
      refine r_notIn (fun q : Addr × Str => V.ref q.1) (fun q => q.2 == x) D (.inl (.head _)) ?_ ?_ (r_truth ?_)
      · intro q hq q' hq' e
        have h1 := sing q hq
        rw [V.ref.inj e] at h1
        rw [lst_inj1 h1 (sing q' hq')]
      · intro q hq y hy
        obtain rfl := er_ref hy
        exact eq_sing (sing q hq) sing1 (by show A'.units + 1 + 5 < 9900; omega)
      have htk : ((six.take (j + 1)).filter fun x => !T.any fun q => q.2 == x) = ((six.take j).filter fun x => !T.any fun q => q.2 == x) ++ (if (!T.any fun q => q.2 == x) then [x] else []) := take_succ_filter _ _ _ _ hx
      have D := D.drop.drop.drop
      cases hF : T.any fun q => q.2 == x with
      | true =>
        rw [hF] at htk
        refine ⟨_, _, ⟨?_, rfl⟩, D⟩
        rw [htk]; simp
      | false =>
        rw [hF] at htk
        show wpAny _ _ _ _ _ _
        tm_at "nm"
        refine ⟨_, _, ⟨?_, rfl⟩, D⟩
        rw [htk, List.map_append]; rfl
    rintro K lf ys _ s ⟨rfl, rfl⟩ D
    rw [show (six.map V.str).length = six.length from rfl, List.take_length] at D
    refine comp_endU D (by tm_at "up") fun s D => ?_
    have hnd2 : (outS (rs.take (i + 1))).Nodup := hnd.sublist hsubl
    have hsix2 : ∀ x ∈ outS (rs.take (i + 1)), x ∈ six := fun x hx => hsix x (hsubl.subset hx)
    refine wpAny_execs_cons (wpAny_If (wpAny_isTrue_Compare1 (r_callName G D (by rfl) (by rfl) rfl (wpAny_items_cons (wpAny_Call_ofName (wpAny_Name (r_bi G D (by rfl) (by rfl) (callWith_type1 (wpAny_items_cons (r_strC D fun t s D => wpAny_items_nil (r_listStr D hh2 six_cps (by decide) fun ex s D => ?_)))))))))))
    refine wpAny_items_cons (r_callB1 G D (by rfl) (by rfl) ?_)
    tm_at "nm"
    refine r_sorted D (.inl (by tm_at "mem")) (by omega) fun so sy s hp hso D => ?_
    have hsy : sy.Sublist six := sub_of_strict six sy six_strict (strict_of hso (hp.nodup_iff.mpr hnd2)) fun y hy => hsix2 y (hp.mem_iff.mp hy)
    refine wpAny_items_nil ⟨⟨_, D⟩, sld_spec G D (by omega) hh2 hf' ((ok.mono (fun p hp => by tm_at "mem")).cons rfl rfl (by tm_at "mem")) (.inl (by tm_at "mem")) (.inl (by tm_at "mem")) six_strict hsy (by decide) fun tp m u s D => ?_⟩
    have hdif : dif six sy = six.filter fun x => !T.any fun q => q.2 == x := by
      unfold dif
      refine List.filter_congr fun x hx => ?_
      congr 1
      rw [Bool.eq_iff_iff, decide_eq_true_eq, List.any_eq_true, hp.mem_iff, hmm x hx, hTo]
      simp
    rw [hdif] at D
    refine r_tuple2 (B := B) ?_
    tm_at "nm"
    refine r_list0 D fun nl s D => ⟨_, D, fun tp2 s D => ?_⟩
    refine r_neT (xs := [.ref m, .ref u]) D (.inl (by tm_at "mem")) (.inl (.head _)) rfl (by show A'.units < 9900; omega) ?_ (r_truth ?_)
    · have e1 : SeqAt.EqAt A'.in1 s (.ref m) (.ref lf) true := eqaRef (rcaList (xs := (six.filter fun x => !T.any fun q => q.2 == x).map V.str) (ys := (six.filter fun x => !T.any fun q => q.2 == x).map V.str) (D.has (by tm_at "mem")) (D.has (by tm_at "mem")) rfl (by show A'.units + 1 < 9900; omega) eqs_str)
      have e2 : SeqAt.EqAt A'.in1 s (.ref u) (.ref nl) true := eqaRef (rcaList (xs := []) (ys := []) (D.has (by tm_at "mem")) (D.has (by tm_at "mem")) rfl (by show A'.units + 1 < 9900; omega) (fun j x y hx => by simp at hx))
      intro j x y hx hy v v' hv hv'
      match j, hx, hy with
      | 0, hx, hy =>
        cases hx; cases hy
        obtain rfl := er_ref hv
        obtain rfl := er_ref hv'
        exact e1
      | 1, hx, hy =>
        cases hx; cases hy
        obtain rfl := er_ref hv
        obtain rfl := er_ref hv'
        exact e2
      | j + 2, hx, _ => simp at hx
    · refine wpAny_execs_nil (wpAny_execs_nil ⟨_, ⟨n3, some (.int i), rfl⟩, ?_⟩)
      have D := D.drop.drop.drop.drop.drop.drop.drop.drop
      exact D.weak (a := L) (by tm_at "up") (Nsp.sub (by tm_at "sub"))
  · rintro _ s ⟨ou, o, rfl⟩ D
    refine wpAny_execs_cons (wpAny_Return_some (wpAny_Constant_bool ?_))
    exact k s D.drop.drop.drop.drop
end
noncomputable def NP (g : GS) (p : Str) : Int := ((g.lookup p).map (·.1)).getD 0
theorem lookup_modG (k : Str) (f : Int × List Str → Int × List Str) (g : GS) (p : Str) : (modG k f g).lookup p = (g.lookup p).map fun q => if p = k then f q else q := by
  unfold modG
  induction g with
  | nil => rfl
  | cons a g ih =>
    obtain ⟨n, q⟩ := a
    rw [List.map_cons]
    by_cases hp : p = n
    · subst hp
      by_cases hk : p = k
      · subst hk; simp [List.lookup]
      · simp [List.lookup, hk]
    · have hb : (p == n) = false := by simpa using hp
      by_cases hk : n = k
      · subst hk; simp only [if_true, List.lookup, hb]; exact ih
      · simp only [if_neg hk, List.lookup, hb]; exact ih
theorem lookup_isSome {g : GS} {p : Str} : (g.lookup p).isSome = true ↔ p ∈ g.map (·.1) := by
  induction g with
  | nil => simp
  | cons a g ih =>
    obtain ⟨n, q⟩ := a
    by_cases hp : p = n
    · subst hp; simp [List.lookup]
    · have hb : (p == n) = false := by simpa using hp
      simp only [List.lookup, hb, List.map_cons, List.mem_cons, hp, false_or]; exact ih
theorem npG_of {g : GS} {p : Str} (h : p ∈ g.map (·.1)) : npG g p = some (NP g p) := by
  obtain ⟨q, hq⟩ := Option.isSome_iff_exists.mp (lookup_isSome.mpr h)
  unfold npG NP
  rw [hq]; rfl
theorem NP_mod {k : Str} {f : Int × List Str → Int × List Str} {g : GS} {p : Str} (h : p ≠ k) : NP (modG k f g) p = NP g p := by
  unfold NP; rw [lookup_modG]; cases g.lookup p <;> simp [h]
theorem NP_mod_self {k : Str} {f : Int × List Str → Int × List Str} {g : GS} (h : k ∈ g.map (·.1)) : NP (modG k f g) k = (f (NP g k, suG g k)).1 := by
  obtain ⟨q, hq⟩ := Option.isSome_iff_exists.mp (lookup_isSome.mpr h)
  unfold NP suG; rw [lookup_modG, hq]; simp
theorem suG_mod {k : Str} {f : Int × List Str → Int × List Str} {g : GS} {p : Str} (hf : ∀ q, (f q).2 = q.2) : suG (modG k f g) p = suG g p := by
  unfold suG; rw [lookup_modG]; cases g.lookup p with
  | none => rfl
  | some q => simp only [Option.map_some, Option.getD_some]; split <;> simp [hf]

structure DecI (g : GS) (r : List Str) (ys : List Str) (g' : GS) (r' : List Str) : Prop where
  names : g'.map (·.1) = g.map (·.1)
  su : ∀ p, suG g' p = suG g p
  np : ∀ p ∈ g.map (·.1), NP g' p = NP g p - ys.count p
  mem : ∀ y, y ∈ r' ↔ y ∈ r ∨ (y ∈ g.map (·.1) ∧ 0 < NP g y ∧ NP g y ≤ ys.count y)
  nd : r.Nodup → (∀ y ∈ r, NP g y ≤ 0) → r'.Nodup
theorem decI_fold : ∀ (ys : List Str) (g : GS) (r : List Str), (∀ y ∈ ys, y ∈ g.map (·.1)) → DecI g r ys (ys.foldl decG (g, r)).1 (ys.foldl decG (g, r)).2
  | [], g, r, _ => ⟨rfl, fun _ => rfl, fun p _ => by simp, fun y => by simp; intro h1 h2 h3; omega, fun h _ => h⟩
  | y :: ys, g, r, h => by
    have hy : y ∈ g.map (·.1) := h y (.head _)
    have hn : (modG y (fun q => (q.1 - 1, q.2)) g).map (·.1) = g.map (·.1) := modG_names _ _ _
    have hsu : ∀ p, suG (modG y (fun q => (q.1 - 1, q.2)) g) p = suG g p := fun p => suG_mod fun _ => rfl
    have hself : NP (modG y (fun q => (q.1 - 1, q.2)) g) y = NP g y - 1 := NP_mod_self hy
    have hoth : ∀ p, p ≠ y → NP (modG y (fun q => (q.1 - 1, q.2)) g) p = NP g p := fun p hp => NP_mod hp
    have hnp : npG (modG y (fun q => (q.1 - 1, q.2)) g) y = some (NP g y - 1) := by rw [npG_of (by rw [hn]; exact hy), hself]
    rw [List.foldl_cons]
    have hd : decG (g, r) y = (modG y (fun q => (q.1 - 1, q.2)) g, if NP g y = 1 then r ++ [y] else r) := by
      unfold decG
      dsimp only
      rw [hnp]
      by_cases h1 : NP g y = 1
      · rw [if_pos (by rw [h1]; rfl), if_pos h1]
      · rw [if_neg (by intro e; have := Option.some.inj e; omega), if_neg h1]
    rw [hd]
    generalize modG y (fun q => (q.1 - 1, q.2)) g = g1 at hn hsu hself hoth
    have I := decI_fold ys g1 (if NP g y = 1 then r ++ [y] else r) (fun z hz => by rw [hn]; exact h z (.tail _ hz))
    refine ⟨I.names.trans hn, fun p => (I.su p).trans (hsu p), fun p hp => ?_, fun z => ?_, fun nd hr => I.nd ?_ ?_⟩
    · rw [I.np p (by rw [hn]; exact hp), List.count_cons]
      by_cases e : p = y
      · subst e; rw [hself]; simp; omega
      · rw [hoth p e]
        have : (y == p) = false := by simpa using Ne.symm e
        simp [this]
    · rw [I.mem z, hn, List.count_cons]
      by_cases e : z = y
      · subst e
        rw [hself]
        simp only [beq_self_eq_true, if_true]
        by_cases h1 : NP g z = 1
        · rw [if_pos h1]; simp [hy]; right; omega
        · rw [if_neg h1]
          constructor
          · rintro (h2 | ⟨h2, h3, h4⟩)
            · exact .inl h2
            · exact .inr ⟨h2, by omega, by omega⟩
          · rintro (h2 | ⟨h2, h3, h4⟩)
            · exact .inl h2
            · exact .inr ⟨h2, by omega, by omega⟩
      · rw [hoth z e]
        have : (y == z) = false := by simpa using Ne.symm e
        simp only [this, Bool.false_eq_true, if_false, Nat.add_zero]
        by_cases h1 : NP g y = 1
        · rw [if_pos h1]; simp [e]
        · rw [if_neg h1]
    · by_cases h1 : NP g y = 1
      · rw [if_pos h1]
        refine List.nodup_append.mpr ⟨nd, by simp, fun a ha b hb => ?_⟩
        rw [List.mem_singleton] at hb
        subst hb
        rintro rfl
        have := hr a ha
        omega
      · rw [if_neg h1]; exact nd
    · intro z hz
      by_cases e : z = y
      · subst e
        rw [hself]
        by_cases h1 : NP g z = 1
        · omega
        · rw [if_neg h1] at hz; have := hr z hz; omega
      · rw [hoth z e]
        refine hr z ?_
        by_cases h1 : NP g y = 1
        · rw [if_pos h1] at hz
          rcases List.mem_append.mp hz with hz | hz
          · exact hz
          · exact absurd (List.mem_singleton.mp hz) e
        · rw [if_neg h1] at hz; exact hz

structure DoneI (g0 : GS) (su : Str → List Str) (rd : List Str) (j : Nat) (st : GS × List Str) : Prop where
  names : st.1.map (·.1) = g0.map (·.1)
  sus : ∀ p, suG st.1 p = su p
  oth : ∀ y ∈ g0.map (·.1), y ∉ rd → NP st.1 y = NP g0 y - ((rd.take j).flatMap su).count y
  past : ∀ m ∈ rd.take j, NP st.1 m = -2
  left : ∀ m ∈ rd.drop j, NP st.1 m = -1
  mem : ∀ y, y ∈ st.2 ↔ y ∈ g0.map (·.1) ∧ y ∉ rd ∧ 0 < NP g0 y ∧ NP g0 y ≤ ((rd.take j).flatMap su).count y
  nd : st.2.Nodup
theorem mem_take_drop {α : Type} {l : List α} (nd : l.Nodup) {j : Nat} {k : α} (h : l[j]? = some k) : k ∉ l.take j ∧ k ∉ l.drop (j + 1) := by
  have h2 : l = l.take j ++ (k :: l.drop (j + 1)) := by rw [← drop_cons h, List.take_append_drop]
  rw [h2] at nd
  obtain ⟨n1, n2, n3⟩ := List.nodup_append.mp nd
  exact ⟨fun hm => n3 k hm k (.head _) rfl, (List.nodup_cons.mp n2).1⟩
theorem done_all {g0 : GS} {su : Str → List Str} {rd : List Str} (nd : rd.Nodup) (hrd : ∀ m ∈ rd, m ∈ g0.map (·.1)) (hsu0 : ∀ p, suG g0 p = su p)
    (hsu : ∀ m ∈ rd, ∀ y ∈ su m, y ∈ g0.map (·.1) ∧ y ∉ rd) : ∀ j, j ≤ rd.length → DoneI g0 su rd j ((rd.take j).foldl doneStep (rd.foldl outG g0, []))
  | 0, _ => by
    have hn : ∀ (ks : List Str) (g : GS), (ks.foldl outG g).map (·.1) = g.map (·.1) := out_names
    have hs : ∀ (ks : List Str) (g : GS) (p : Str), suG (ks.foldl outG g) p = suG g p := by
      intro ks
      induction ks with
      | nil => intro g p; rfl
      | cons a ks ih => intro g p; rw [List.foldl_cons, ih, outG, suG_mod (f := fun q => (-1, q.2)) fun _ => rfl]
    have ho : ∀ (ks : List Str) (g : GS) (y : Str), y ∉ ks → NP (ks.foldl outG g) y = NP g y := by
      intro ks
      induction ks with
      | nil => intro g y _; rfl
      | cons a ks ih =>
        intro g y hy
        rw [List.mem_cons, not_or] at hy
        rw [List.foldl_cons, ih _ _ hy.2, outG, NP_mod hy.1]
    have hm : ∀ (ks : List Str) (g : GS) (y : Str), (∀ k ∈ ks, k ∈ g.map (·.1)) → y ∈ ks → NP (ks.foldl outG g) y = -1 := by
      intro ks
      induction ks with
      | nil => intro g y _ hy; cases hy
      | cons a ks ih =>
        intro g y hk hy
        rw [List.foldl_cons]
        by_cases hin : y ∈ ks
        · exact ih _ _ (fun k hk' => by rw [outG, modG_names]; exact hk k (.tail _ hk')) hin
        · rw [ho _ _ _ hin]
          have : y = a := (List.mem_cons.mp hy).resolve_right hin
          subst this
          rw [outG, NP_mod_self (hk y (.head _))]
    refine ⟨hn _ _, fun p => (hs _ _ p).trans (hsu0 p), fun y hy hyr => ?_, fun m hm => by simp at hm, fun m hmm => ?_, fun y => ?_, by simp⟩
    · show NP (rd.foldl outG g0) y = _
      rw [ho _ _ _ hyr]; simp
    · rw [List.drop_zero] at hmm
      exact hm _ _ _ hrd hmm
    · simp; try (intro _ _ h1 h2; omega)
  | j + 1, hj => by
    have I := done_all nd hrd hsu0 hsu j (by omega)
    obtain ⟨k, hk⟩ : ∃ k, rd[j]? = some k := ⟨_, List.getElem?_eq_getElem (by omega)⟩
    have hkm : k ∈ rd := List.mem_of_getElem? hk
    rw [take_snoc hk, List.foldl_append]
    show DoneI g0 su rd (j + 1) (doneStep _ k)
    generalize (rd.take j).foldl doneStep (rd.foldl outG g0, []) = st at I
    obtain ⟨hkt, hkd⟩ := mem_take_drop nd hk
    unfold doneStep
    rw [I.sus k]
    have hn1 : (modG k (fun q => (-2, q.2)) st.1).map (·.1) = g0.map (·.1) := (modG_names _ _ _).trans I.names
    have hs1 : ∀ p, suG (modG k (fun q => (-2, q.2)) st.1) p = su p := fun p => (suG_mod (f := fun q => (-2, q.2)) fun _ => rfl).trans (I.sus p)
    have hself : NP (modG k (fun q => (-2, q.2)) st.1) k = -2 := NP_mod_self (by rw [I.names]; exact hrd k hkm)
    have hoth : ∀ p, p ≠ k → NP (modG k (fun q => (-2, q.2)) st.1) p = NP st.1 p := fun p hp => NP_mod hp
    generalize modG k (fun q => (-2, q.2)) st.1 = g1 at hn1 hs1 hself hoth
    have Dd := decI_fold (su k) g1 st.2 (fun y hy => by rw [hn1]; exact (hsu k hkm y hy).1)
    generalize (su k).foldl decG (g1, st.2) = st' at Dd
    have hflat : (rd.take (j + 1)).flatMap su = (rd.take j).flatMap su ++ su k := by rw [take_snoc hk, List.flatMap_append]; simp
    have hcz : ∀ m ∈ rd, (su k).count m = 0 := fun m hm => List.count_eq_zero.mpr fun h => (hsu k hkm m h).2 hm
    have hrdn : ∀ m ∈ rd, m ∈ g1.map (·.1) := fun m hm => by rw [hn1]; exact hrd m hm
    refine ⟨Dd.names.trans hn1, fun p => (Dd.su p).trans (hs1 p), fun y hy hyr => ?_, fun m hm => ?_, fun m hm => ?_, fun y => ?_, Dd.nd I.nd fun y hy => ?_⟩
    · rw [Dd.np y (by rw [hn1]; exact hy), hoth y (by rintro rfl; exact hyr hkm), I.oth y hy hyr, hflat, List.count_append]; omega
    · rw [take_snoc hk] at hm
      rcases List.mem_append.mp hm with hm | hm
      · have hmr := List.mem_of_mem_take hm
        rw [Dd.np m (hrdn m hmr), hcz m hmr, hoth m (fun e => hkt (e ▸ hm)), I.past m hm]; rfl
      · rw [List.mem_singleton] at hm
        subst hm
        rw [Dd.np m (hrdn m hkm), hcz m hkm, hself]; rfl
    · have hmr := List.mem_of_mem_drop hm
      rw [Dd.np m (hrdn m hmr), hcz m hmr, hoth m (fun e => hkd (e ▸ hm)), I.left m (by rw [drop_cons hk]; exact .tail _ hm)]; rfl
    · rw [Dd.mem y, I.mem y, hn1, hflat, List.count_append]
      by_cases hyr : y ∈ rd
      · have h0 : NP g1 y ≤ 0 := by
          by_cases e : y = k
          · subst e; omega
          · rw [hoth y e]
            by_cases ht : y ∈ rd.take j
            · rw [I.past y ht]; decide
            · have : y ∈ rd.drop j := by
                have h2 : y ∈ rd.take j ++ rd.drop j := by rw [List.take_append_drop]; exact hyr
                exact (List.mem_append.mp h2).resolve_left ht
              rw [I.left y this]; decide
        constructor
        · rintro (⟨_, h1, _⟩ | ⟨_, h1, _⟩)
          · exact absurd hyr h1
          · omega
        · rintro ⟨_, h1, _⟩; exact absurd hyr h1
      · have hyk : y ≠ k := by rintro rfl; exact hyr hkm
        rw [hoth y hyk]
        constructor
        · rintro (⟨h1, h2, h3, h4⟩ | ⟨h1, h2, h3⟩)
          · exact ⟨h1, h2, h3, by omega⟩
          · rw [I.oth y h1 hyr] at h2 h3
            exact ⟨h1, hyr, by omega, by omega⟩
        · rintro ⟨h1, h2, h3, h4⟩
          by_cases h5 : NP g0 y ≤ ((rd.take j).flatMap su).count y
          · exact .inl ⟨h1, h2, h3, h5⟩
          · refine .inr ⟨h1, ?_, ?_⟩ <;> rw [I.oth y h1 hyr] <;> omega
    · obtain ⟨h1, h2, h3, h4⟩ := (I.mem y).mp hy
      rw [hoth y (by rintro rfl; exact h2 hkm), I.oth y h1 h2]; omega
noncomputable def dn (W : Str → List Str) : Nat → Str → Bool
  | 0, _ => false
  | i + 1, x => (W x).all (dn W i)
section
variable {W : Str → List Str} {N : List Str} {G : GS}
theorem dn_succ {i : Nat} {x : Str} : dn W (i + 1) x = true ↔ ∀ y ∈ W x, dn W i y = true := List.all_eq_true
theorem dn_mono1 : ∀ (i : Nat) (x : Str), dn W i x = true → dn W (i + 1) x = true
  | 0, x, h => nomatch h
  | i + 1, x, h => dn_succ.mpr fun y hy => dn_mono1 i y (dn_succ.mp h y hy)
theorem dn_mono {i j : Nat} {x : Str} (h : i ≤ j) (hx : dn W i x = true) : dn W j x = true := by
  induction h with
  | refl => exact hx
  | step _ ih => exact dn_mono1 _ _ ih
theorem dn_congr {W' : Str → List Str} (h : ∀ x y, y ∈ W x ↔ y ∈ W' x) : ∀ i x, dn W i x = dn W' i x
  | 0, x => rfl
  | i + 1, x => by
    rw [Bool.eq_iff_iff, dn_succ, dn_succ]
    constructor
    · intro k y hy; rw [← dn_congr h i y]; exact k y ((h x y).mpr hy)
    · intro k y hy; rw [dn_congr h i y]; exact k y ((h x y).mp hy)

structure GOk (W : Str → List Str) (N : List Str) (G : GS) : Prop where
  nd : (G.map (·.1)).Nodup
  mem : ∀ x, x ∈ G.map (·.1) ↔ x ∈ N
  np : ∀ x ∈ N, NP G x = (W x).length
  su : ∀ p x, x ∈ N → (suG G p).count x = (W x).count p
  sub : ∀ p, ∀ x ∈ suG G p, x ∈ N
  cl : ∀ x ∈ N, ∀ y ∈ W x, y ∈ N
theorem GOk.inSu (g : GOk W N G) {p x : Str} : x ∈ suG G p ↔ x ∈ N ∧ p ∈ W x := by
  constructor
  · intro h
    have hx := g.sub p x h
    refine ⟨hx, ?_⟩
    have := List.count_pos_iff.mpr h
    rw [g.su p x hx] at this
    exact List.count_pos_iff.mp this
  · rintro ⟨hx, hp⟩
    have := List.count_pos_iff.mpr hp
    rw [← g.su p x hx] at this
    exact List.count_pos_iff.mp this

structure RI (W : Str → List Str) (N : List Str) (G : GS) (i : Nat) (st : GS × List Str) : Prop where
  names : st.1.map (·.1) = G.map (·.1)
  sus : ∀ p, suG st.1 p = suG G p
  nd : st.2.Nodup
  mem : ∀ x, x ∈ st.2 ↔ x ∈ N ∧ dn W (i + 1) x = true ∧ dn W i x = false
  np : ∀ x ∈ N, dn W i x = false → NP st.1 x = (W x).countP (fun p => !dn W i p)
  neg : ∀ x ∈ N, dn W i x = true → NP st.1 x < 0

theorem mem_rdy0 : ∀ {g : GS}, (g.map (·.1)).Nodup → ∀ x, x ∈ rdy0 g ↔ x ∈ g.map (·.1) ∧ NP g x = 0
  | [], _, x => by simp [rdy0]
  | (n, q) :: g, nd, x => by
    rw [List.map_cons, List.nodup_cons] at nd
    have ih := mem_rdy0 nd.2 x
    have e : rdy0 ((n, q) :: g) = (if q.1 == 0 then [n] else []) ++ rdy0 g := by
      unfold rdy0
      rw [List.filter_cons]
      cases hq : (q.1 == 0) <;> simp [hq]
    rw [e, List.mem_append, ih]
    by_cases hx : x = n
    · subst hx
      have h1 : NP ((x, q) :: g) x = q.1 := by unfold NP; simp [List.lookup]
      have h2 : x ∉ g.map (·.1) := nd.1
      rw [h1]
      by_cases hq : q.1 = 0
      · simp [hq]
      · have hq2 : (q.1 == 0) = false := by simpa using hq
        rw [hq2]
        constructor
        · rintro (h | h)
          · cases h
          · exact absurd h.1 h2
        · rintro ⟨_, h⟩; exact absurd h hq
    · have hb : (x == n) = false := by simpa using hx
      have h1 : NP ((n, q) :: g) x = NP g x := by unfold NP; simp [List.lookup, hb]
      rw [h1]
      have h3 : x ∉ (if q.1 == 0 then [n] else []) := by split <;> simp [hx]
      simp only [h3, false_or, List.map_cons, List.mem_cons, hx]
theorem rdy0_nd {g : GS} (nd : (g.map (·.1)).Nodup) : (rdy0 g).Nodup := by
  unfold rdy0
  exact nd.sublist ((List.filter_sublist).map _)
theorem ri_zero (g : GOk W N G) : RI W N G 0 (G, rdy0 G) where
  names := rfl
  sus := fun _ => rfl
  nd := rdy0_nd g.nd
  mem := fun x => by
    rw [mem_rdy0 g.nd, g.mem]
    constructor
    · rintro ⟨hx, h⟩
      refine ⟨hx, dn_succ.mpr fun y hy => ?_, rfl⟩
      rw [g.np x hx] at h
      have : (W x).length = 0 := by omega
      rw [List.length_eq_zero_iff] at this
      rw [this] at hy; cases hy
    · rintro ⟨hx, h, _⟩
      refine ⟨hx, ?_⟩
      rw [g.np x hx]
      have : W x = [] := by
        cases hw : W x with
        | nil => rfl
        | cons a r => exact absurd (dn_succ.mp h a (by rw [hw]; exact .head _)) (by simp [dn])
      rw [this]; rfl
  np := fun x hx _ => by
    rw [g.np x hx]
    have : (W x).countP (fun p => !dn W 0 p) = (W x).length := by rw [List.countP_eq_length]; intro a _; rfl
    rw [this]
  neg := fun x _ h => nomatch h

theorem countP_cons_mem {k : Str} {rd : List Str} (hk : k ∉ rd) : ∀ l : List Str, l.countP (fun p => decide (p ∈ k :: rd)) = l.count k + l.countP (fun p => decide (p ∈ rd))
  | [] => rfl
  | a :: l => by
    rw [List.countP_cons, List.countP_cons, List.count_cons, countP_cons_mem hk l]
    by_cases e : a = k
    · subst e; simp [hk]; omega
    · have : (a == k) = false := by simpa using e
      simp only [List.mem_cons, e, false_or, this, Bool.false_eq_true, if_false]; omega
theorem count_flat (g : GOk W N G) {x : Str} (hx : x ∈ N) : ∀ {rd : List Str}, rd.Nodup → (rd.flatMap (suG G)).count x = (W x).countP (fun p => decide (p ∈ rd))
  | [], _ => by simp
  | k :: rd, nd => by
    rw [List.nodup_cons] at nd
    rw [List.flatMap_cons, List.count_append, count_flat g hx nd.2, countP_cons_mem nd.1, g.su k x hx]
theorem countP_split {i : Nat} {st : GS × List Str} (I : RI W N G i st) : ∀ l : List Str, (∀ p ∈ l, p ∈ N) → l.countP (fun p => !dn W i p) = l.countP (fun p => decide (p ∈ st.2)) + l.countP (fun p => !dn W (i + 1) p)
  | [], _ => rfl
  | a :: l, h => by
    rw [List.countP_cons, List.countP_cons, List.countP_cons, countP_split I l fun p hp => h p (.tail _ hp)]
    have ha := h a (.head _)
    cases h1 : dn W i a with
    | true =>
      have h2 := dn_mono1 _ _ h1
      have h3 : a ∉ st.2 := fun hm => by have := ((I.mem a).mp hm).2.2; rw [h1] at this; cases this
      simp [h2, h3]
    | false =>
      cases h2 : dn W (i + 1) a with
      | true =>
        have h3 : a ∈ st.2 := (I.mem a).mpr ⟨ha, h2, h1⟩
        simp [h3]; omega
      | false =>
        have h3 : a ∉ st.2 := fun hm => by have := ((I.mem a).mp hm).2.1; rw [h2] at this; cases this
        simp [h3]; omega

theorem RI.apart (g : GOk W N G) {i : Nat} {st : GS × List Str} (I : RI W N G i st) : ∀ m ∈ st.2, ∀ y ∈ suG G m, y ∈ st.1.map (·.1) ∧ y ∉ st.2 := by
  intro m hm y hy
  obtain ⟨hyN, hmy⟩ := g.inSu.mp hy
  refine ⟨by rw [I.names, g.mem]; exact hyN, fun h => ?_⟩
  have h1 := ((I.mem m).mp hm).2.2
  have h2 := dn_succ.mp ((I.mem y).mp h).2.1 m hmy
  rw [h1] at h2; cases h2
theorem RI.done (g : GOk W N G) {i : Nat} {st : GS × List Str} (I : RI W N G i st) (j : Nat) (hj : j ≤ st.2.length) : DoneI st.1 (suG G) st.2 j ((st.2.take j).foldl doneStep (st.2.foldl outG st.1, [])) :=
  done_all I.nd (fun m hm => by rw [I.names, g.mem]; exact ((I.mem m).mp hm).1) I.sus (I.apart g) j hj
theorem ri_step (g : GOk W N G) {i : Nat} {st : GS × List Str} (I : RI W N G i st) : RI W N G (i + 1) (stepG st) := by
  have Dn := I.done g st.2.length (Nat.le_refl _)
  rw [List.take_length] at Dn
  show RI W N G (i + 1) (st.2.foldl doneStep (st.2.foldl outG st.1, []))
  generalize st.2.foldl doneStep (st.2.foldl outG st.1, []) = st' at Dn
  have hin : ∀ x, x ∈ st.1.map (·.1) ↔ x ∈ N := fun x => by rw [I.names, g.mem]
  have hnp : ∀ x ∈ N, dn W (i + 1) x = false → dn W i x = false ∧ x ∉ st.2 ∧ NP st.1 x - ((st.2).flatMap (suG G)).count x = (W x).countP (fun p => !dn W (i + 1) p) := by
    intro x hx h
    have h1 : dn W i x = false := by
      cases e : dn W i x with
      | false => rfl
      | true => rw [dn_mono1 _ _ e] at h; cases h
    refine ⟨h1, fun hm => ?_, ?_⟩
    · have := ((I.mem x).mp hm).2.1; rw [h] at this; cases this
    · rw [I.np x hx h1, count_flat g hx I.nd, countP_split I (W x) (g.cl x hx)]; omega
  have oth := Dn.oth
  rw [List.take_length] at oth
  have past := Dn.past
  rw [List.take_length] at past
  have mem := Dn.mem
  rw [List.take_length] at mem
  refine ⟨Dn.names.trans I.names, Dn.sus, Dn.nd, fun x => ?_, fun x hx h => ?_, fun x hx h => ?_⟩
  · rw [mem x, hin]
    constructor
    · rintro ⟨hx, hr, h1, h2⟩
      have h3 : dn W i x = false := by
        cases e : dn W i x with
        | false => rfl
        | true => have := I.neg x hx e; omega
      have h4 : dn W (i + 1) x = false := by
        cases e : dn W (i + 1) x with
        | false => rfl
        | true => exact absurd ((I.mem x).mpr ⟨hx, e, h3⟩) hr
      obtain ⟨_, _, h5⟩ := hnp x hx h4
      refine ⟨hx, dn_succ.mpr fun y hy => ?_, h4⟩
      have h6 : (W x).countP (fun p => !dn W (i + 1) p) = 0 := by omega
      rw [List.countP_eq_zero] at h6
      have := h6 y hy
      simpa using this
    · rintro ⟨hx, h1, h2⟩
      obtain ⟨h3, h4, h5⟩ := hnp x hx h2
      have h6 : (W x).countP (fun p => !dn W (i + 1) p) = 0 := by
        rw [List.countP_eq_zero]
        intro a ha
        rw [dn_succ.mp h1 a ha]; simp
      have h7 : 0 < (W x).countP (fun p => !dn W i p) := by
        rw [List.countP_pos_iff]
        refine Classical.byContradiction fun hc => ?_
        have : dn W (i + 1) x = true := dn_succ.mpr fun y hy => by
          cases e : dn W i y with
          | true => rfl
          | false => exact absurd ⟨y, hy, by simp [e]⟩ hc
        rw [h2] at this; cases this
      have h8 := I.np x hx h3
      exact ⟨hx, h4, by omega, by omega⟩
  · obtain ⟨h3, h4, h5⟩ := hnp x hx h
    rw [oth x ((hin x).mpr hx) h4, h5]
  · by_cases hr : x ∈ st.2
    · rw [past x hr]; decide
    · have h1 : dn W i x = true := by
        cases e : dn W i x with
        | true => rfl
        | false => exact absurd ((I.mem x).mpr ⟨hx, h, e⟩) hr
      rw [oth x ((hin x).mpr hx) hr]
      have := I.neg x hx h1
      omega
theorem ri_all (g : GOk W N G) : ∀ i, RI W N G i (itG i (G, rdy0 G))
  | 0 => ri_zero g
  | i + 1 => ri_step g (ri_all g i)
theorem ok_all (g : GOk W N G) (hN : N.length ≤ 90) (i : Nat) : Ok1 (itG i (G, rdy0 G)) := by
  have I := ri_all g i
  generalize itG i (G, rdy0 G) = st at I
  have hin : ∀ x, x ∈ st.1.map (·.1) ↔ x ∈ N := fun x => by rw [I.names, g.mem]
  refine ⟨fun k hk => (hin k).mpr ((I.mem k).mp hk).1, ?_, fun j k hk => ?_, fun j => ?_⟩
  · exact Nat.le_trans (List.Nodup.length_le_of_subset I.nd fun x hx => ((I.mem x).mp hx).1) hN
  · have hj : j < st.2.length := (List.getElem?_eq_some_iff.mp hk).1
    have Dn := I.done g j (by omega)
    have hkm : k ∈ st.2 := List.mem_of_getElem? hk
    rw [npG_of (by rw [Dn.names]; exact (hin k).mpr ((I.mem k).mp hkm).1), Dn.left k (by rw [drop_cons hk]; exact .head _)]
  · have : ∃ j', j' ≤ st.2.length ∧ st.2.take j = st.2.take j' := by
      rcases Nat.le_total j st.2.length with h | h
      · exact ⟨j, h, rfl⟩
      · exact ⟨st.2.length, Nat.le_refl _, by rw [List.take_of_length_le h, List.take_length]⟩
    obtain ⟨j', hj', e⟩ := this
    rw [e]
    have Dn := I.done g j' hj'
    have := List.Nodup.length_le_of_subset Dn.nd fun x hx => (hin x).mp ((Dn.mem x).mp hx).1
    omega
end
theorem lookup_app (g : GS) (k p : Str) (v : Int × List Str) : (g ++ [(k, v)]).lookup p = match g.lookup p with | some q => some q | none => if p = k then some v else none := by
  rw [List.lookup_append]
  cases g.lookup p with
  | some q => rfl
  | none =>
    simp only [Option.none_or]
    by_cases h : p = k
    · subst h; simp [List.lookup]
    · have hb : (p == k) = false := by simpa using h
      simp [List.lookup, hb, h]
theorem NP_ens (k : Str) (g : GS) (p : Str) : NP (ensG k g) p = NP g p := by
  unfold ensG
  split
  · rfl
  · unfold NP; rw [lookup_app]; cases g.lookup p with
    | some q => rfl
    | none => simp; split <;> rfl
theorem suG_ens (k : Str) (g : GS) (p : Str) : suG (ensG k g) p = suG g p := by
  unfold ensG
  split
  · rfl
  · unfold suG; rw [lookup_app]; cases g.lookup p with
    | some q => rfl
    | none => simp; split <;> rfl
theorem ens_mem (k : Str) (g : GS) (x : Str) : x ∈ (ensG k g).map (·.1) ↔ x ∈ g.map (·.1) ∨ x = k := by
  unfold ensG
  split
  · rename_i h
    constructor
    · exact .inl
    · rintro (h1 | rfl)
      · exact h1
      · exact h
  · rw [List.map_append, List.mem_append]; simp
theorem ens_nd (k : Str) (g : GS) (h : (g.map (·.1)).Nodup) : ((ensG k g).map (·.1)).Nodup := by
  unfold ensG
  split
  · exact h
  · rename_i hk
    rw [List.map_append]
    refine List.nodup_append.mpr ⟨h, by simp, fun a ha b hb => ?_⟩
    simp at hb; subst hb
    rintro rfl; exact hk ha
theorem NP_keep {k : Str} {f : Int × List Str → Int × List Str} (hf : ∀ q, (f q).1 = q.1) (g : GS) (p : Str) : NP (modG k f g) p = NP g p := by
  unfold NP; rw [lookup_modG]; cases g.lookup p with
  | none => rfl
  | some q => simp only [Option.map_some, Option.getD_some]; split <;> simp [hf]
theorem suG_at {k : Str} {f : Int × List Str → Int × List Str} {g : GS} (h : k ∈ g.map (·.1)) (p : Str) : suG (modG k f g) p = if p = k then (f (NP g k, suG g k)).2 else suG g p := by
  by_cases e : p = k
  · subst e
    obtain ⟨q, hq⟩ := Option.isSome_iff_exists.mp (lookup_isSome.mpr h)
    unfold suG NP; rw [lookup_modG, hq]; simp
  · rw [if_neg e]; unfold suG; rw [lookup_modG]; cases g.lookup p <;> simp [e]

structure PredI (k : Str) (ps : List Str) (g g' : GS) : Prop where
  np : ∀ x, NP g' x = NP g x
  su : ∀ x y, (suG g' x).count y = (suG g x).count y + if y = k then ps.count x else 0
  mem : ∀ x, x ∈ g'.map (·.1) ↔ x ∈ g.map (·.1) ∨ x ∈ ps
  nd : (g.map (·.1)).Nodup → (g'.map (·.1)).Nodup
theorem pred_fold (k : Str) : ∀ (ps : List Str) (g : GS), PredI k ps g (ps.foldl (predG k) g)
  | [], g => ⟨fun _ => rfl, fun x y => by simp, fun x => by simp, fun h => h⟩
  | p :: ps, g => by
    have I := pred_fold k ps (predG k g p)
    have hp : p ∈ (ensG p g).map (·.1) := (ens_mem p g p).mpr (.inr rfl)
    have h1 : ∀ x, NP (predG k g p) x = NP g x := fun x => by unfold predG; rw [NP_keep (f := fun q => (q.1, q.2 ++ [k])) (fun _ => rfl), NP_ens]
    have h2 : ∀ x, suG (predG k g p) x = if x = p then suG g p ++ [k] else suG g x := fun x => by
      unfold predG; rw [suG_at hp, suG_ens, suG_ens]
    have h3 : ∀ x, x ∈ (predG k g p).map (·.1) ↔ x ∈ g.map (·.1) ∨ x = p := fun x => by unfold predG; rw [modG_names, ens_mem]
    rw [List.foldl_cons]
    refine ⟨fun x => (I.np x).trans (h1 x), fun x y => ?_, fun x => ?_, fun h => I.nd ?_⟩
    · rw [I.su x y, h2 x, List.count_cons]
      by_cases e : x = p
      · subst e
        rw [if_pos rfl, List.count_append, List.count_singleton]
        by_cases e2 : y = k
        · subst e2; simp; omega
        · have : (k == y) = false := by simpa using Ne.symm e2
          simp [e2, this]
      · rw [if_neg e]
        have : (p == x) = false := by simpa using Ne.symm e
        simp [this]
    · rw [I.mem x, h3 x, List.mem_cons, or_assoc]
    · unfold predG; rw [modG_names]; exact ens_nd _ _ h
structure AddI (k : Str) (ps : List Str) (g g' : GS) : Prop where
  np : ∀ x, NP g' x = NP g x + if x = k then (ps.length : Int) else 0
  su : ∀ x y, (suG g' x).count y = (suG g x).count y + if y = k then ps.count x else 0
  mem : ∀ x, x ∈ g'.map (·.1) ↔ x ∈ g.map (·.1) ∨ x = k ∨ x ∈ ps
  nd : (g.map (·.1)).Nodup → (g'.map (·.1)).Nodup
theorem add_one (k : Str) (ps : List Str) (g : GS) : AddI k ps g (addG k ps g) := by
  have I := pred_fold k ps (modG k (fun q => (q.1 + ps.length, q.2)) (ensG k g))
  have hk : k ∈ (ensG k g).map (·.1) := (ens_mem k g k).mpr (.inr rfl)
  unfold addG
  refine ⟨fun x => ?_, fun x y => ?_, fun x => ?_, fun h => I.nd ?_⟩
  · rw [I.np x]
    by_cases e : x = k
    · subst e; rw [if_pos rfl, NP_mod_self hk, NP_ens]
    · rw [if_neg e, NP_mod e, NP_ens]; omega
  · rw [I.su x y, suG_mod (f := fun q => (q.1 + ps.length, q.2)) (fun _ => rfl), suG_ens]
  · rw [I.mem x, modG_names, ens_mem, or_assoc]
  · rw [modG_names]; exact ens_nd _ _ h
noncomputable def addP (R : List (Str × List Str)) (g : GS) : GS := R.foldl (fun g p => addG p.1 p.2 g) g
theorem addAll_addP (rs : List Rw) (g : GS) : addAll rs g = addP (rs.map fun r => (r.nm, r.ws)) g := by
  unfold addAll addP; rw [List.foldl_map]
theorem wOf_none {R : List (Str × List Str)} {x : Str} (h : x ∉ R.map (·.1)) : wOf R x = [] := by
  unfold wOf
  have : R.lookup x = none := by
    rw [List.lookup_eq_none_iff]
    intro p hp
    have : p.1 ≠ x := fun e => h (e ▸ List.mem_map_of_mem hp)
    simpa using Ne.symm this
  rw [this]; rfl
theorem wOf_cons {p : Str × List Str} {R : List (Str × List Str)} {x : Str} : wOf (p :: R) x = if x = p.1 then p.2 else wOf R x := by
  obtain ⟨k, ws⟩ := p
  unfold wOf
  by_cases e : x = k
  · subst e; simp [List.lookup]
  · have : (x == k) = false := by simpa using e
    simp [List.lookup, this, e]
structure AllI (R : List (Str × List Str)) (g g' : GS) : Prop where
  np : ∀ x, NP g' x = NP g x + ((wOf R x).length : Int)
  su : ∀ x y, (suG g' x).count y = (suG g x).count y + (wOf R y).count x
  mem : ∀ x, x ∈ g'.map (·.1) ↔ x ∈ g.map (·.1) ∨ x ∈ R.map (·.1) ∨ ∃ p ∈ R, x ∈ p.2
  nd : (g.map (·.1)).Nodup → (g'.map (·.1)).Nodup
theorem add_all : ∀ (R : List (Str × List Str)) (g : GS), (R.map (·.1)).Nodup → AllI R g (addP R g)
  | [], g, _ => ⟨fun x => by simp [addP, wOf], fun x y => by simp [addP, wOf], fun x => by simp [addP], fun h => h⟩
  | p :: R, g, nd => by
    rw [List.map_cons, List.nodup_cons] at nd
    have O := add_one p.1 p.2 g
    have I := add_all R (addG p.1 p.2 g) nd.2
    show AllI (p :: R) g (addP R (addG p.1 p.2 g))
    refine ⟨fun x => ?_, fun x y => ?_, fun x => ?_, fun h => I.nd (O.nd h)⟩
    · rw [I.np x, O.np x, wOf_cons]
      by_cases e : x = p.1
      · subst e; rw [if_pos rfl, if_pos rfl, wOf_none nd.1]; simp
      · rw [if_neg e, if_neg e]; omega
    · rw [I.su x y, O.su x y, wOf_cons]
      by_cases e : y = p.1
      · subst e; rw [if_pos rfl, if_pos rfl, wOf_none nd.1]; simp
      · rw [if_neg e, if_neg e]; omega
    · rw [I.mem x, O.mem x]
      simp only [List.map_cons, List.mem_cons]
      constructor
      · rintro ((h | h | h) | h | ⟨q, hq, h⟩)
        · exact .inl h
        · exact .inr (.inl (.inl h))
        · exact .inr (.inr ⟨p, .inl rfl, h⟩)
        · exact .inr (.inl (.inr h))
        · exact .inr (.inr ⟨q, .inr hq, h⟩)
      · rintro (h | (h | h) | ⟨q, rfl | hq, h⟩)
        · exact .inl (.inl h)
        · exact .inl (.inr (.inl h))
        · exact .inr (.inl h)
        · exact .inl (.inr (.inr h))
        · exact .inr (.inr ⟨q, hq, h⟩)
theorem gok_rows {R : List (Str × List Str)} (nd : (R.map (·.1)).Nodup) (cl : ∀ p ∈ R, ∀ y ∈ p.2, y ∈ R.map (·.1)) : GOk (wOf R) (R.map (·.1)) (addP R []) := by
  have I := add_all R [] nd
  have hw : ∀ x y, y ∈ wOf R x → x ∈ R.map (·.1) := fun x y h => Classical.byContradiction fun hc => by rw [wOf_none hc] at h; cases h
  have hwc : ∀ x, ∀ y ∈ wOf R x, y ∈ R.map (·.1) := fun x y hy => by
    unfold wOf at hy
    cases hl : R.lookup x with
    | none => rw [hl] at hy; cases hy
    | some ws =>
      rw [hl] at hy
      have hm : (x, ws) ∈ R := by
        clear I cl nd hw hy
        induction R with
        | nil => cases hl
        | cons a R ih =>
          obtain ⟨k, v⟩ := a
          by_cases e : x = k
          · subst e; simp [List.lookup] at hl; subst hl; exact .head _
          · have : (x == k) = false := by simpa using e
            simp [List.lookup, this] at hl
            exact .tail _ (ih hl)
      exact cl _ hm y hy
  refine ⟨I.nd (by simp), fun x => ?_, fun x hx => ?_, fun p x hx => ?_, fun p x hx => ?_, fun x hx y hy => hwc x y hy⟩
  · rw [I.mem x]
    constructor
    · rintro (h | h | ⟨p, hp, h⟩)
      · cases h
      · exact h
      · exact cl p hp x h
    · exact fun h => .inr (.inl h)
  · rw [I.np x]; simp [NP]
  · rw [I.su p x]; simp [suG]
  · have h1 := List.count_pos_iff.mpr hx
    rw [I.su p x] at h1
    have h2 : 0 < (wOf R x).count p := by simpa [suG] using h1
    exact hw x p (List.count_pos_iff.mp h2)

section
variable {W : Str → List Str} {N : List Str} {G : GS}
theorem rch_dn (g : GOk W N G) {m n : Str} (h : Rch (suG G) m n) : ∀ i, dn W (i + 1) n = true → dn W i m = true := by
  induction h with
  | one h => intro i hi; exact dn_succ.mp hi _ (g.inSu.mp h).2
  | step h _ ih =>
    intro i hi
    have h1 := ih i hi
    cases i with
    | zero => cases h1
    | succ i => exact dn_mono1 _ _ (dn_succ.mp h1 _ (g.inSu.mp h).2)
theorem ring_dn (g : GOk W N G) {c : Str} (h : Rch (suG G) c c) : ∀ i, dn W i c = false
  | 0 => rfl
  | i + 1 => by
    cases e : dn W (i + 1) c with
    | false => rfl
    | true => have := rch_dn g h i e; rw [ring_dn g h i] at this; cases this
theorem fin_dn (g : GOk W N G) {fin : List Str} (h : FinOk (suG G) fin) (hN : ∀ k ∈ N, k ∈ fin) (hl : fin.length ≤ 6) : ∀ n ∈ N, dn W 6 n = true := by
  obtain ⟨r, h1, h2⟩ := h.rank
  have key : ∀ k, ∀ n ∈ N, 6 ≤ r n + k → dn W k n = true := by
    intro k
    induction k with
    | zero => intro n hn h; have := h1 n (hN n hn); omega
    | succ k ih =>
      intro n hn h
      refine dn_succ.mpr fun y hy => ih y (g.cl n hn y hy) ?_
      have := (h2 y (hN y (g.cl n hn y hy)) n (g.inSu.mpr ⟨hn, hy⟩)).2
      omega
  exact fun n hn => key 6 n hn (by omega)
theorem refused_iff (g : GOk W N G) {b : Bool} (h1 : b = true → ∃ c ∈ G.map (·.1), Rch (suG G) c c) (h2 : b = false → ∃ fin, FinOk (suG G) fin ∧ (∀ k ∈ G.map (·.1), k ∈ fin) ∧ fin.length ≤ G.length) (hl : G.length ≤ 6) :
    b = true ↔ ∃ n ∈ N, dn W 7 n = false := by
  constructor
  · intro hb
    obtain ⟨c, hc, hr⟩ := h1 hb
    exact ⟨c, (g.mem c).mp hc, ring_dn g hr 7⟩
  · rintro ⟨n, hn, hd⟩
    cases b with
    | true => rfl
    | false =>
      obtain ⟨fin, f1, f2, f3⟩ := h2 rfl
      have := dn_mono1 _ _ (fin_dn g f1 (fun k hk => f2 k ((g.mem k).mpr hk)) (by omega) n hn)
      rw [hd] at this; cases this
end

theorem lev_nonneg (W : List (Str × List Str)) : ∀ j n, 0 ≤ lev W j n
  | 0, n => Int.le_refl _
  | j + 1, n => (mx_fold _ 0).1
theorem mx_le {xs : List Int} {M : Int} (h0 : 0 ≤ M) : mx xs ≤ M ↔ ∀ a ∈ xs, a ≤ M := by
  obtain ⟨h1, h2, h3⟩ := mx_fold xs 0
  constructor
  · intro h a ha; have := h2 a ha; unfold mx at h; omega
  · intro h
    rcases List.mem_cons.mp h3 with h4 | h4
    · unfold mx; omega
    · exact h _ h4
theorem lev_dn (W : List (Str × List Str)) : ∀ (j i : Nat) (n : Str), i < j → (lev W j n ≤ (i : Int) ↔ dn (wOf W) (i + 1) n = true)
  | 0, i, n, h => absurd h (Nat.not_lt_zero _)
  | j + 1, i, n, h => by
    rw [lev, mx_le (by omega), dn_succ]
    simp only [List.mem_map, forall_exists_index, and_imp, forall_apply_eq_imp_iff₂]
    cases i with
    | zero =>
      constructor
      · intro k y hy
        have := k y hy
        have := lev_nonneg W j y
        omega
      · intro k y hy
        exact absurd (k y hy) (by simp [dn])
    | succ i =>
      constructor
      · intro k y hy
        refine (lev_dn W j i y (by omega)).mp ?_
        have := k y hy
        omega
      · intro k y hy
        have := (lev_dn W j i y (by omega)).mpr (k y hy)
        omega
theorem lev_eq (W : List (Str × List Str)) {j i : Nat} {n : Str} (h : i < j) : lev W j n = (i : Int) ↔ dn (wOf W) (i + 1) n = true ∧ dn (wOf W) i n = false := by
  have h0 := lev_nonneg W j n
  cases i with
  | zero =>
    rw [← lev_dn W j 0 n h]
    simp only [dn, and_true]
    omega
  | succ i =>
    rw [← lev_dn W j (i + 1) n h]
    have := lev_dn W j i n (by omega)
    have h2 : dn (wOf W) (i + 1) n = false ↔ ¬ (lev W j n ≤ (i : Int)) := by rw [this]; simp
    rw [h2]
    omega
noncomputable def rmS : List Str → List Str → Option (List Str)
  | [], t => some t
  | x :: r, t => if x ∈ t then rmS r (t.erase x) else none
theorem map_eraseP_snd (x : Str) : ∀ B : List (Addr × Str), (B.eraseP fun q => q.2 == x).map (·.2) = (B.map (·.2)).erase x
  | [] => rfl
  | q :: B => by
    rw [List.map_cons, List.erase_cons, List.eraseP_cons]
    cases h : (q.2 == x) with
    | true => simp
    | false => simp; exact map_eraseP_snd x B
theorem rmAll_rmS : ∀ A B : List (Addr × Str), (rmAll A B).map (·.map (·.2)) = rmS (A.map (·.2)) (B.map (·.2))
  | [], B => rfl
  | p :: A, B => by
    rw [rmAll, List.map_cons, rmS]
    have h : (B.any (fun q => q.2 == p.2)) = decide (p.2 ∈ B.map (·.2)) := by
      rw [Bool.eq_iff_iff, List.any_eq_true, decide_eq_true_eq, List.mem_map]
      constructor
      · rintro ⟨q, hq, e⟩; exact ⟨q, hq, by simpa using e⟩
      · rintro ⟨q, hq, e⟩; exact ⟨q, hq, by simpa using e⟩
    rw [h]
    by_cases hm : p.2 ∈ B.map (·.2)
    · rw [decide_eq_true hm, if_pos rfl, if_pos hm, rmAll_rmS A, map_eraseP_snd]
    · rw [decide_eq_false hm, if_neg hm]; rfl
theorem rmS_iff : ∀ A B : List Str, A.Nodup → B.Nodup → (rmS A B = some [] ↔ ∀ x, x ∈ A ↔ x ∈ B)
  | [], B, _, _ => by
    rw [rmS]
    constructor
    · intro h x; rw [Option.some.inj h]
    · intro h
      cases B with
      | nil => rfl
      | cons b B => exact absurd ((h b).mpr (.head _)) (by simp)
  | a :: A, B, nA, nB => by
    rw [List.nodup_cons] at nA
    rw [rmS]
    by_cases hm : a ∈ B
    · rw [if_pos hm, rmS_iff A (B.erase a) nA.2 (nB.erase a)]
      have he : ∀ x, x ∈ B.erase a ↔ x ≠ a ∧ x ∈ B := fun x => nB.mem_erase_iff
      constructor
      · intro h x
        rw [List.mem_cons, h x, he x]
        by_cases e : x = a
        · subst e; simp [hm]
        · simp [e]
      · intro h x
        rw [he x, ← h x, List.mem_cons]
        by_cases e : x = a
        · subst e; simp [nA.1]
        · simp [e]
    · rw [if_neg hm]
      constructor
      · intro h; cases h
      · intro h; exact absurd ((h a).mp (.head _)) hm
theorem nub_snd : ∀ (r acc : List (Addr × Str)), (acc.map (·.2)).Nodup → ((nubK acc r).map (·.2)).Nodup ∧ ∀ x, x ∈ (nubK acc r).map (·.2) ↔ x ∈ acc.map (·.2) ∨ x ∈ r.map (·.2)
  | [], acc, nd => ⟨nd, fun x => by simp [nubK]⟩
  | p :: r, acc, nd => by
    have h : (acc.any (fun q => q.2 == p.2)) = decide (p.2 ∈ acc.map (·.2)) := by
      rw [Bool.eq_iff_iff, List.any_eq_true, decide_eq_true_eq, List.mem_map]
      constructor
      · rintro ⟨q, hq, e⟩; exact ⟨q, hq, by simpa using e⟩
      · rintro ⟨q, hq, e⟩; exact ⟨q, hq, by simpa using e⟩
    rw [nubK, h]
    by_cases hm : p.2 ∈ acc.map (·.2)
    · rw [decide_eq_true hm, if_pos rfl]
      obtain ⟨h1, h2⟩ := nub_snd r acc nd
      refine ⟨h1, fun x => ?_⟩
      rw [h2 x, List.map_cons, List.mem_cons]
      constructor
      · rintro (h | h)
        · exact .inl h
        · exact .inr (.inr h)
      · rintro (h | rfl | h)
        · exact .inl h
        · exact .inl hm
        · exact .inr h
    · rw [decide_eq_false hm]
      have nd' : ((acc ++ [p]).map (·.2)).Nodup := by
        rw [List.map_append]
        refine List.nodup_append.mpr ⟨nd, by simp, fun a ha b hb => ?_⟩
        simp at hb; subst hb
        rintro rfl; exact hm ha
      obtain ⟨h1, h2⟩ := nub_snd r (acc ++ [p]) nd'
      simp only [Bool.false_eq_true, if_false]
      refine ⟨h1, fun x => ?_⟩
      rw [h2 x, List.map_append, List.mem_append, List.map_cons, List.mem_cons, or_assoc]
      simp
theorem cmpO_iff (sg tg : List (Addr × Str)) : cmpO sg tg = true ↔ ∀ x, x ∈ sg.map (·.2) ↔ x ∈ tg.map (·.2) := by
  obtain ⟨n1, m1⟩ := nub_snd sg [] (by simp)
  obtain ⟨n2, m2⟩ := nub_snd tg [] (by simp)
  have h := rmS_iff _ _ n1 n2
  rw [← rmAll_rmS] at h
  have h3 : cmpO sg tg = true ↔ (rmAll (nubK [] sg) (nubK [] tg)).map (·.map (·.2)) = some [] := by
    unfold cmpO
    cases rmAll (nubK [] sg) (nubK [] tg) with
    | none => simp
    | some t => cases t <;> simp
  rw [h3, h]
  constructor
  · intro k x; have := k x; rw [m1, m2] at this; simpa using this
  · intro k x; rw [m1, m2]; simpa using k x

theorem empty_iff {r : Rn} {P : Str → Prop} (h : ∀ x, x ∈ stf r ↔ P x) : r.ps.isEmpty = true ↔ ∀ x, ¬ P x := by
  rw [List.isEmpty_iff]
  constructor
  · intro e x hx
    have := (h x).mpr hx
    unfold stf at this; rw [e] at this; cases this
  · intro k
    cases hp : r.ps with
    | nil => rfl
    | cons p ps => exact absurd ((h p.2).mp (by unfold stf; rw [hp]; exact .head _)) (k _)
theorem out_mem {S : Nat → Str → Prop} {rs : List Rn} (hr : ∀ i r, rs[i]? = some r → ∀ x, x ∈ stf r ↔ S i x) : ∀ i, i ≤ rs.length → ∀ x, x ∈ outS (rs.take i) ↔ ∃ j, j < i ∧ S j x
  | 0, _, x => by simp [outS]
  | i + 1, h, x => by
    obtain ⟨r, hri⟩ : ∃ r, rs[i]? = some r := ⟨_, List.getElem?_eq_getElem (by omega)⟩
    rw [outS_take hri, List.mem_append, out_mem hr i (by omega) x, hr i r hri x]
    constructor
    · rintro (⟨j, hj, h⟩ | h)
      · exact ⟨j, by omega, h⟩
      · exact ⟨i, by omega, h⟩
    · rintro ⟨j, hj, hx⟩
      by_cases e : j = i
      · exact .inr (e ▸ hx)
      · exact .inl ⟨j, by omega, hx⟩
theorem out_nd {S : Nat → Str → Prop} {rs : List Rn} (hS : ∀ i j x, S i x → S j x → i = j) (hr : ∀ i r, rs[i]? = some r → ∀ x, x ∈ stf r ↔ S i x) (hn : ∀ r ∈ rs, (stf r).Nodup) : ∀ i, i ≤ rs.length → (outS (rs.take i)).Nodup
  | 0, _ => by simp [outS]
  | i + 1, h => by
    obtain ⟨r, hri⟩ : ∃ r, rs[i]? = some r := ⟨_, List.getElem?_eq_getElem (by omega)⟩
    rw [outS_take hri]
    refine List.nodup_append.mpr ⟨out_nd hS hr hn i (by omega), hn r (List.mem_of_getElem? hri), fun a ha b hb => ?_⟩
    rintro rfl
    obtain ⟨j, hj, h1⟩ := (out_mem hr i (by omega) a).mp ha
    have := hS j i a h1 ((hr i r hri a).mp hb)
    omega
structure ToldOk (rs os ds : List Rn) : Prop where
  h0 : ∀ d e, ds[0]? = some d → ds[1]? = some e → cmpO d.ps (d.ps ++ e.ps) = e.ps.isEmpty ∧ cmpO (e.ps ++ d.ps) d.ps = e.ps.isEmpty
  hk : ∀ i r o d e, rs[i]? = some r → os[i]? = some o → ds[i]? = some d → ds[i + 1]? = some e → cmpO r.ps o.ps = true ∧ cmpO d.ps r.ps = true ∧ cmpO r.ps e.ps = (d.ps.isEmpty && e.ps.isEmpty)
  hnd : (outS rs).Nodup
  hsix : ∀ x ∈ outS rs, x ∈ six
  hmem : ∀ i, i ≤ 6 → ∀ x ∈ six, x ∈ outS (rs.take i) ↔ x ∈ outS (ds.take i)
theorem told_ok {S : Nat → Str → Prop} {rs os ds : List Rn} (hS : ∀ i j x, S i x → S j x → i = j) (hS6 : ∀ i x, S i x → x ∈ six)
    (hr : ∀ i r, rs[i]? = some r → ∀ x, x ∈ stf r ↔ S i x) (ho : ∀ i r, os[i]? = some r → ∀ x, x ∈ stf r ↔ S i x) (hd : ∀ i r, ds[i]? = some r → ∀ x, x ∈ stf r ↔ S i x)
    (hn : ∀ r ∈ rs, (stf r).Nodup) (l1 : rs.length = 6) (l3 : ds.length = 7) : ToldOk rs os ds where
  h0 := fun d e h1 h2 => by
    have k1 := hd 0 d h1
    have k2 := hd 1 e h2
    have m1 : ∀ x, x ∈ (d.ps ++ e.ps).map (·.2) ↔ S 0 x ∨ S 1 x := fun x => by rw [List.map_append, List.mem_append]; exact or_congr (k1 x) (k2 x)
    have m2 : ∀ x, x ∈ (e.ps ++ d.ps).map (·.2) ↔ S 0 x ∨ S 1 x := fun x => by rw [List.map_append, List.mem_append, or_comm]; exact or_congr (k1 x) (k2 x)
    have m3 : ∀ x, x ∈ d.ps.map (·.2) ↔ S 0 x := k1
    have key : (∀ x, S 0 x ↔ (S 0 x ∨ S 1 x)) ↔ ∀ x, ¬ S 1 x := by
      constructor
      · intro h x hx
        have := hS 0 1 x ((h x).mpr (.inr hx)) hx
        omega
      · intro h x
        exact ⟨.inl, fun k => k.elim id fun k => absurd k (h x)⟩
    constructor
    · rw [Bool.eq_iff_iff, cmpO_iff, empty_iff k2, ← key]
      exact forall_congr' fun x => by rw [m1 x, m3 x]
    · rw [Bool.eq_iff_iff, cmpO_iff, empty_iff k2, ← key]
      exact forall_congr' fun x => by rw [m2 x, m3 x]; exact Iff.comm
  hk := fun i r o d e h1 h2 h3 h4 => by
    have k1 := hr i r h1
    have k2 := ho i o h2
    have k3 := hd i d h3
    have k4 := hd (i + 1) e h4
    refine ⟨(cmpO_iff _ _).mpr fun x => (k1 x).trans (k2 x).symm, (cmpO_iff _ _).mpr fun x => (k3 x).trans (k1 x).symm, ?_⟩
    rw [Bool.eq_iff_iff, cmpO_iff, Bool.and_eq_true, empty_iff k3, empty_iff k4]
    constructor
    · intro h
      have h' : ∀ x, S i x ↔ S (i + 1) x := fun x => (k1 x).symm.trans ((h x).trans (k4 x))
      have no : ∀ x, ¬ S i x := fun x hx => by have := hS i (i + 1) x hx ((h' x).mp hx); omega
      exact ⟨no, fun x hx => no x ((h' x).mpr hx)⟩
    · rintro ⟨h5, h6⟩ x
      exact ⟨fun h => absurd ((k1 x).mp h) (h5 x), fun h => absurd ((k4 x).mp h) (h6 x)⟩
  hnd := by have := out_nd hS hr hn 6 (by omega); rwa [List.take_of_length_le (by omega)] at this
  hsix := fun x hx => by
    have h := out_mem hr 6 (by omega) x
    rw [List.take_of_length_le (by omega)] at h
    obtain ⟨j, _, h1⟩ := h.mp hx
    exact hS6 j x h1
  hmem := fun i hi x _ => by rw [out_mem hr i (by omega) x, out_mem hd i (by omega) x]
theorem stepW_ok {W : List (Str × List Str)} {b : Nat} (x : Int) (h1 : ∀ p ∈ W, p.2.length ≤ b) (h2 : ∀ p ∈ W, ∀ y ∈ p.2, y ∈ six) : (∀ p ∈ stepW W x, p.2.length ≤ b + 1) ∧ ∀ p ∈ stepW W x, ∀ y ∈ p.2, y ∈ six := by
  constructor
  · intro p hp
    obtain ⟨q, hq, rfl⟩ := List.mem_map.mp hp
    have := h1 q hq
    split
    · simp; omega
    · omega
  · intro p hp y hy
    obtain ⟨q, hq, rfl⟩ := List.mem_map.mp hp
    split at hy
    · rcases List.mem_append.mp hy with hy | hy
      · exact h2 q hq y hy
      · rw [List.mem_singleton] at hy
        subst hy
        obtain ⟨q0, q1⟩ := mod6_lt (x.fdiv 6)
        exact ltr_mem q0 q1
    · exact h2 q hq y hy
theorem fold_ok : ∀ (xs : List Int) (W : List (Str × List Str)) (b : Nat), (∀ p ∈ W, p.2.length ≤ b) → (∀ p ∈ W, ∀ y ∈ p.2, y ∈ six) → (∀ p ∈ xs.foldl stepW W, p.2.length ≤ b + xs.length) ∧ ∀ p ∈ xs.foldl stepW W, ∀ y ∈ p.2, y ∈ six
  | [], W, b, h1, h2 => ⟨h1, h2⟩
  | x :: xs, W, b, h1, h2 => by
    obtain ⟨k1, k2⟩ := stepW_ok x h1 h2
    obtain ⟨k3, k4⟩ := fold_ok xs (stepW W x) (b + 1) k1 k2
    refine ⟨fun p hp => ?_, k4⟩
    have := k3 p hp
    rw [List.length_cons]; omega
structure WOk (Wa : List (Str × List Str)) : Prop where
  names : Wa.map (·.1) = six
  len : ∀ p ∈ Wa, p.2.length ≤ 9
  cl : ∀ p ∈ Wa, ∀ y ∈ p.2, y ∈ six
theorem wok (xs : List Int) (h : xs.length ≤ 6) : WOk (xs.foldl stepW waits0) := by
  obtain ⟨h1, h2⟩ := fold_ok xs waits0 3 (by decide) (by decide)
  refine ⟨stepW_fold_names xs waits0, fun p hp => ?_, h2⟩
  have := h1 p hp
  omega
theorem WOk.nd {Wa : List (Str × List Str)} (h : WOk Wa) : (Wa.map (·.1)).Nodup := by rw [h.names]; decide
theorem lookup_mem' {R : List (Str × List Str)} {x : Str} {ws : List Str} (h : R.lookup x = some ws) : (x, ws) ∈ R := by
  induction R with
  | nil => cases h
  | cons a R ih =>
    obtain ⟨k, v⟩ := a
    by_cases e : x = k
    · subst e; simp [List.lookup] at h; subst h; exact .head _
    · have : (x == k) = false := by simpa using e
      simp [List.lookup, this] at h
      exact .tail _ (ih h)
theorem WOk.of {Wa : List (Str × List Str)} (h : WOk Wa) (x : Str) : (wOf Wa x).length ≤ 9 ∧ ∀ y ∈ wOf Wa x, y ∈ six := by
  unfold wOf
  cases hl : Wa.lookup x with
  | none => exact ⟨by simp, fun y hy => nomatch hy⟩
  | some ws => exact ⟨h.len _ (lookup_mem' hl), h.cl _ (lookup_mem' hl)⟩
noncomputable def Sx (Wa : List (Str × List Str)) (i : Nat) (x : Str) : Prop := x ∈ six ∧ dn (wOf Wa) (i + 1) x = true ∧ dn (wOf Wa) i x = false
theorem Sx_one {Wa : List (Str × List Str)} : ∀ i j x, Sx Wa i x → Sx Wa j x → i = j := by
  intro i j x ⟨_, h1, h2⟩ ⟨_, h3, h4⟩
  rcases Nat.lt_trichotomy i j with h | h | h
  · have := dn_mono (j := j) h h1; rw [h4] at this; cases this
  · exact h
  · have := dn_mono (j := i) h h3; rw [h2] at this; cases this
theorem wOf_map {f : Str → List Str} : ∀ {ns : List Str} {x : Str}, wOf (ns.map fun k => (k, f k)) x = if x ∈ ns then f x else []
  | [], x => by simp [wOf]
  | n :: ns, x => by
    rw [List.map_cons, wOf_cons, wOf_map]
    by_cases e : x = n
    · subst e; simp
    · simp [e]
theorem suG_entry {g : GS} {p : Str × Int × List Str} (nd : (g.map (·.1)).Nodup) (h : p ∈ g) : suG g p.1 = p.2.2 := by
  induction g with
  | nil => cases h
  | cons a g ih =>
    obtain ⟨k, v⟩ := a
    rw [List.map_cons, List.nodup_cons] at nd
    rcases List.mem_cons.mp h with rfl | h
    · unfold suG; simp [List.lookup]
    · have hne : (p.1 == k) = false := by
        have : p.1 ≠ k := fun e => nd.1 (List.mem_map.mpr ⟨p, h, e⟩)
        simpa using this
      have := ih nd.2 h
      unfold suG at this ⊢
      simp only [List.lookup, hne]; exact this
structure RowsOk (Wa : List (Str × List Str)) (rs : List Rw) : Prop where
  len : rs.length = 6
  nd : (rs.map Rw.nm).Nodup
  mem : ∀ x, x ∈ rs.map Rw.nm ↔ x ∈ six
  ws : ∀ r ∈ rs, r.ws.length ≤ 9
  wm : ∀ r ∈ rs, ∀ y, y ∈ r.ws ↔ y ∈ wOf Wa r.nm
theorem six_of {Wa : List (Str × List Str)} (hW : WOk Wa) {x y : Str} (h : y ∈ wOf Wa x) : x ∈ six := by
  rw [← hW.names]
  exact Classical.byContradiction fun hc => by rw [wOf_none hc] at h; cases h
section
variable {Wa : List (Str × List Str)} {rs : List Rw}
theorem RowsOk.w (h : RowsOk Wa rs) (hW : WOk Wa) (x y : Str) : y ∈ wOf (rs.map fun r => (r.nm, r.ws)) x ↔ y ∈ wOf Wa x := by
  have key : ∀ q : List Rw, (q.map Rw.nm).Nodup → (∀ r ∈ q, r ∈ rs) → (y ∈ wOf (q.map fun r => (r.nm, r.ws)) x ↔ y ∈ wOf Wa x ∧ x ∈ q.map Rw.nm) := by
    intro q
    induction q with
    | nil => intro _ _; simp [wOf]
    | cons r q ih =>
      intro nd hm
      rw [List.map_cons, List.nodup_cons] at nd
      rw [List.map_cons, wOf_cons]
      by_cases e : x = r.nm
      · subst e
        rw [if_pos rfl, h.wm r (hm r (.head _)) y]
        simp
      · rw [if_neg e, ih nd.2 fun r hr => hm r (.tail _ hr)]
        simp [e]
  rw [key rs h.nd fun r hr => hr]
  constructor
  · exact fun k => k.1
  · exact fun k => ⟨k, (h.mem x).mpr (six_of hW k)⟩
theorem RowsOk.gok (h : RowsOk Wa rs) (hW : WOk Wa) : GOk (wOf (rs.map fun r => (r.nm, r.ws))) ((rs.map fun r => (r.nm, r.ws)).map (·.1)) (addAll rs []) := by
  have e : (rs.map fun r => (r.nm, r.ws)).map (·.1) = rs.map Rw.nm := by rw [List.map_map]; rfl
  rw [addAll_addP]
  refine gok_rows (by rw [e]; exact h.nd) fun p hp y hy => ?_
  obtain ⟨r, hr, rfl⟩ := List.mem_map.mp hp
  rw [e, h.mem]
  exact (hW.of r.nm).2 y ((h.wm r hr y).mp hy)
theorem RowsOk.names (h : RowsOk Wa rs) (x : Str) : x ∈ (rs.map fun r => (r.nm, r.ws)).map (·.1) ↔ x ∈ six := by
  have e : (rs.map fun r => (r.nm, r.ws)).map (·.1) = rs.map Rw.nm := by rw [List.map_map]; rfl
  rw [e]; exact h.mem x
theorem RowsOk.wid (h : RowsOk Wa rs) : wid rs ≤ 80 := by
  have : ∀ q : List Rw, (∀ r ∈ q, r.ws.length ≤ 9) → Mine.wid q ≤ 10 * q.length := by
    intro q
    induction q with
    | nil => intro _; simp [Mine.wid]
    | cons r q ih =>
      intro hq
      have h1 := hq r (.head _)
      have h2 := ih fun r hr => hq r (.tail _ hr)
      unfold Mine.wid at h2 ⊢
      rw [List.map_cons, List.sum_cons, List.length_cons]; omega
  have := this rs h.ws
  have := h.len
  omega
theorem RowsOk.hcl (h : RowsOk Wa rs) (hW : WOk Wa) : ∀ p ∈ addAll rs [], ∀ y ∈ p.2.2, y ∈ (addAll rs []).map (·.1) := by
  intro p hp y hy
  have g := h.gok hW
  rw [← suG_entry g.nd hp] at hy
  exact (g.mem y).mpr (g.sub _ y hy)
theorem RowsOk.run (h : RowsOk Wa rs) (hW : WOk Wa) (i : Nat) : Ok1 (itG i (addAll rs [], rdy0 (addAll rs []))) :=
  ok_all (h.gok hW) (by simp [h.len]) i
theorem RowsOk.dn (h : RowsOk Wa rs) (hW : WOk Wa) (i : Nat) (x : Str) : dn (wOf (rs.map fun r => (r.nm, r.ws))) i x = Mine.dn (wOf Wa) i x := dn_congr (h.w hW) i x
theorem RowsOk.bit (h : RowsOk Wa rs) (hW : WOk Wa) {b : Bool} (h1 : b = true → ∃ c ∈ (addAll rs []).map (·.1), Rch (suG (addAll rs [])) c c)
    (h2 : b = false → ∃ fin, FinOk (suG (addAll rs [])) fin ∧ (∀ k ∈ (addAll rs []).map (·.1), k ∈ fin) ∧ fin.length ≤ (addAll rs []).length) : b = true ↔ ∃ n ∈ six, Mine.dn (wOf Wa) 7 n = false := by
  have g := h.gok hW
  have hl : (addAll rs []).length ≤ 6 := by
    have h3 := List.Nodup.length_le_of_subset g.nd (fun x hx => (h.names x).mp ((g.mem x).mp hx))
    rw [List.length_map] at h3
    exact h3
  rw [refused_iff g h1 h2 hl]
  constructor
  · rintro ⟨n, hn, hd⟩; exact ⟨n, (h.names n).mp hn, by rw [← h.dn hW]; exact hd⟩
  · rintro ⟨n, hn, hd⟩; exact ⟨n, (h.names n).mpr hn, by rw [h.dn hW]; exact hd⟩
theorem RowsOk.rounds (h : RowsOk Wa rs) (hW : WOk Wa) {rd : List Rn} (hr : rd.map (fun r : Rn => r.ps.map (·.2)) = (List.range rs.length).map (fun i => (itG i (addAll rs [], rdy0 (addAll rs []))).2)) :
    rd.length = 6 ∧ (∀ i r, rd[i]? = some r → ∀ x, x ∈ stf r ↔ Sx Wa i x) ∧ ∀ r ∈ rd, (stf r).Nodup ∧ r.ps.length ≤ 40 := by
  have hl : rd.length = 6 := by have := congrArg List.length hr; simpa [h.len] using this
  have hst : ∀ i r, rd[i]? = some r → stf r = (itG i (addAll rs [], rdy0 (addAll rs []))).2 := by
    intro i r hi
    have h1 : (rd.map (fun r : Rn => r.ps.map (·.2)))[i]? = some (stf r) := by rw [List.getElem?_map, hi]; rfl
    have hlt : i < rs.length := by have := (List.getElem?_eq_some_iff.mp hi).1; rw [h.len]; omega
    rw [hr, List.getElem?_map, List.getElem?_range hlt] at h1
    exact (Option.some.inj h1).symm
  refine ⟨hl, fun i r hi x => ?_, fun r hrm => ?_⟩
  · have I := ri_all (h.gok hW) i
    rw [hst i r hi, I.mem x, h.names, h.dn hW, h.dn hW]; rfl
  · obtain ⟨i, hi⟩ := List.mem_iff_getElem?.mp hrm
    have I := ri_all (h.gok hW) i
    have e := hst i r hi
    have h1 : (stf r).Nodup := by rw [e]; exact I.nd
    refine ⟨h1, ?_⟩
    have h2 := List.Nodup.length_le_of_subset h1 (fun x hx => (h.names x).mp ((I.mem x).mp (by rw [← e]; exact hx)).1)
    have h3 : (stf r).length = r.ps.length := by simp [stf]
    have h4 : six.length = 6 := rfl
    omega
end
noncomputable def sixr : List Str := ["f", "e", "d", "c", "b", "a"]
theorem sixr_mem (x : Str) : x ∈ sixr ↔ x ∈ six := by simp [sixr, six]; constructor <;> (intro h; rcases h with h | h | h | h | h | h <;> simp [h])
theorem plan_mem {Wa : List (Str × List Str)} {i : Nat} (hi : i < 7) (x : Str) : x ∈ sixr.filter (fun k => decide (lev Wa 7 k = (i : Int))) ↔ Sx Wa i x := by
  rw [List.mem_filter, sixr_mem, decide_eq_true_eq, lev_eq Wa hi]; rfl
theorem max_dn {Wa : List (Str × List Str)} {M : Int} {ns : List Str} (hns : ∀ x, x ∈ ns ↔ x ∈ six) (h1 : M ∈ ns.map fun n => lev Wa 7 n) (h2 : ∀ a ∈ ns.map (fun n => lev Wa 7 n), a ≤ M) : 6 < M ↔ ∃ n ∈ six, dn (wOf Wa) 7 n = false := by
  have key : ∀ n, (lev Wa 7 n ≤ ((6 : Nat) : Int)) ↔ dn (wOf Wa) 7 n = true := fun n => lev_dn Wa 7 6 n (by omega)
  constructor
  · intro h
    obtain ⟨n, hn, e⟩ := List.mem_map.mp h1
    refine ⟨n, (hns n).mp hn, ?_⟩
    cases hd : dn (wOf Wa) 7 n with
    | false => rfl
    | true => have := (key n).mpr hd; omega
  · rintro ⟨n, hn, hd⟩
    have h3 := h2 _ (List.mem_map_of_mem ((hns n).mpr hn))
    have h4 : ¬ (lev Wa 7 n ≤ ((6 : Nat) : Int)) := by rw [key n, hd]; simp
    omega
set_option maxRecDepth 100000
section
variable {prog : Program} {w : World} {A : Around} {E : Value → Shared → Prop} {s B : Shared} {l l' : List (Addr × C)} {env : Env} {mg mb : Str → Option Value}

theorem In.addMany {q : List (Addr × C)} {h' : Heap} {tk : Nat} (D : In B l s) (he : ∀ b o, s.heap.get? b = some o → h'.get? b = some o) (hn : ∀ p ∈ q, s.heap.get? p.1 = none) (hc : ∀ p ∈ q, Has h' p.1 p.2) (nd : (q.map (·.1)).Nodup) :
    In B (q ++ l) { s with heap := h', toks := tk } := by
  have D1 : In B l { s with heap := h', toks := tk } := D.ext he
  refine ⟨D1.keep, fun p hp => ?_, fun p hp => ?_, ?_, D1.gens, D1.drawn, D1.os⟩
  · rcases List.mem_append.mp hp with hp | hp
    · exact hc p hp
    · exact D1.cell p hp
  · rcases List.mem_append.mp hp with hp | hp
    · cases e : B.heap.get? p.1 with
      | none => rfl
      | some o => have := hn p hp; rw [D.keep _ _ e] at this; cases this
    · exact D.new p hp
  · rw [List.map_append]
    refine List.nodup_append.mpr ⟨nd, D.nd, fun a ha b hb => ?_⟩
    rintro rfl
    obtain ⟨p, hp, e1⟩ := List.mem_map.mp ha
    obtain ⟨r, hr, e2⟩ := List.mem_map.mp hb
    obtain ⟨o, ho, _⟩ := D.cell r hr
    have := hn p hp
    rw [e1, ← e2, ho] at this; cases this

theorem r_type {d : Addr} {e : Option Nat} {kvs : List (Str × V)} {Q : Value → Shared → Prop} (D : In B l s) (r : Rd B l d (Dc prog w e kvs)) (k : Q (.type "dict") s) : wpAny (model prog w) A (call (.type "type") [.ref d]) Q E s := by
  obtain ⟨o, ho, _, _, _, hx, _⟩ := D.rd r
  obtain ⟨hh, g, dd, t, os⟩ := s
  have hc : o.cls = .type "dict" := hx.1
  exact call_type_obj ho (by rw [hc]; rfl) (by rw [hc]; exact k)
noncomputable def DIv (d : Addr) : C := fun o => o.cls = .type "dict_items" ∧ o.data = .fields #[.ref d]
theorem r_items {d : Addr} {e : Option Nat} {kvs : List (Str × V)} {Q : Value → Shared → Prop} (D : In B l s) (r : Rd B l d (Dc prog w e kvs)) (hn : (d == sysModules) = false) (k : ∀ v s', In B ((v, DIv d) :: l) s' → Q (.ref v) s') :
    wpAny (model prog w) A (call (.builtin "dict.items") [.ref d]) Q E s := by
  obtain ⟨vs, hd, rfl⟩ := dc_of (D.rd r)
  exact call_meetsIn F.slot_dict_items hd.typeIs F.entry_dict_items (F.args_dict_items_1 _) (meets_dict_items (strKind prog w) d hn) ⟨⟨_, hd⟩, k _ _ (D.push (tk := s.toks) rfl ⟨rfl, rfl⟩)⟩
noncomputable def nRows (ps : List (Addr × Str)) : List (Addr × C) := ps.map fun p => (p.1, Tup [V.str p.2, V.none])
theorem dc_at {h : Heap} {d : Addr} {e : Option Nat} {kvs : List (Str × V)} (x : Has h d (Dc prog w e kvs)) : ∃ vs ep, h.DictAt (strKind prog w) d vs ep ∧ vs.map kv = kvs := by
  obtain ⟨o, ho, es, ep, vs, h1, h2, h3, h4, h5, h6, _⟩ := x
  exact ⟨vs, ep, ⟨o, es, ho, h1, h2, h3, h4, h5⟩, h6⟩
theorem r_listItems {v d : Addr} {e : Option Nat} {xs : List Str} {Q : Value → Shared → Prop} (D : In B l s) (hA : A.handled = none) (hv : (v, DIv d) ∈ l) (r : Rd B l d (Dc prog w e (xs.map fun x => (x, V.none)))) (hl : xs.length ≤ 1000)
    (k : ∀ li ps s', ps.map (·.2) = xs → In B ((li, Lst (ps.map fun p => V.ref p.1)) :: (nRows ps ++ l)) s' → Q (.ref li) s') : wpAny (model prog w) A (call (.type "list") [.ref v]) Q E s := by
  obtain ⟨vs, ep, hd, hkv⟩ := dc_at (D.rd r)
  have hvw : s.heap.IsItemsView v d := let ⟨o, ho, h1, h2⟩ := D.has hv; ⟨o, ho, h1, h2⟩
  have hlen : vs.length = xs.length := by have := congrArg List.length hkv; simpa using this
  refine kdx_call hA hvw hd (by rw [sizeLine_eq]; omega) fun h' tk acc c as hk ho hal hG hacc => ?_
  have hps : (as.zip xs).map (·.1) = as := List.map_fst_zip (by omega)
  have hps2 : (as.zip xs).map (·.2) = xs := List.map_snd_zip (by omega)
  refine k s.heap.objs.size (as.zip xs) _ hps2 ?_
  have hrow : ∀ p ∈ as.zip xs, s.heap.objs.size < p.1 ∧ Has h' p.1 (Tup [V.str p.2, V.none]) := by
    intro p hp
    obtain ⟨j, hj⟩ := List.mem_iff_getElem?.mp hp
    rw [List.getElem?_zip_eq_some] at hj
    obtain ⟨h1, h2⟩ := hj
    refine ⟨hG.above _ (List.mem_of_getElem? h1), ?_⟩
    obtain ⟨key, kk, x, h3, h4, h5⟩ := hG.pairs j _ h1
    obtain ⟨t, rfl⟩ := Value.isStrOf_shape h4
    have h6 : (vs.map kv)[j]? = some (kk, er x) := by rw [List.getElem?_map, h3]; rfl
    rw [hkv, List.getElem?_map, h2] at h6
    have h7 := Option.some.inj h6
    obtain ⟨e1, e2⟩ := Prod.mk.inj h7
    exact ⟨_, h5, _, _, rfl, by show [V.str kk, er x] = _; rw [← e1, ← e2]⟩
  have D1 := D.addMany (q := (s.heap.objs.size, Lst ((as.zip xs).map fun p => V.ref p.1)) :: nRows (as.zip xs)) (h' := h') (tk := tk) hk ?_ ?_ ?_
  · exact D1
  · intro p hp
    rcases List.mem_cons.mp hp with rfl | hp
    · exact Heap.get?_none_of_le (Nat.le_refl _)
    · obtain ⟨q, hq, rfl⟩ := List.mem_map.mp hp
      exact Heap.get?_none_of_le (Nat.le_of_lt (hrow q hq).1)
  · intro p hp
    rcases List.mem_cons.mp hp with rfl | hp
    · refine ⟨_, ho, _, _, rfl, ?_⟩
      rw [hacc]
      have e2 : (as.zip xs).map (fun p => V.ref p.1) = ((as.zip xs).map (·.1)).map V.ref := by rw [List.map_map]; rfl
      rw [e2, hps, List.map_map]; rfl
    · obtain ⟨q, hq, rfl⟩ := List.mem_map.mp hp
      exact (hrow q hq).2
  · rw [List.map_cons, List.nodup_cons]
    have e3 : (nRows (as.zip xs)).map (·.1) = as := by unfold nRows; rw [List.map_map]; exact hps
    rw [e3]
    refine ⟨fun hm => ?_, hG.rise.imp fun h => Nat.ne_of_lt h⟩
    exact absurd (hG.above _ hm) (Nat.lt_irrefl _)
theorem r_listD {d : Addr} {e : Option Nat} {kvs : List (Str × V)} {Q : Value → Shared → Prop} (D : In B l s) (hA : A.handled = none) (r : Rd B l d (Dc prog w e kvs)) (hn : (d == sysModules) = false) (hl : kvs.length ≤ 1000)
    (k : ∀ n s', In B ((n, Lst (kvs.map fun p => V.str p.1)) :: l) s' → Q (.ref n) s') : wpAny (model prog w) A (call (.type "list") [.ref d]) Q E s := by
  obtain ⟨vs, ep, hd, hkv⟩ := dc_at (D.rd r)
  have hlen : vs.length = kvs.length := by have := congrArg List.length hkv; simpa using this
  refine kdl_call (kdl_dict (knd := strKind prog w) (kvs := vs) (ep := ep) hn) hA hd (by rw [sizeLine_eq]; omega) fun h' tk acc c hk ho hI => ?_
  refine k _ _ (D.add hk (Heap.get?_none_of_le (Nat.le_refl _)) ⟨_, ho, _, _, rfl, ?_⟩)
  obtain ⟨h1, h2⟩ := hI
  refine List.ext_getElem? fun j => ?_
  rw [List.getElem?_map, List.getElem?_map, Array.getElem?_toList]
  by_cases hj : j < acc.size
  · rw [Array.getElem?_eq_getElem hj]
    obtain ⟨kk, x, h3, h4⟩ := h2 j _ (Array.getElem?_eq_getElem hj)
    obtain ⟨t, ht⟩ := Value.isStrOf_shape h4
    have h6 : (vs.map kv)[j]? = some (kk, er x) := by rw [List.getElem?_map, h3]; rfl
    rw [hkv] at h6
    rw [h6, ht]; rfl
  · rw [Array.getElem?_eq_none (by omega), List.getElem?_eq_none (by omega)]; rfl

theorem hits_all {s : Shared} (kb : List (Str × Value)) : ∀ (ka : List (Str × Value)), (∀ p ∈ ka, ∃ y, valueAt kb p.1 = some y ∧ SeqAt.EqAt A s p.2 y true) → KeqHits A s kb ka true
  | [], _ => .nil
  | (k, v) :: r, h => by
    obtain ⟨y, h1, h2⟩ := h (k, v) (.head _)
    exact .hit h1 h2 (hits_all kb r fun p hp => h p (.tail _ hp))
theorem r_neD {d d' : Addr} {e e' : Option Nat} {W W' : List Ww} {Q : Value → Shared → Prop} (D : In B l s) (r : Rd B l d (Dc prog w e (wdict W))) (r' : Rd B l d' (Dc prog w e' (wdict W'))) (hn : (d == sysModules) = false) (hn' : (d' == sysModules) = false)
    (rw₁ : ∀ x ∈ W, Rd B l x.a (Lst (x.ws.map V.str))) (rw₂ : ∀ x ∈ W', Rd B l x.a (Lst (x.ws.map V.str))) (nd : (W'.map Ww.nm).Nodup) (h : wabs W' = wabs W) (hu : A.units + 5 < cLine) (k : Q (.bool false) s) :
    wpAny (model prog w) A (compareOp .NotEq (.ref d) (.ref d')) Q E s := by
  obtain ⟨vs, hd, hkv⟩ := dc_of (D.rd r)
  obtain ⟨vs', hd', hkv'⟩ := dc_of (D.rd r')
  have l1 : vs.length = W.length := by have := congrArg List.length hkv; simpa [wdict] using this
  have l2 : vs'.length = W'.length := by have := congrArg List.length hkv'; simpa [wdict] using this
  have l3 : W'.length = W.length := by have := congrArg List.length h; simpa [wabs] using this
  refine keq_ne (knd := strKind prog w) (r := true) hn hn' hd hd' (by omega) (fun _ => hits_all vs' vs fun p hp => ?_) ?_
  · have hp2 : kv p ∈ wdict W := by rw [← hkv]; exact List.mem_map_of_mem hp
    obtain ⟨x, hx, e1⟩ := List.mem_map.mp hp2
    obtain ⟨e2, e3⟩ := Prod.mk.inj e1
    have hx2 : (x.nm, x.ws) ∈ wabs W' := by rw [h]; exact List.mem_map.mpr ⟨x, hx, rfl⟩
    obtain ⟨x', hx', e4⟩ := List.mem_map.mp hx2
    obtain ⟨e5, e6⟩ := Prod.mk.inj e4
    have hlk := wdict_at nd hx'
    rw [← hkv', ← valueAt_kv] at hlk
    obtain ⟨y, hy, hye⟩ := Option.map_eq_some_iff.mp hlk
    have e2 : p.1 = x'.nm := by rw [e5, e2]
    refine ⟨y, by rw [e2]; exact hy, ?_⟩
    rw [er_ref e3.symm, er_ref hye]
    refine eqaRef (rcaList (xs := x.ws.map V.str) (ys := x.ws.map V.str) (D.rd (rw₁ x hx)) ?_ rfl (by show A.units + 1 < _; omega) eqs_str)
    have := D.rd (rw₂ x' hx')
    rw [e6] at this
    exact this
  · rw [show (vs.length == vs'.length) = true from by simp; omega]; exact k
end

section
variable {prog : Program} {w : World} {A : Around} {E : Value → Shared → Prop} {s B : Shared} {l l' : List (Addr × C)} {env : Env} {mg mb : Str → Option Value} {it : Addr} {c : Nat → C} {xs : List V} {nd : Option (Addr × C)}
theorem newEnv_cell {M : Model} {scope : Scope} {globals : Addr} {cl : List (Str × Addr)} {qual x : Str} {Q : Env → Shared → Prop} (D : In B l s)
    (hcs : ∀ n, cellsFrom n scope.names cl = (x, n) :: cl) (hpush : ∀ h, pushCells h scope.names = h.push { cls := .type "cell", data := .cell none })
    (k : ∀ K ce s', In B ((K, Nsp []) :: (ce, CelO none) :: l) s' → Q { scope := scope, locals := K, globals := globals, cells := (x, ce) :: cl, qual := qual, func := none, code := env.code, frame := env.frame, builtins := env.builtins } s') :
    wpAny M A (newFunctionEnv scope globals cl [] qual none .none (some env)) Q E s := by
  simp only [newFunctionEnv, Option.isSome_some, if_true]
  refine wpAny_bind (wpAny_alloc ?_)
  refine wpAny_bind (wpAny_layCells _ (fun name kind cells => by cases hkc : kind == NameKind.cell <;> simp [hkc]) _ _ _ _ ?_)
  rw [show ({ s with heap := s.heap.push { cls := .type "dict", data := .dict #[] } } : Shared).heap.objs.size = s.heap.objs.size + 1 from Heap.size_push .., hcs, hpush]
  have D1 := D.push (c := Nsp []) (o := { cls := .type "dict", data := .dict #[] }) (tk := s.toks) rfl ⟨rfl, #[], 0, rfl, fun e he => by simp at he, fun p hp => nomatch hp⟩
  have D2 := D1.push (c := CelO none) (o := { cls := .type "cell", data := .cell none }) (tk := s.toks) rfl ⟨none, rfl, rfl⟩
  have D3 := D2.mv1
  dsimp only at D3
  rw [Heap.size_push] at D3
  rw [List.forIn_nil]
  exact wpAny_bind (wpAny_pure (wpAny_pure (k _ _ _ D3)))
theorem r_compK1 {elt iter target : Expr} {ifs : List Expr} {scope : Scope} {cl : List (Str × Addr)} {pos : Pos} {x₀ : Str} {RR : Value → Addr → Result → Shared → Prop} (J : Nat → List V → List (Addr × C) → Prop) {l₀ : List (Addr × C)}
    (I : It prog w B it c xs nd) (hA : A.handled = none) (hl : ∀ i ys l, J i ys l → Ned B l nd ∧ ys.length ≤ 1000) (h0 : J 0 [] l₀) (D : In B ((it, c 0) :: l₀) s)
    (turn : ∀ K acc ce o i x ys l s v, xs[i]? = some x → J i ys l → er v = x → In B ((it, c (i + 1)) :: (K, Nsp []) :: (acc, Lst ys) :: (ce, CelO o) :: l) s →
      wpAny (model prog w) A (assign target (compEnvC scope ((x₀, ce) :: cl) K env) v) (fun _ s₂ => wpAny (model prog w) A (tests ifs (compEnvC scope ((x₀, ce) :: cl) K env)) (fun ok s₃ =>
        if ok = true then wpAny (model prog w) A (eval elt (compEnvC scope ((x₀, ce) :: cl) K env)) (fun y s₄ => ∃ m o' l', J (i + 1) (ys ++ [er y]) l' ∧ In B ((it, c (i + 1)) :: (K, Nsp m) :: (acc, Lst ys) :: (ce, CelO o') :: l') s₄) NoE s₃
        else ∃ m o' l', J (i + 1) ys l' ∧ In B ((it, c (i + 1)) :: (K, Nsp m) :: (acc, Lst ys) :: (ce, CelO o') :: l') s₃) NoE s₂) NoE s)
    (done : ∀ K acc ys l s, J xs.length ys l → In B ((K, Nsp []) :: (acc, Lst ys) :: l) s → RR (.ref acc) K (.ok .next) s)
    (hcs : ∀ n, cellsFrom n scope.names cl = (x₀, n) :: cl) (hpush : ∀ h, pushCells h scope.names = h.push { cls := .type "cell", data := .cell none }) (ht : ∀ v, letOwnedTupleGo target (.ref it) v = pure () := by intro _; rfl) :
    wpAny (model prog w) A (newList []) (fun acc s₃ => wpAny (model prog w) A (newFunctionEnv scope env.globals cl [] env.qual none .none (some env)) (fun cenv s₄ =>
      codeAny (model prog w) A (.compStart (.ListComp elt [⟨target, iter, ifs, 0⟩] scope pos) 0 (.ref it) acc { cenv with scope := relabel scope env }) (RR acc cenv.locals) s₄) E s₃) E s := by
  unfold newList
  refine wpAny_newObj_type ?_ (by size_fits)
  have D := (D.push (c := Lst []) (o := { cls := .type "list", data := .seq ([] : List Value).toArray }) (tk := s.toks) rfl ⟨_, _, rfl, rfl⟩)
  generalize hacc : s.heap.objs.size = acc at D ⊢
  refine newEnv_cell (x := x₀) D hcs hpush fun K ce s D => ?_
  have loop : ∀ s, In B ((it, c 0) :: (K, Nsp []) :: (acc, Lst []) :: (ce, CelO none) :: l₀) s → codeAny (model prog w) A (.compLoop (.ListComp elt [⟨target, iter, ifs, 0⟩] scope pos) 0 (.ref it) (.ref acc) (compEnvC scope ((x₀, ce) :: cl) K env)) (RR (.ref acc) K) s := by
    intro s D
    refine codeAny_compLoop_tests (fun n s => ∃ i ys l o, i + n = xs.length ∧ J i ys l ∧ In B ((it, c i) :: (K, Nsp []) :: (acc, Lst ys) :: (ce, CelO o) :: l) s) (fun n s hI => ?_) xs.length ⟨0, [], l₀, none, by omega, h0, D⟩ ht
    obtain ⟨i, ys, l, o, hn, hJ, D⟩ := hI
    obtain ⟨h1, h2⟩ := hl i ys l hJ
    refine I.next hA h1.tail.tail.tail D (by omega) (fun v s hv D => ?_) fun e s D => done K acc ys l s (e ▸ hJ) (D.sublist (.cons_cons _ (.cons_cons _ (.cons _ (.refl _)))))
    have hi : i < xs.length := (List.getElem?_eq_some_iff.mp hv).1
    refine noE (wpAny_mono (turn K acc ce o i _ ys l _ _ hv hJ rfl D) (fun _ s₂ h₂ => wpAny_mono h₂ (fun ok s₃ h₃ => ?_) fun _ _ x => x.elim) fun _ _ x => x)
    cases ok with
    | false =>
      obtain ⟨m, o', l', h4, h5⟩ := h₃
      exact ⟨n - 1, by omega, i + 1, ys, l', o', by omega, h4, h5.weak (.tail (.head rfl)) (Nsp.sub fun p hp => nomatch hp)⟩
    | true =>
      refine noE (wpAny_mono h₃ (fun y s₄ h₄ => ?_) fun _ _ x => x)
      obtain ⟨m, o', l', h4, h5⟩ := h₄
      refine r_append h5 (.tail (.tail (.head rfl))) h2 fun s h5 => ?_
      exact ⟨n - 1, by omega, i + 1, _, l', o', by omega, h4, h5.weak (.tail (.head rfl)) (Nsp.sub fun p hp => nomatch hp)⟩
  have D1 : In B ((it, c 0) :: (K, Nsp []) :: (acc, Lst []) :: (ce, CelO none) :: l₀) s := by
    have D2 : In B ((K, Nsp []) :: (ce, CelO none) :: (acc, Lst []) :: (it, c 0) :: l₀) s := D
    have D3 := D2.perm (List.reverse_perm [(K, Nsp []), (ce, CelO none), (acc, Lst []), (it, c 0)] |>.append_right l₀)
    have D4 : In B ((it, c 0) :: (acc, Lst []) :: (ce, CelO none) :: (K, Nsp []) :: l₀) s := D3
    exact D4.perm (List.Perm.cons _ ((List.perm_middle (l₁ := [(acc, Lst []), (ce, CelO none)])).symm))
  exact codeAny_compStart_list (loop _ D1) (I.self hA (hl 0 [] l₀ h0).1.tail.tail.tail D1 (loop _ D1))
end
set_option maxRecDepth 100000
noncomputable def krows (prog : Program) (w : World) (R : List Ww) : List (Addr × C) := R.map fun r => (r.a, Dc prog w none ((firsts r.ws).map fun x => (x, V.none)))
theorem wdict_snoc (R : List Ww) (r : Ww) : wdict (R ++ [r]) = wdict R ++ [(r.nm, .ref r.a)] := by simp [wdict]
theorem wabs_snoc (R : List Ww) (r : Ww) : wabs (R ++ [r]) = wabs R ++ [(r.nm, r.ws)] := by simp [wabs]
theorem not_take {α : Type} {l : List Ww} (nd : (l.map Ww.nm).Nodup) {i : Nat} {r : Ww} (h : l[i]? = some r) : r.nm ∉ (l.take i).map Ww.nm := by
  have h2 : l.map Ww.nm = (l.take i).map Ww.nm ++ (r :: l.drop (i + 1)).map Ww.nm := by
    rw [← List.map_append, ← drop_cons h, List.take_append_drop]
  rw [h2] at nd
  intro hm
  exact (List.nodup_append.mp nd).2.2 r.nm hm r.nm (.head _) rfl
structure Lp where
  t : Addr
  li : Addr
  ps : List (Addr × Str)
noncomputable def Lp.rows (x : Lp) : List (Addr × C) := (x.t, Tup [.type "dict", .ref x.li]) :: (x.li, Lst (x.ps.map fun p => V.ref p.1)) :: nRows x.ps
noncomputable def rowsT (T : List Lp) : List (Addr × C) := T.flatMap Lp.rows
noncomputable def Lp.sx (x : Lp) : List Str := x.ps.map (·.2)
noncomputable def LpHas (h : Heap) (x : Lp) : Prop := Has h x.t (Tup [.type "dict", .ref x.li]) ∧ Has h x.li (Lst (x.ps.map fun p => V.ref p.1)) ∧ ∀ p ∈ x.ps, Has h p.1 (Tup [V.str p.2, V.none])
theorem rowsT_snoc (T : List Lp) (x : Lp) : rowsT (T ++ [x]).reverse = x.rows ++ rowsT T.reverse := by rw [List.reverse_append]; rfl
theorem lp_has {B s : Shared} {l : List (Addr × C)} {T : List Lp} (D : In B l s) (h : ∀ p ∈ rowsT T, p ∈ l) : ∀ x ∈ T, LpHas s.heap x := by
  intro x hx
  have h2 : ∀ p ∈ x.rows, Has s.heap p.1 p.2 := fun p hp => D.cell p (h p (List.mem_flatMap.mpr ⟨x, hx, hp⟩))
  refine ⟨h2 _ (.head _), h2 _ (.tail _ (.head _)), fun p hp => ?_⟩
  exact h2 (p.1, Tup [V.str p.2, V.none]) (.tail _ (.tail _ (List.mem_map.mpr ⟨p, hp, rfl⟩)))
theorem eqs_lp {A : Around} {s : Shared} {T T' : List Lp} (h1 : ∀ x ∈ T, LpHas s.heap x) (h2 : ∀ x ∈ T', LpHas s.heap x) (h : T.map Lp.sx = T'.map Lp.sx) (hu : A.units + 6 < cLine) : Eqs A s (T.map fun x => V.ref x.t) (T'.map fun x => V.ref x.t) := by
  intro j x y hx hy v v' hv hv'
  rw [List.getElem?_map] at hx hy
  obtain ⟨a, ha, rfl⟩ := Option.map_eq_some_iff.mp hx
  obtain ⟨b, hb, rfl⟩ := Option.map_eq_some_iff.mp hy
  obtain rfl := er_ref hv
  obtain rfl := er_ref hv'
  obtain ⟨a1, a2, a3⟩ := h1 a (List.mem_of_getElem? ha)
  obtain ⟨b1, b2, b3⟩ := h2 b (List.mem_of_getElem? hb)
  have hs : a.sx = b.sx := by
    have e1 : (T.map Lp.sx)[j]? = some a.sx := by rw [List.getElem?_map, ha]; rfl
    rw [h, List.getElem?_map, hb] at e1
    exact (Option.some.inj e1).symm
  have hsl : a.ps.length = b.ps.length := by have := congrArg List.length hs; simpa [Lp.sx] using this
  have inner : Eqs A.in1.in1 s (a.ps.map fun p => V.ref p.1) (b.ps.map fun p => V.ref p.1) := by
    intro q x y hx hy v v' hv hv'
    rw [List.getElem?_map] at hx hy
    obtain ⟨p, hp, rfl⟩ := Option.map_eq_some_iff.mp hx
    obtain ⟨p', hp', rfl⟩ := Option.map_eq_some_iff.mp hy
    obtain rfl := er_ref hv
    obtain rfl := er_ref hv'
    have hpp : p.2 = p'.2 := by
      have e1 : a.sx[q]? = some p.2 := by unfold Lp.sx; rw [List.getElem?_map, hp]; rfl
      rw [hs] at e1
      unfold Lp.sx at e1
      rw [List.getElem?_map, hp'] at e1
      exact (Option.some.inj e1).symm
    refine eqaRef (rcaTup (a3 p (List.mem_of_getElem? hp)) (b3 p' (List.mem_of_getElem? hp')) rfl (by show A.units + 1 + 1 < _; omega) ?_)
    intro z x y hx hy v v' hv hv'
    match z, hx, hy with
    | 0, hx, hy =>
      cases hx; cases hy
      rw [← hpp] at hv'
      exact eqaStr hv hv'
    | 1, hx, hy =>
      cases hx; cases hy
      rw [er_none hv, er_none hv']
      exact SeqAt.EqAt.same _
    | z + 2, hx, _ => simp at hx
  refine eqaRef (rcaTup a1 b1 rfl (by omega) ?_)
  intro z x y hx hy v v' hv hv'
  match z, hx, hy with
  | 0, hx, hy =>
    cases hx; cases hy
    rw [er_type hv, er_type hv']
    exact SeqAt.EqAt.same _
  | 1, hx, hy =>
    cases hx; cases hy
    obtain rfl := er_ref hv
    obtain rfl := er_ref hv'
    exact eqaRef (rcaList a2 b2 (by simpa using hsl) (by show A.units + 1 < _; omega) inner)
  | z + 2, hx, _ => simp at hx
theorem In.back {B s : Shared} (X F : List (Addr × C)) {Z : List (Addr × C)} (D : In B (X ++ (F ++ Z)) s) : In B (F ++ (X ++ Z)) s := D.perm (List.perm_append_comm_assoc F X Z)
theorem rowsR_snoc (P : List Rn) (r : Rn) : rowsR (P ++ [r]).reverse = r.rows ++ rowsR P.reverse := by rw [List.reverse_append]; rfl
theorem rnok_of {B : Shared} {l : List (Addr × C)} {rd : List Rn} (h : ∀ p ∈ rowsR rd, p ∈ l) : ∀ r ∈ rd, RnOk B l r := by
  intro r hr
  have h2 : ∀ p ∈ r.rows, p ∈ l := fun p hp => h p (List.mem_flatMap.mpr ⟨r, hr, hp⟩)
  exact ⟨.inl (h2 _ (.head _)), fun p hp => .inl (h2 (p.1, Lst [V.str p.2]) (.tail _ (List.mem_map.mpr ⟨p, hp, rfl⟩)))⟩
noncomputable def tRows (q : List Rw) : List (Addr × C) := q.map fun r => (r.t, Tup [.str r.nm, .ref r.a])
noncomputable def uRow (r : Rw) : List (Addr × C) := [(r.t, Tup [.str r.nm, .ref r.a]), (r.a, Lst (r.ws.map V.str))]
noncomputable def uRows (q : List Rw) : List (Addr × C) := q.flatMap uRow
theorem uRows_snoc (q : List Rw) (r : Rw) : uRows (q ++ [r]).reverse = uRow r ++ uRows q.reverse := by rw [List.reverse_append]; rfl
theorem rows_of {Wa : List (Str × List Str)} {q : List Rw} {ns : List Str} {f : Str → List Str} (h : q.map (fun r => (r.nm, r.ws)) = ns.map fun k => (k, f k)) (hn : ns.Nodup) (hl : ns.length = 6) (hm : ∀ x, x ∈ ns ↔ x ∈ six) (hf : ∀ k, (f k).length ≤ 9) (hw : ∀ k y, y ∈ f k ↔ y ∈ wOf Wa k) : RowsOk Wa q := by
  have e1 : q.map Rw.nm = ns := by have := congrArg (List.map (·.1)) h; rw [List.map_map, List.map_map] at this; simpa [Function.comp_def] using this
  have e2 : ∀ r ∈ q, r.ws = f r.nm := fun r hr => by
    have h1 : (r.nm, r.ws) ∈ ns.map fun k => (k, f k) := by rw [← h]; exact List.mem_map.mpr ⟨r, hr, rfl⟩
    obtain ⟨k, _, e⟩ := List.mem_map.mp h1
    obtain ⟨e3, e4⟩ := Prod.mk.inj e
    rw [← e4, ← e3]
  refine ⟨?_, by rw [e1]; exact hn, fun x => by rw [e1]; exact hm x, fun r hr => by rw [e2 r hr]; exact hf _, fun r hr y => by rw [e2 r hr]; exact hw _ y⟩
  have := congrArg List.length e1
  rw [List.length_map, hl] at this; exact this
theorem sixr_cps : sixr.map (·.cps.toList) = ("fedcba" : Str).cps.toList.map fun c => [c] := by decide
theorem sixr_ascii : ("fedcba" : Str).cps.all (· < 128) = true := by kernel_rfl
section
variable {prog : Program} {w : World} {A : Around} {E : Value → Shared → Prop} {s B : Shared} {l l' : List (Addr × C)} {env : Env} {mg mb : Str → Option Value}

set_option maxHeartbeats 8000000 in
theorem law_spec {sc : Addr} {xs : List Int} {envs : List Env} {R : Result → Shared → Prop} (G : Gd w mg mb B) (D : In B l s) (hd : A.depth < 350) (hu : A.units < 5000) (hh : A.handled = none) (hfr : A.frames = some envs) (ok : FrOk l envs)
    (rsc : Rd B l sc (Lst (xs.map V.int))) (hlen : xs.length ≤ 900) (k : ∀ s', In B l s' → R (.ok (.ret (.bool true))) s') : codeAny (model prog w) A (.call (.ref 209) ⟨[.ref sc], []⟩) R s := by
  have hnd0 := D.nd
  refine r_enterC (fun L => [("deep", L + 3), ("kept", L + 2), ("told", L + 1)]) [("script", .ref sc)] [("script", .ref sc)] (fun L => [(L + 3, CelO none), (L + 2, CelO none), (L + 1, CelO none)]) G D (by rfl) (by rfl) (by show A.depth < 1000; omega) (by rfl) (fun L => by rfl)
    (fun L => List.forall_mem_cons.mpr ⟨.inl rfl, List.forall_mem_nil _⟩) (List.forall_mem_cons.mpr ⟨rfl, List.forall_mem_nil _⟩) (fun L => by rfl) (fun L => by show (["deep", "kept", "told"] : List Str).Nodup; decide) ?_
  intro L A' s hd' hu' hh' hf' D
  rw [hfr] at hf'
  have hh2 : A'.handled = none := by rw [hh']; exact hh
  have D : In B ((L, Nsp [("script", .ref sc)]) :: (L + 3, CelO none) :: (L + 2, CelO none) :: (L + 1, CelO none) :: l) s := D
  refine noE (wpAny_execs_cons (wpAny_Assign_Name (r_callName G D (by rfl) (by rfl) rfl (wpAny_items_cons (r_sliceTo' (B := B) (a := sc) (xs := xs.map V.int) (i := 6) ?_)))))
  tm_at "nm"
  refine r_int D fun t s D => ⟨t, _, rfl, rfl, D, rsc.up (fun p hp => by tm_at "mem"), by rw [List.length_map]; omega, fun sl s D => ?_⟩
  rw [← List.map_take] at D
  refine wpAny_items_nil ⟨⟨_, D⟩, waits_spec (xs := xs.take 6) G D (by omega) hh2 (.inl (.head _)) (by rw [List.length_take]; omega) fun dw W s hdw hW D => ?_⟩
  refine r_storeC D (by rfl) (by tm_at "up") fun s D => ?_
  have hWok : WOk (wabs W) := by rw [hW]; exact wok _ (by rw [List.length_take]; omega)
  have hnm : W.map Ww.nm = six := by rw [← wabs_nm, hWok.names]
  have ndW : (W.map Ww.nm).Nodup := by rw [hnm]; decide
  have hWl : W.length = 6 := by have := congrArg List.length hnm; rw [List.length_map] at this; exact this
  have hws : ∀ x ∈ W, x.ws.length ≤ 9 := fun x hx => hWok.len (x.nm, x.ws) (List.mem_map.mpr ⟨x, hx, rfl⟩)
  have hcl : ∀ x ∈ W, ∀ y ∈ x.ws, y ∈ W.map Ww.nm := fun x hx y hy => by rw [hnm]; exact hWok.cl (x.nm, x.ws) (List.mem_map.mpr ⟨x, hx, rfl⟩) y hy
  have hwo : ∀ x ∈ W, wOf (wabs W) x.nm = x.ws := fun x hx => wOf_mem ndW hx
  have D : In B ((dw, Dc prog w none (wdict W)) :: (L, Nsp [("script", .ref sc)]) :: (L + 3, CelO none) :: (L + 2, CelO none) :: (L + 1, CelO (some (.ref dw))) :: (wrows W ++ l)) s := by
    have D1 : In B ((dw, Dc prog w none (wdict W)) :: (wrows W ++ ([(L, Nsp [("script", .ref sc)]), (L + 3, CelO none), (L + 2, CelO none), (L + 1, CelO (some (.ref dw)))] ++ l))) s := D.sublist (.cons_cons _ (List.Sublist.append (.refl _) (.cons _ (.refl _))))
    exact D1.perm (List.Perm.cons _ (List.perm_append_comm_assoc [(L, Nsp [("script", .ref sc)]), (L + 3, CelO none), (L + 2, CelO none), (L + 1, CelO (some (.ref dw)))] (wrows W) l))
  obtain ⟨Z, hZ⟩ : ∃ Z, Z = wrows W ++ l := ⟨_, rfl⟩
  rw [← hZ] at D
  have hZw : ∀ x ∈ W, (x.a, Lst (x.ws.map V.str)) ∈ Z := fun x hx => by rw [hZ]; exact List.mem_append_left _ (List.mem_map.mpr ⟨x, hx, rfl⟩)
  have hZl : ∀ p ∈ l, p ∈ Z := fun p hp => by rw [hZ]; exact List.mem_append_right _ hp
  clear hZ
  have hkeys : (wdict W).map (fun p => V.str p.1) = W.map fun r => V.str r.nm := by unfold wdict; rw [List.map_map]; rfl
  obtain ⟨ep, hop⟩ := D.openD (d := dw) (e := none) (kvs := wdict W) (by tm_at "mem")
  have D := hop _ (by tm_at "up")
  clear hop
  -- kept
  refine wpAny_execs_cons (wpAny_Assign_Name (r_dictComp ?_))
  tm_at "nc"
  refine r_iterD D (.inl (by tm_at "mem")) hdw fun it s D => ?_
  obtain ⟨Z1, hZ1⟩ : ∃ Z1, Z1 = (dw, Dc prog w (some ep) (wdict W)) :: (L, Nsp [("script", .ref sc)]) :: (L + 3, CelO none) :: (L + 2, CelO none) :: (L + 1, CelO (some (.ref dw))) :: Z := ⟨_, rfl⟩
  have m1 : (dw, Dc prog w (some ep) (wdict W)) ∈ Z1 := by rw [hZ1]; tm_at "mem"
  have m2 : (L + 1, CelO (some (.ref dw))) ∈ Z1 := by rw [hZ1]; tm_at "mem"
  have m3 : ∀ p ∈ Z, p ∈ Z1 := fun p hp => by rw [hZ1]; tm_at "mem"
  rw [← hZ1] at D
  refine r_compKD (fun i ys l' => ∃ R : List Ww, ys = wdict R ∧ wabs R = wabs (W.take i) ∧ (∀ x ∈ R, (x.a == sysModules) = false) ∧ l' = krows prog w R.reverse ++ Z1) G It.keys hh2 ?_ ⟨[], rfl, rfl, (fun x hx => nomatch hx), rfl⟩ D ?_ ?_ (by decide) (by rfl)
  · rintro i ys _ ⟨R, rfl, h1, h2, rfl⟩
    refine ⟨.inl (List.mem_append_right _ m1), ?_⟩
    have := congrArg List.length h1
    simp [wabs] at this
    rw [wdict_len, this]; omega
  · rintro K acc i y ys _ s v hy ⟨R, rfl, h1, h2, rfl⟩ hv D
    rw [hkeys, List.getElem?_map] at hy
    obtain ⟨r, hr, rfl⟩ := Option.map_eq_some_iff.mp hy
    obtain ⟨tv, rfl⟩ := er_str hv
    have hrm : r ∈ W := List.mem_of_getElem? hr
    have m4 : (r.a, Lst (r.ws.map V.str)) ∈ krows prog w R.reverse ++ Z1 := List.mem_append_right _ (m3 _ (hZw r hrm))
    have m5 : (dw, Dc prog w (some ep) (wdict W)) ∈ krows prog w R.reverse ++ Z1 := List.mem_append_right _ m1
    have m6 : (L + 1, CelO (some (.ref dw))) ∈ krows prog w R.reverse ++ Z1 := List.mem_append_right _ m2
    refine wpAny_assign_Name (r_store D (by tm_at "up") fun s D => ?_)
    refine r_tests0 ?_
    rw [if_pos rfl]
    tm_at "nm"
    refine r_callName G D (by rfl) (by rfl) rfl (wpAny_items_cons (Subscript_ ?_))
    refine wpAny_Name (r_loadC D (by rfl) (.tail _ (.tail _ (.tail _ m6))) ?_)
    tm_at "inv"
    tm_at "nm"
    refine r_idxD D (.inl (.tail _ (.tail _ (.tail _ m5)))) (wdict_at ndW hrm) fun u s hu D => ?_
    obtain rfl := er_ref hu
    refine wpAny_items_nil ⟨⟨_, D⟩, dedup_spec G D (by omega) hh2 (ws := r.ws) (.inl (.tail _ (.tail _ (.tail _ m4)))) (by have := hws r hrm; omega) fun d s hdn D => ?_⟩
    refine ⟨_, _, put "key" (.str r.nm) [], _, rfl, ⟨R ++ [⟨r.nm, d, r.ws⟩], ?_, ?_, ?_, rfl⟩, ?_⟩
    · rw [wdict_snoc, setL_notMem]
      · rfl
      · rw [wdict_nm, ← wabs_nm, h1, wabs_nm]; exact not_take (α := Unit) ndW hr
    · rw [wabs_snoc, h1, take_snoc hr, wabs_snoc]
    · intro x hx
      rcases List.mem_append.mp hx with hx | hx
      · exact h2 x hx
      · rw [List.mem_singleton] at hx; subst hx; exact hdn
    · rw [List.reverse_append]
      exact D.mv3
  rintro K dk ys _ s hdk ⟨R, rfl, hR1, hR2, rfl⟩ D
  refine compD_end D fun s D => ?_
  rw [hZ1] at D
  refine r_storeC D (by rfl) (by tm_at "up") fun s D => ?_
  have hR1 : wabs R = wabs W := by rw [hR1, List.length_map, wdict_len, List.take_length]
  have hRnm : R.map Ww.nm = six := by rw [← wabs_nm, hR1, hWok.names]
  have ndR : (R.map Ww.nm).Nodup := by rw [hRnm]; decide
  have hRW : ∀ r ∈ W, ∃ x ∈ R, x.nm = r.nm ∧ x.ws = r.ws := fun r hr => by
    have h1 : (r.nm, r.ws) ∈ wabs R := by rw [hR1]; exact List.mem_map.mpr ⟨r, hr, rfl⟩
    obtain ⟨x, hx, e⟩ := List.mem_map.mp h1
    obtain ⟨e1, e2⟩ := Prod.mk.inj e
    exact ⟨x, hx, e1, e2⟩
  have hRws : ∀ x ∈ R, x.ws.length ≤ 9 := fun x hx => hWok.len (x.nm, x.ws) (by rw [← hR1]; exact List.mem_map.mpr ⟨x, hx, rfl⟩)
  have D : In B ((dk, Dc prog w none (wdict R)) :: (dw, Dc prog w (some ep) (wdict W)) :: (L, Nsp [("script", .ref sc)]) :: (L + 3, CelO none) :: (L + 2, CelO (some (.ref dk))) :: (L + 1, CelO (some (.ref dw))) :: (krows prog w R ++ Z)) s := by
    refine D.perm (List.Perm.cons _ ?_)
    exact (List.perm_append_comm_assoc [(dw, Dc prog w (some ep) (wdict W)), (L, Nsp [("script", .ref sc)]), (L + 3, CelO none), (L + 2, CelO (some (.ref dk))), (L + 1, CelO (some (.ref dw)))] (krows prog w R) Z).trans (List.Perm.append_right _ ((List.reverse_perm R).map _).symm)
  obtain ⟨Z2, hZ2⟩ : ∃ Z2, Z2 = krows prog w R ++ Z := ⟨_, rfl⟩
  rw [← hZ2] at D
  have hZk : ∀ x ∈ R, (x.a, Dc prog w none ((firsts x.ws).map fun x => (x, V.none))) ∈ Z2 := fun x hx => by rw [hZ2]; exact List.mem_append_left _ (List.mem_map.mpr ⟨x, hx, rfl⟩)
  have hZw : ∀ x ∈ W, (x.a, Lst (x.ws.map V.str)) ∈ Z2 := fun x hx => by rw [hZ2]; exact List.mem_append_right _ (hZw x hx)
  have hZl : ∀ p ∈ l, p ∈ Z2 := fun p hp => by rw [hZ2]; exact List.mem_append_right _ (hZl p hp)
  clear hZ2 hZ1 m1 m2 m3
  -- the dicts
  refine wpAny_execs_cons (wpAny_If (wpAny_isTrue_Compare1 (r_listComp ?_)))
  tm_at "nc"
  refine r_iterD D (.inl (by tm_at "mem")) hdw fun it1 s D => ?_
  obtain ⟨Z3, hZ3⟩ : ∃ Z3, Z3 = (dk, Dc prog w none (wdict R)) :: (dw, Dc prog w (some ep) (wdict W)) :: (L, Nsp [("script", .ref sc)]) :: (L + 3, CelO none) :: (L + 2, CelO (some (.ref dk))) :: (L + 1, CelO (some (.ref dw))) :: Z2 := ⟨_, rfl⟩
  have m1 : (dw, Dc prog w (some ep) (wdict W)) ∈ Z3 := by rw [hZ3]; tm_at "mem"
  have m2 : (L + 1, CelO (some (.ref dw))) ∈ Z3 := by rw [hZ3]; tm_at "mem"
  have m3 : (dk, Dc prog w none (wdict R)) ∈ Z3 := by rw [hZ3]; tm_at "mem"
  have m4 : (L + 2, CelO (some (.ref dk))) ∈ Z3 := by rw [hZ3]; tm_at "mem"
  have m5 : ∀ p ∈ Z2, p ∈ Z3 := fun p hp => by rw [hZ3]; tm_at "mem"
  rw [← hZ3] at D
  refine r_compK (fun i ys l' => ∃ T : List Lp, ys = T.map (fun x => V.ref x.t) ∧ T.map Lp.sx = (W.take i).map (fun x => firsts x.ws) ∧ l' = rowsT T.reverse ++ Z3) It.keys hh2 ?_ ⟨[], rfl, rfl, rfl⟩ D ?_ ?_ (by decide) (by rfl)
  · rintro i ys _ ⟨T, rfl, h1, rfl⟩
    refine ⟨.inl (List.mem_append_right _ m1), ?_⟩
    have := congrArg List.length h1
    rw [List.length_map, List.length_map, List.length_take] at this
    rw [List.length_map]; omega
  · rintro K acc i y ys _ s v hy ⟨T, rfl, h1, rfl⟩ hv D
    rw [hkeys, List.getElem?_map] at hy
    obtain ⟨r, hr, rfl⟩ := Option.map_eq_some_iff.mp hy
    obtain ⟨tv, rfl⟩ := er_str hv
    have hrm : r ∈ W := List.mem_of_getElem? hr
    obtain ⟨x, hxR, hxn, hxw⟩ := hRW r hrm
    have hlk : (wdict R).lookup r.nm = some (.ref x.a) := by rw [← hxn]; exact wdict_at ndR hxR
    have n3 : (dk, Dc prog w none (wdict R)) ∈ rowsT T.reverse ++ Z3 := List.mem_append_right _ m3
    have n4 : (L + 2, CelO (some (.ref dk))) ∈ rowsT T.reverse ++ Z3 := List.mem_append_right _ m4
    have n5 : (x.a, Dc prog w none ((firsts x.ws).map fun x => (x, V.none))) ∈ rowsT T.reverse ++ Z3 := List.mem_append_right _ (m5 _ (hZk x hxR))
    obtain ⟨Y, hY⟩ : ∃ Y, Y = rowsT T.reverse ++ Z3 := ⟨_, rfl⟩
    rw [← hY] at D n3 n4 n5
    refine wpAny_assign_Name (r_store D (by tm_at "up") fun s D => ?_)
    refine r_tests0 ?_
    rw [if_pos rfl]
    refine r_tuple2 (B := B) (wpAny_Call_ofName (wpAny_Name (r_bi G D (by rfl) (by rfl) (callWith_type1 (wpAny_items_cons (Subscript_ ?_))))))
    tm_at "nc"
    tm_at "nm"
    refine r_idxD D (d := dk) (.inl (by tm_at "mem")) hlk fun u s hu D => ?_
    obtain rfl := er_ref hu
    refine wpAny_items_nil (r_type (d := x.a) D (.inl (by tm_at "mem")) ?_)
    refine wpAny_Call_ofName (wpAny_Name (r_bi G D (by rfl) (by rfl) (callWith_type1 (wpAny_items_cons (r_callAttr (Subscript_ ?_))))))
    tm_at "nc"
    tm_at "nm"
    refine r_idxD D (d := dk) (.inl (by tm_at "mem")) hlk fun u s hu D => ?_
    obtain rfl := er_ref hu
    refine r_methDict (d := x.a) D (.inl (by tm_at "mem")) F.slot_dict_items F.type_dict_items (callWith_zero (r_items (d := x.a) D (.inl (by tm_at "mem")) (hR2 x hxR) fun vw s D => wpAny_items_nil ?_))
    refine r_listItems (d := x.a) (xs := firsts x.ws) D hh2 (.head _) (.inl (by tm_at "mem")) (by have := firsts_len x.ws; have := hRws x hxR; omega) fun li ps s hps D => ⟨_, D, fun tp s D => ?_⟩
    refine ⟨put "key" (.str r.nm) [], Lp.rows ⟨tp, li, ps⟩ ++ Y, ⟨T ++ [⟨tp, li, ps⟩], by rw [List.map_append]; rfl, ?_, by rw [rowsT_snoc, hY, List.append_assoc]⟩, ?_⟩
    · rw [List.map_append, h1, take_snoc hr, List.map_append]
      show _ ++ [ps.map (·.2)] = _ ++ [firsts r.ws]
      rw [hps, hxw]
    · have D : In B (Lp.rows ⟨tp, li, ps⟩ ++ ((vw, DIv x.a) :: ([(it1, KIt dw (i + 1) (wdict W).length ep), (K, Nsp (put "key" (.str r.nm) [])), (acc, Lst (T.map fun x : Lp => V.ref x.t))] ++ Y))) s := D
      have D := D.sublist (List.Sublist.append (.refl _) (.cons _ (.refl _)))
      exact D.perm (List.perm_append_comm_assoc [(it1, KIt dw (i + 1) (wdict W).length ep), (K, Nsp (put "key" (.str r.nm) [])), (acc, Lst (T.map fun x : Lp => V.ref x.t))] (Lp.rows ⟨tp, li, ps⟩) Y)
  rintro K a1 ys _ s ⟨T1, rfl, hT1, rfl⟩ D
  rw [hkeys, List.length_map, List.take_length] at hT1
  refine comp_end D fun s D => ?_
  obtain ⟨Z4, hZ4⟩ : ∃ Z4, Z4 = (a1, Lst (T1.map fun x => V.ref x.t)) :: (rowsT T1.reverse ++ Z3) := ⟨_, rfl⟩
  have q1 : (dw, Dc prog w (some ep) (wdict W)) ∈ Z4 := by rw [hZ4]; exact .tail _ (List.mem_append_right _ m1)
  have q2 : (L + 1, CelO (some (.ref dw))) ∈ Z4 := by rw [hZ4]; exact .tail _ (List.mem_append_right _ m2)
  have q5 : ∀ p ∈ Z2, p ∈ Z4 := fun p hp => by rw [hZ4]; exact .tail _ (List.mem_append_right _ (m5 p hp))
  rw [← hZ4] at D
  refine r_listComp ?_
  tm_at "nc"
  refine r_iterD D (.inl (by tm_at "mem")) hdw fun it2 s D => ?_
  refine r_compK (fun i ys l' => ∃ T : List Lp, ys = T.map (fun x => V.ref x.t) ∧ T.map Lp.sx = (W.take i).map (fun x => firsts x.ws) ∧ l' = rowsT T.reverse ++ Z4) It.keys hh2 ?_ ⟨[], rfl, rfl, rfl⟩ D ?_ ?_ (by decide) (by rfl)
  · rintro i ys _ ⟨T, rfl, h1, rfl⟩
    refine ⟨.inl (List.mem_append_right _ q1), ?_⟩
    have := congrArg List.length h1
    rw [List.length_map, List.length_map, List.length_take] at this
    rw [List.length_map]; omega
  · rintro K acc i y ys _ s v hy ⟨T, rfl, h1, rfl⟩ hv D
    rw [hkeys, List.getElem?_map] at hy
    obtain ⟨r, hr, rfl⟩ := Option.map_eq_some_iff.mp hy
    obtain ⟨tv, rfl⟩ := er_str hv
    have hrm : r ∈ W := List.mem_of_getElem? hr
    have n1 : (dw, Dc prog w (some ep) (wdict W)) ∈ rowsT T.reverse ++ Z4 := List.mem_append_right _ q1
    have n2 : (L + 1, CelO (some (.ref dw))) ∈ rowsT T.reverse ++ Z4 := List.mem_append_right _ q2
    have n5 : (r.a, Lst (r.ws.map V.str)) ∈ rowsT T.reverse ++ Z4 := List.mem_append_right _ (q5 _ (hZw r hrm))
    obtain ⟨Y, hY⟩ : ∃ Y, Y = rowsT T.reverse ++ Z4 := ⟨_, rfl⟩
    rw [← hY] at D n1 n2 n5
    refine wpAny_assign_Name (r_store D (by tm_at "up") fun s D => ?_)
    refine r_tests0 ?_
    rw [if_pos rfl]
    refine r_tuple2 (B := B) (wpAny_Name (r_bi G D (by rfl) (by rfl) ?_))
    refine r_listComp (r_callName G D (by rfl) (by rfl) rfl (wpAny_items_cons (Subscript_ ?_)))
    tm_at "nc"
    tm_at "nm"
    refine r_idxD D (d := dw) (.inl (by tm_at "mem")) (wdict_at ndW hrm) fun u s hu D => ?_
    obtain rfl := er_ref hu
    refine wpAny_items_nil ⟨⟨_, D⟩, first_spec (ws := r.ws) G D (by omega) hh2 (.inl (by tm_at "mem")) (by have := hws r hrm; omega) fun nf s D => ?_⟩
    refine r_iter D (.inl (.head _)) fun it3 s D => ?_
    have hfl : (firsts r.ws).length ≤ 9 := by have := firsts_len r.ws; have := hws r hrm; omega
    refine r_compK (fun j ys l' => ∃ ps : List (Addr × Str), ps.map (·.2) = (firsts r.ws).take j ∧ ys = ps.map (fun p => V.ref p.1) ∧ l' = nRows ps.reverse ++ ((nf, Lst ((firsts r.ws).map V.str)) :: (it2, KIt dw (i + 1) (wdict W).length ep) :: (K, Nsp (put "key" (.str r.nm) [])) :: (acc, Lst (T.map fun x => V.ref x.t)) :: Y)) (It.list (xs := (firsts r.ws).map V.str)) hh2 ?_ ⟨[], rfl, rfl, rfl⟩ D ?_ ?_ (by decide) (by rfl)
    · rintro j ys _ ⟨ps, h2, rfl, rfl⟩
      refine ⟨.inl (List.mem_append_right _ (.head _)), ?_⟩
      have := congrArg List.length h2
      rw [List.length_map, List.length_take] at this
      rw [List.length_map]; omega
    · rintro K2 acc2 j y ys _ s v hy ⟨ps, h2, rfl, rfl⟩ hv D
      rw [List.getElem?_map] at hy
      obtain ⟨x, hx, rfl⟩ := Option.map_eq_some_iff.mp hy
      obtain ⟨tx, rfl⟩ := er_str hv
      refine wpAny_assign_Name (r_store D (by tm_at "up") fun s D => ?_)
      refine r_tests0 ?_
      rw [if_pos rfl]
      refine r_tuple2 (B := B) ?_
      tm_at "nm"
      refine wpAny_Constant_none ⟨_, D, fun tq s D => ?_⟩
      refine ⟨put "each" (.str x) [], _, ⟨ps ++ [(tq, x)], ?_, ?_, rfl⟩, ?_⟩
      · rw [List.map_append, h2, take_snoc hx]; rfl
      · rw [List.map_append]; rfl
      · rw [List.reverse_append]
        exact D.mv3
    rintro K2 li ys _ s ⟨ps, h2, rfl, rfl⟩ D
    rw [List.length_map, List.take_length] at h2
    refine comp_end D fun s D => ⟨_, D, fun tp s D => ?_⟩
    refine ⟨put "key" (.str r.nm) [], Lp.rows ⟨tp, li, ps⟩ ++ Y, ⟨T ++ [⟨tp, li, ps⟩], by rw [List.map_append]; rfl, ?_, by rw [rowsT_snoc, hY, List.append_assoc]⟩, ?_⟩
    · rw [List.map_append, h1, take_snoc hr, List.map_append]
      show _ ++ [ps.map (·.2)] = _ ++ [firsts r.ws]
      rw [h2]
    · have D : In B ((tp, Tup [.type "dict", .ref li]) :: (li, Lst (ps.map fun p => V.ref p.1)) :: (nRows ps.reverse ++ ((nf, Lst ((firsts r.ws).map V.str)) :: ([(it2, KIt dw (i + 1) (wdict W).length ep), (K, Nsp (put "key" (.str r.nm) [])), (acc, Lst (T.map fun x : Lp => V.ref x.t))] ++ Y)))) s := D
      have D := D.sublist (.cons_cons _ (.cons_cons _ (List.Sublist.append (.refl _) (.cons _ (.refl _)))))
      have D : In B (Lp.rows ⟨tp, li, ps⟩ ++ ([(it2, KIt dw (i + 1) (wdict W).length ep), (K, Nsp (put "key" (.str r.nm) [])), (acc, Lst (T.map fun x : Lp => V.ref x.t))] ++ Y)) s := D.perm (List.Perm.cons _ (List.Perm.cons _ (List.Perm.append_right _ ((List.reverse_perm ps).map _).symm)))
      exact D.perm (List.perm_append_comm_assoc [(it2, KIt dw (i + 1) (wdict W).length ep), (K, Nsp (put "key" (.str r.nm) [])), (acc, Lst (T.map fun x : Lp => V.ref x.t))] (Lp.rows ⟨tp, li, ps⟩) Y)
  rintro K a2 ys _ s ⟨T2, rfl, hT2, rfl⟩ D
  rw [hkeys, List.length_map, List.take_length] at hT2
  refine comp_end D fun s D => ?_
  have hTT : T1.map Lp.sx = T2.map Lp.sx := by rw [hT1, hT2]
  have hTl : T1.length = T2.length := by have := congrArg List.length hTT; simpa using this
  have hp1 : ∀ p ∈ rowsT T1, p ∈ (a2, Lst (T2.map fun x => V.ref x.t)) :: (rowsT T2.reverse ++ Z4) := fun p hp => by
    refine .tail _ (List.mem_append_right _ ?_)
    rw [hZ4]
    refine .tail _ (List.mem_append_left _ ?_)
    obtain ⟨x, hx, h⟩ := List.mem_flatMap.mp hp
    exact List.mem_flatMap.mpr ⟨x, List.mem_reverse.mpr hx, h⟩
  have hp2 : ∀ p ∈ rowsT T2, p ∈ (a2, Lst (T2.map fun x => V.ref x.t)) :: (rowsT T2.reverse ++ Z4) := fun p hp => by
    refine .tail _ (List.mem_append_left _ ?_)
    obtain ⟨x, hx, h⟩ := List.mem_flatMap.mp hp
    exact List.mem_flatMap.mpr ⟨x, List.mem_reverse.mpr hx, h⟩
  have hp3 : (a1, Lst (T1.map fun x => V.ref x.t)) ∈ (a2, Lst (T2.map fun x => V.ref x.t)) :: (rowsT T2.reverse ++ Z4) := .tail _ (List.mem_append_right _ (by rw [hZ4]; exact .head _))
  refine r_neL D (.inl hp3) (.inl (.head _)) (by simpa using hTl) (by show A'.units < 9900; omega) (eqs_lp (lp_has D hp1) (lp_has D hp2) hTT (by show A'.units + 1 + 6 < 9900; omega)) (r_truth ?_)
  have D : In B Z3 s := by
    have D := D.sublist (.cons _ (List.sublist_append_right _ _))
    rw [hZ4] at D
    exact D.sublist (.cons _ (List.sublist_append_right _ _))
  rw [hZ3] at D
  clear hp1 hp2 hp3
  -- told once more
  refine wpAny_execs_nil (wpAny_execs_cons (wpAny_If (wpAny_isTrue_Compare1 ?_)))
  tm_at "nc"
  refine r_callName G D (by rfl) (by rfl) rfl (wpAny_items_cons (r_sliceTo' (B := B) (a := sc) (xs := xs.map V.int) (i := 6) ?_))
  tm_at "nm"
  refine r_int D fun t s D => ⟨t, _, rfl, rfl, D, rsc.up (fun p hp => by have := hZl p hp; tm_at "mem"), by rw [List.length_map]; omega, fun sl s D => ?_⟩
  rw [← List.map_take] at D
  refine wpAny_items_nil ⟨⟨_, D⟩, waits_spec (xs := xs.take 6) G D (by omega) hh2 (.inl (.head _)) (by rw [List.length_take]; omega) fun dw2 W2 s hdw2 hW2 D => ?_⟩
  have hWW : wabs W2 = wabs W := by rw [hW2, hW]
  have ndW2 : (W2.map Ww.nm).Nodup := by rw [← wabs_nm, hWW, wabs_nm]; exact ndW
  refine r_neD (d := dw) (d' := dw2) (W := W) (W' := W2) D (.inl (by tm_at "mem")) (.inl (.head _)) hdw hdw2 (fun x hx => ?_) (fun x hx => ?_) ndW2 hWW (by show A'.units + 5 < 9900; omega) (r_truth ?_)
  · have := hZw x hx
    exact .inl (by tm_at "mem")
  · exact .inl (.tail _ (List.mem_append_left _ (List.mem_map.mpr ⟨x, hx, rfl⟩)))
  have D := D.sublist (.cons _ ((List.Sublist.cons _ (.refl _)).trans (List.sublist_append_right _ _)))
  -- deep
  refine wpAny_execs_nil (wpAny_execs_cons (wpAny_Assign_Name (r_callName G D (by rfl) (by rfl) rfl (wpAny_items_cons ?_))))
  tm_at "nc"
  have D := D.mv1.weak (a := dw) (c' := Dc prog w none (wdict W)) (.head rfl) Dc.any
  refine wpAny_items_nil ⟨⟨_, D⟩, levels_spec G D (by omega) hh2 hdw (fun x hx => .inl (by have := hZw x hx; tm_at "mem")) ndW (by omega) (fun x hx => by have := hws x hx; omega) hcl fun dl s hdl D => ?_⟩
  rw [hWl] at D
  refine r_storeC D (by rfl) (by tm_at "up") fun s D => ?_
  have D : In B ((dl, Dc prog w none (lvD W (lev (wabs W) 7))) :: (dw, Dc prog w none (wdict W)) :: (dk, Dc prog w none (wdict R)) :: (L, Nsp [("script", .ref sc)]) :: (L + 3, CelO (some (.ref dl))) :: (L + 2, CelO (some (.ref dk))) :: (L + 1, CelO (some (.ref dw))) :: Z2) s := D
  -- plan
  refine wpAny_execs_cons (r_assignLC (wpAny_Call_ofName (wpAny_Name (r_bi G D (by rfl) (by rfl) (callWith_type1 (wpAny_items_cons (r_int D fun t s D => wpAny_items_nil (r_range (n := 7) D (by omega) fun rg s D => ?_))))))))
  refine r_iterR D (by omega) (.head _) fun itR s D => ?_
  have D := D.mv1.drop
  obtain ⟨Z6, hZ6⟩ : ∃ Z6, Z6 = (dl, Dc prog w none (lvD W (lev (wabs W) 7))) :: (dw, Dc prog w none (wdict W)) :: (dk, Dc prog w none (wdict R)) :: (L, Nsp [("script", .ref sc)]) :: (L + 3, CelO (some (.ref dl))) :: (L + 2, CelO (some (.ref dk))) :: (L + 1, CelO (some (.ref dw))) :: Z2 := ⟨_, rfl⟩
  have m1 : (dl, Dc prog w none (lvD W (lev (wabs W) 7))) ∈ Z6 := by rw [hZ6]; tm_at "mem"
  have m2 : (L + 3, CelO (some (.ref dl))) ∈ Z6 := by rw [hZ6]; tm_at "mem"
  rw [← hZ6] at D
  refine r_compK1 (x₀ := "at") (fun i ys l' => ∃ P : List Rn, ys = P.map (fun r => V.ref r.a) ∧ P.map stf = (List.range i).map (fun a : Nat => sixr.filter fun k => decide (lev (wabs W) 7 k = (a : Int))) ∧ i ≤ 7 ∧ l' = rowsR P.reverse ++ Z6) It.range hh2 ?_ ⟨[], rfl, rfl, by omega, rfl⟩ D ?_ ?_ (fun n => by rfl) (fun h => by rfl)
  · rintro i ys _ ⟨P, rfl, h1, h7, rfl⟩
    refine ⟨trivial, ?_⟩
    have := congrArg List.length h1
    rw [List.length_map, List.length_map, List.length_range] at this
    rw [List.length_map]; omega
  · rintro K acc ce o i y ys _ s v hy ⟨P, rfl, h1, h7, rfl⟩ hv D
    have hi : i < 7 := by have := (List.getElem?_eq_some_iff.mp hy).1; simpa using this
    have hy2 : y = V.int i := by
      rw [List.getElem?_map, List.getElem?_range hi] at hy
      exact (Option.some.inj hy).symm
    subst hy2
    obtain ⟨tv, rfl⟩ := er_int hv
    have n1 : (dl, Dc prog w none (lvD W (lev (wabs W) 7))) ∈ rowsR P.reverse ++ Z6 := List.mem_append_right _ m1
    have n2 : (L + 3, CelO (some (.ref dl))) ∈ rowsR P.reverse ++ Z6 := List.mem_append_right _ m2
    obtain ⟨Y, hY⟩ : ∃ Y, Y = rowsR P.reverse ++ Z6 := ⟨_, rfl⟩
    rw [← hY] at D n1 n2
    refine wpAny_assign_Name (r_storeC D (by rfl) (by tm_at "up") fun s D => ?_)
    have D : In B ((itR, RIt 7 (i + 1)) :: (K, Nsp []) :: (acc, Lst (P.map fun r => V.ref r.a)) :: (ce, CelO (some (.int i))) :: Y) s := D
    refine r_tests0 ?_
    rw [if_pos rfl]
    refine r_listComp (r_strC D fun t s D => r_iterS D sixr_ascii fun itS s D => ?_)
    obtain ⟨Y2, hY2⟩ : ∃ Y2, Y2 = (itR, RIt 7 (i + 1)) :: (K, Nsp []) :: (acc, Lst (P.map fun r => V.ref r.a)) :: (ce, CelO (some (.int i))) :: Y := ⟨_, rfl⟩
    have n3 : (dl, Dc prog w none (lvD W (lev (wabs W) 7))) ∈ Y2 := by rw [hY2]; tm_at "mem"
    have n4 : (L + 3, CelO (some (.ref dl))) ∈ Y2 := by rw [hY2]; tm_at "mem"
    have n5 : (ce, CelO (some (.int i))) ∈ Y2 := by rw [hY2]; tm_at "mem"
    rw [← hY2] at D
    refine r_compK (fun j ys l' => ∃ ps : List (Addr × Str), ps.map (·.2) = ((sixr.take j).filter fun k => decide (lev (wabs W) 7 k = (i : Int))) ∧ ys = ps.map (fun p => V.ref p.1) ∧ l' = oneRows ps.reverse ++ Y2) (It.str (ys := sixr) sixr_cps) hh2 ?_ ⟨[], rfl, rfl, rfl⟩ D ?_ ?_ (by decide) (by rfl)
    · rintro j ys _ ⟨ps, h2, rfl, rfl⟩
      refine ⟨trivial, ?_⟩
      have h3 := congrArg List.length h2
      rw [List.length_map] at h3
      have h4 := List.length_filter_le (fun k => decide (lev (wabs W) 7 k = (i : Int))) (sixr.take j)
      have h5 := List.length_take_le' j sixr
      have h6 : sixr.length = 6 := rfl
      rw [List.length_map]; omega
    · rintro K2 acc2 j y ys _ s v hy ⟨ps, h2, rfl, rfl⟩ hv D
      rw [List.getElem?_map] at hy
      obtain ⟨x, hx, rfl⟩ := Option.map_eq_some_iff.mp hy
      obtain ⟨tx, rfl⟩ := er_str hv
      have hxm : x ∈ W.map Ww.nm := by rw [hnm]; exact (sixr_mem x).mp (List.mem_of_getElem? hx)
      refine wpAny_assign_Name (r_store D (by tm_at "up") fun s D => ?_)
      refine r_tests1 (wpAny_isTrue_Compare1 (Subscript_ ?_))
      tm_at "nc"
      tm_at "nm"
      refine r_idxD D (d := dl) (.inl (by tm_at "mem")) (lvD_lookup hxm) fun u s hu D => ?_
      obtain ⟨tu, rfl⟩ := er_int hu
      tm_at "nc"
      refine r_eqI (r_truth ?_)
      have htk : ((sixr.take (j + 1)).filter fun k => decide (lev (wabs W) 7 k = (i : Int))) = ((sixr.take j).filter fun k => decide (lev (wabs W) 7 k = (i : Int))) ++ (if decide (lev (wabs W) 7 x = (i : Int)) then [x] else []) := take_succ_filter _ _ _ _ hx
      by_cases hE : lev (wabs W) 7 x = (i : Int)
      · rw [decide_eq_true hE] at htk
        rw [beq_iff_eq.mpr hE, if_pos rfl]
        refine r_list1 (B := B) ?_
        tm_at "nm"
        refine ⟨_, D, fun n1 s D => ?_⟩
        refine ⟨put "key" (.str x) [], _, ⟨ps ++ [(n1, x)], ?_, ?_, rfl⟩, ?_⟩
        · rw [List.map_append, h2, htk]; rfl
        · rw [List.map_append]; rfl
        · rw [List.reverse_append]
          exact D.mv3
      · rw [decide_eq_false hE] at htk
        rw [show (lev (wabs W) 7 x == (i : Int)) = false from by simpa using hE, if_neg (by decide)]
        refine ⟨_, _, ⟨ps, ?_, rfl, rfl⟩, D⟩
        rw [h2, htk]; simp
    rintro K2 acc2 ys _ s ⟨ps, h2, rfl, rfl⟩ D
    rw [List.length_map, List.take_length] at h2
    refine comp_end D fun s D => ?_
    refine ⟨[], some (.int i), Rn.rows ⟨acc2, ps⟩ ++ Y, ⟨P ++ [⟨acc2, ps⟩], by rw [List.map_append]; rfl, ?_, by omega, by rw [rowsR_snoc, hY, List.append_assoc]⟩, ?_⟩
    · rw [List.map_append, h1, List.range_succ, List.map_append]
      show _ ++ [ps.map (·.2)] = _
      rw [h2]; rfl
    · rw [hY2] at D
      have D : In B (Rn.rows ⟨acc2, ps⟩ ++ ([(itR, RIt 7 (i + 1)), (K, Nsp []), (acc, Lst (P.map fun r : Rn => V.ref r.a)), (ce, CelO (some (.int i)))] ++ Y)) s := D.perm (List.Perm.cons _ (List.Perm.append_right _ ((List.reverse_perm ps).map _).symm))
      exact D.back
  rintro K pl ys _ s ⟨P, rfl, hP, _, rfl⟩ D
  rw [List.length_map, List.length_range] at hP
  rw [hZ6] at D
  refine comp_endU D (by tm_at "up") fun s D => ?_
  have hPl : P.length = 7 := by have := congrArg List.length hP; rw [List.length_map, List.length_map, List.length_range] at this; exact this
  have hPs : ∀ (i : Nat) (r : Rn), P[i]? = some r → stf r = sixr.filter fun k => decide (lev (wabs W) 7 k = (i : Int)) := fun i r hi => by
    have h1 : (P.map stf)[i]? = some (stf r) := by rw [List.getElem?_map, hi]; rfl
    have hlt : i < 7 := by have := (List.getElem?_eq_some_iff.mp hi).1; omega
    rw [hP, List.getElem?_map, List.getElem?_range hlt] at h1
    exact (Option.some.inj h1).symm
  have hPm : ∀ (i : Nat) (r : Rn), P[i]? = some r → ∀ x, x ∈ stf r ↔ Sx (wabs W) i x := fun i r hi x => by
    have hlt : i < 7 := by have := (List.getElem?_eq_some_iff.mp hi).1; omega
    rw [hPs i r hi]; exact plan_mem hlt x
  have hPz : ∀ r ∈ P, r.ps.length ≤ 40 := fun r hr => by
    obtain ⟨i, hi⟩ := List.mem_iff_getElem?.mp hr
    have h1 := congrArg List.length (hPs i r hi)
    have h2 := List.length_filter_le (fun k => decide (lev (wabs W) 7 k = (i : Int))) sixr
    have h3 : (stf r).length = r.ps.length := by simp [stf]
    have h4 : sixr.length = 6 := rfl
    omega
  have D := D.weak (a := L) (c' := Nsp [("plan", .ref pl)]) (by tm_at "up") (Nsp.sub (by tm_at "sub"))
  have D : In B (((pl, Lst (P.map fun r => V.ref r.a)) :: rowsR P.reverse) ++ ([(dl, Dc prog w none (lvD W (lev (wabs W) 7))), (dw, Dc prog w none (wdict W)), (dk, Dc prog w none (wdict R)), (L, Nsp [("plan", .ref pl)]), (L + 3, CelO (some (.ref dl))), (L + 2, CelO (some (.ref dk))), (L + 1, CelO (some (.ref dw)))] ++ Z2)) s := D
  have D := D.back
  obtain ⟨Z8, hZ8⟩ : ∃ Z8, Z8 = ((pl, Lst (P.map fun r : Rn => V.ref r.a)) :: rowsR P.reverse) ++ Z2 := ⟨_, rfl⟩
  rw [← hZ8] at D
  have hplZ : (pl, Lst (P.map fun r : Rn => V.ref r.a)) ∈ Z8 := by rw [hZ8]; exact .head _
  have hPk : ∀ r ∈ P, RnOk B Z8 r := rnok_of fun p hp => by
    rw [hZ8]
    refine List.mem_append_left _ (.tail _ ?_)
    obtain ⟨x, hx, h⟩ := List.mem_flatMap.mp hp
    exact List.mem_flatMap.mpr ⟨x, List.mem_reverse.mpr hx, h⟩
  have hZk : ∀ x ∈ R, (x.a, Dc prog w none ((firsts x.ws).map fun x => (x, V.none))) ∈ Z8 := fun x hx => by rw [hZ8]; exact List.mem_append_right _ (hZk x hx)
  have hZw : ∀ x ∈ W, (x.a, Lst (x.ws.map V.str)) ∈ Z8 := fun x hx => by rw [hZ8]; exact List.mem_append_right _ (hZw x hx)
  have hZl : ∀ p ∈ l, p ∈ Z8 := fun p hp => by rw [hZ8]; exact List.mem_append_right _ (hZl p hp)
  clear hZ8
  have D : In B ((dl, Dc prog w none (lvD W (lev (wabs W) 7))) :: (dw, Dc prog w none (wdict W)) :: (dk, Dc prog w none (wdict R)) :: (L, Nsp [("plan", .ref pl)]) :: (L + 3, CelO (some (.ref dl))) :: (L + 2, CelO (some (.ref dk))) :: (L + 1, CelO (some (.ref dw))) :: Z8) s := D
  -- the one sorter
  refine wpAny_execs_cons (Assign_Tuple (r_callName G D (by rfl) (by rfl) rfl (wpAny_items_cons (r_listComp (r_strC D fun t s D => r_iterS D six_ascii fun itS s D => ?_)))))
  obtain ⟨Z9, hZ9⟩ : ∃ Z9, Z9 = (dl, Dc prog w none (lvD W (lev (wabs W) 7))) :: (dw, Dc prog w none (wdict W)) :: (dk, Dc prog w none (wdict R)) :: (L, Nsp [("plan", .ref pl)]) :: (L + 3, CelO (some (.ref dl))) :: (L + 2, CelO (some (.ref dk))) :: (L + 1, CelO (some (.ref dw))) :: Z8 := ⟨_, rfl⟩
  have m1 : (dw, Dc prog w none (wdict W)) ∈ Z9 := by rw [hZ9]; tm_at "mem"
  have m2 : (L + 1, CelO (some (.ref dw))) ∈ Z9 := by rw [hZ9]; tm_at "mem"
  have m3 : ∀ p ∈ Z8, p ∈ Z9 := fun p hp => by rw [hZ9]; tm_at "mem"
  have m4 : (L, Nsp [("plan", .ref pl)]) ∈ Z9 := by rw [hZ9]; tm_at "mem"
  rw [← hZ9] at D
  refine r_compK (fun j ys l' => ∃ q : List Rw, q.map (fun r => (r.nm, r.ws)) = (six.take j).map (fun k => (k, wOf (wabs W) k)) ∧ (∀ r ∈ q, (r.a, Lst (r.ws.map V.str)) ∈ Z9) ∧ ys = q.map (fun r => V.ref r.t) ∧ l' = tRows q.reverse ++ Z9) (It.str (ys := six) six_cps) hh2 ?_ ⟨[], rfl, (fun r hr => nomatch hr), rfl, rfl⟩ D ?_ ?_ (by decide) (by rfl)
  · rintro j ys _ ⟨q, h1, h2, rfl, rfl⟩
    refine ⟨trivial, ?_⟩
    have h3 := congrArg List.length h1
    rw [List.length_map, List.length_map] at h3
    have h4 := List.length_take_le' j six
    have h5 : six.length = 6 := rfl
    rw [List.length_map]; omega
  · rintro K acc j y ys _ s v hy ⟨q, h1, h2, rfl, rfl⟩ hv D
    rw [List.getElem?_map] at hy
    obtain ⟨x, hx, rfl⟩ := Option.map_eq_some_iff.mp hy
    obtain ⟨tx, rfl⟩ := er_str hv
    obtain ⟨r, hr, hrn, hlk⟩ := wdict_lookup (R := W) (k := x) (by rw [hnm]; exact List.mem_of_getElem? hx)
    refine wpAny_assign_Name (r_store D (by tm_at "up") fun s D => ?_)
    refine r_tests0 ?_
    rw [if_pos rfl]
    refine r_tuple2 (B := B) ?_
    tm_at "nm"
    refine Subscript_ ?_
    tm_at "nc"
    tm_at "nm"
    refine r_idxD D (d := dw) (.inl (by tm_at "mem")) hlk fun u s hu D => ?_
    obtain rfl := er_ref hu
    refine ⟨_, D, fun tp s D => ?_⟩
    refine ⟨put "key" (.str x) [], _, ⟨q ++ [⟨x, tp, r.a, r.ws⟩], ?_, ?_, ?_, rfl⟩, ?_⟩
    · rw [List.map_append, h1, take_snoc hx, List.map_append]
      show _ ++ [(x, r.ws)] = _ ++ [(x, wOf (wabs W) x)]
      rw [← hrn, hwo r hr]
    · intro z hz
      rcases List.mem_append.mp hz with hz | hz
      · exact h2 z hz
      · rw [List.mem_singleton] at hz; subst hz; exact m3 _ (hZw r hr)
    · rw [List.map_append]; rfl
    · rw [List.reverse_append]
      exact D.mv3
  rintro K li ys _ s ⟨q1, hq1, hq1a, rfl, rfl⟩ D
  rw [show (six.map V.str).length = six.length from rfl, List.take_length] at hq1
  refine comp_end D fun s D => ?_
  have O1 : RowsOk (wabs W) q1 := rows_of hq1 (by decide) rfl (fun x => Iff.rfl) (fun k => (hWok.of k).1) fun k y => Iff.rfl
  have e1 : q1.map (fun r => V.ref r.t) = (q1.map Rw.t).map V.ref := by rw [List.map_map]; rfl
  rw [e1] at D
  refine wpAny_items_nil ⟨⟨_, D⟩, rounds_spec (rs := q1) G D (by omega) hh2 hf' ((ok.mono (fun p hp => .tail _ (List.mem_append_right _ (m3 _ (hZl p hp))))).cons rfl rfl (.tail _ (List.mem_append_right _ m4))) (.inl (.head _))
    (fun r hr => .inl (.tail _ (List.mem_append_left _ (List.mem_map.mpr ⟨r, List.mem_reverse.mpr hr, rfl⟩)))) (fun r hr => .inl (.tail _ (List.mem_append_right _ (hq1a r hr)))) O1.wid (O1.hcl hWok) (fun i _ => O1.run hWok i) fun b1 tp1 ro1 rd1 s hb1 hb1' hrd1 D => ?_⟩
  obtain ⟨lr1, hr1, hn1⟩ := O1.rounds hWok hrd1
  have hbit1 := O1.bit hWok hb1 hb1'
  rw [hZ9] at D
  refine r_assign2 D hh2 (.inl (.head _)) fun v1 v2 s h1 h2 D => ?_
  obtain rfl := er_bool h1
  obtain rfl := er_ref h2
  refine r_store D (by tm_at "up") fun s D => ?_
  refine r_store D (by tm_at "up") fun s D => ?_
  have D := D.weak (a := L) (c' := Nsp [("plan", .ref pl), ("once", .bool b1), ("rounds_of", .ref ro1)]) (by tm_at "up") (Nsp.sub (by tm_at "sub"))
  have D := D.sublist (.cons _ (.cons_cons _ (List.Sublist.append (.refl _) (.cons _ (List.sublist_append_right _ _)))))
  have D : In B (((ro1, Lst (rd1.map fun r => V.ref r.a)) :: rowsR rd1) ++ ([(dl, Dc prog w none (lvD W (lev (wabs W) 7))), (dw, Dc prog w none (wdict W)), (dk, Dc prog w none (wdict R)), (L, Nsp [("plan", .ref pl), ("once", .bool b1), ("rounds_of", .ref ro1)]), (L + 3, CelO (some (.ref dl))), (L + 2, CelO (some (.ref dk))), (L + 1, CelO (some (.ref dw)))] ++ Z8)) s := D
  have D := D.back
  obtain ⟨Z10, hZ10⟩ : ∃ Z10, Z10 = ((ro1, Lst (rd1.map fun r : Rn => V.ref r.a)) :: rowsR rd1) ++ Z8 := ⟨_, rfl⟩
  rw [← hZ10] at D
  have hro1 : (ro1, Lst (rd1.map fun r : Rn => V.ref r.a)) ∈ Z10 := by rw [hZ10]; exact .head _
  have hk1 : ∀ r ∈ rd1, RnOk B Z10 r := rnok_of fun p hp => by rw [hZ10]; exact List.mem_append_left _ (.tail _ hp)
  have h810 : ∀ p ∈ Z8, p ∈ Z10 := fun p hp => by rw [hZ10]; exact List.mem_append_right _ hp
  clear hZ10
  have D : In B ((dl, Dc prog w none (lvD W (lev (wabs W) 7))) :: (dw, Dc prog w none (wdict W)) :: (dk, Dc prog w none (wdict R)) :: (L, Nsp [("plan", .ref pl), ("once", .bool b1), ("rounds_of", .ref ro1)]) :: (L + 3, CelO (some (.ref dl))) :: (L + 2, CelO (some (.ref dk))) :: (L + 1, CelO (some (.ref dw))) :: Z10) s := D
  -- the other sorter
  refine wpAny_execs_cons (Assign_Tuple (r_callName G D (by rfl) (by rfl) rfl (wpAny_items_cons (r_listComp (r_strC D fun t s D => r_iterS D sixr_ascii fun itS s D => ?_)))))
  obtain ⟨Z11, hZ11⟩ : ∃ Z11, Z11 = (dl, Dc prog w none (lvD W (lev (wabs W) 7))) :: (dw, Dc prog w none (wdict W)) :: (dk, Dc prog w none (wdict R)) :: (L, Nsp [("plan", .ref pl), ("once", .bool b1), ("rounds_of", .ref ro1)]) :: (L + 3, CelO (some (.ref dl))) :: (L + 2, CelO (some (.ref dk))) :: (L + 1, CelO (some (.ref dw))) :: Z10 := ⟨_, rfl⟩
  have p1 : (dk, Dc prog w none (wdict R)) ∈ Z11 := by rw [hZ11]; tm_at "mem"
  have p2 : (L + 2, CelO (some (.ref dk))) ∈ Z11 := by rw [hZ11]; tm_at "mem"
  have p3 : ∀ p ∈ Z10, p ∈ Z11 := fun p hp => by rw [hZ11]; tm_at "mem"
  have p4 : (L, Nsp [("plan", .ref pl), ("once", .bool b1), ("rounds_of", .ref ro1)]) ∈ Z11 := by rw [hZ11]; tm_at "mem"
  rw [← hZ11] at D
  refine r_compK (fun j ys l' => ∃ q : List Rw, q.map (fun r => (r.nm, r.ws)) = (sixr.take j).map (fun k => (k, firsts (wOf (wabs W) k))) ∧ ys = q.map (fun r => V.ref r.t) ∧ l' = uRows q.reverse ++ Z11) (It.str (ys := sixr) sixr_cps) hh2 ?_ ⟨[], rfl, rfl, rfl⟩ D ?_ ?_ (by decide) (by rfl)
  · rintro j ys _ ⟨q, h1, rfl, rfl⟩
    refine ⟨trivial, ?_⟩
    have h3 := congrArg List.length h1
    rw [List.length_map, List.length_map] at h3
    have h4 := List.length_take_le' j sixr
    have h5 : sixr.length = 6 := rfl
    rw [List.length_map]; omega
  · rintro K acc j y ys _ s v hy ⟨q, h1, rfl, rfl⟩ hv D
    rw [List.getElem?_map] at hy
    obtain ⟨x, hx, rfl⟩ := Option.map_eq_some_iff.mp hy
    obtain ⟨tx, rfl⟩ := er_str hv
    obtain ⟨r, hr, hrn, hlk⟩ := wdict_lookup (R := R) (k := x) (by rw [hRnm]; exact (sixr_mem x).mp (List.mem_of_getElem? hx))
    have hrw : wOf (wabs W) x = r.ws := by rw [← hrn, ← hR1]; exact wOf_mem ndR hr
    have n1 : (dk, Dc prog w none (wdict R)) ∈ uRows q.reverse ++ Z11 := List.mem_append_right _ p1
    have n2 : (L + 2, CelO (some (.ref dk))) ∈ uRows q.reverse ++ Z11 := List.mem_append_right _ p2
    have n3 : (r.a, Dc prog w none ((firsts r.ws).map fun x => (x, V.none))) ∈ uRows q.reverse ++ Z11 := List.mem_append_right _ (p3 _ (h810 _ (hZk r hr)))
    obtain ⟨Y, hY⟩ : ∃ Y, Y = uRows q.reverse ++ Z11 := ⟨_, rfl⟩
    rw [← hY] at D n1 n2 n3
    refine wpAny_assign_Name (r_store D (by tm_at "up") fun s D => ?_)
    refine r_tests0 ?_
    rw [if_pos rfl]
    refine r_tuple2 (B := B) ?_
    tm_at "nm"
    refine wpAny_Call_ofName (wpAny_Name (r_bi G D (by rfl) (by rfl) (callWith_type1 (wpAny_items_cons (Subscript_ ?_)))))
    tm_at "nc"
    tm_at "nm"
    refine r_idxD D (d := dk) (.inl (by tm_at "mem")) hlk fun u s hu D => ?_
    obtain rfl := er_ref hu
    have hfl : (firsts r.ws).length ≤ 9 := by have := firsts_len r.ws; have := hRws r hr; omega
    refine wpAny_items_nil (r_listD (d := r.a) D hh2 (.inl (by tm_at "mem")) (hR2 r hr) (by rw [List.length_map]; omega) fun n s D => ⟨_, D, fun tp s D => ?_⟩)
    have e2 : ((firsts r.ws).map fun x => (x, V.none)).map (fun p => V.str p.1) = (firsts r.ws).map V.str := by rw [List.map_map]; rfl
    rw [e2] at D
    refine ⟨put "key" (.str x) [], uRow ⟨x, tp, n, firsts r.ws⟩ ++ Y, ⟨q ++ [⟨x, tp, n, firsts r.ws⟩], ?_, by rw [List.map_append]; rfl, by rw [uRows_snoc, hY, List.append_assoc]⟩, ?_⟩
    · rw [List.map_append, h1, take_snoc hx, List.map_append]
      show _ ++ [(x, firsts r.ws)] = _ ++ [(x, firsts (wOf (wabs W) x))]
      rw [hrw]
    · have D : In B (uRow ⟨x, tp, n, firsts r.ws⟩ ++ ([(itS, SIt "fedcba" t (j + 1)), (K, Nsp (put "key" (.str x) [])), (acc, Lst (q.map fun r : Rw => V.ref r.t))] ++ Y)) s := D
      exact D.back
  rintro K li2 ys _ s ⟨q2, hq2, rfl, rfl⟩ D
  rw [show (sixr.map V.str).length = sixr.length from rfl, List.take_length] at hq2
  refine comp_end D fun s D => ?_
  have O2 : RowsOk (wabs W) q2 := rows_of hq2 (by decide) rfl sixr_mem (fun k => Nat.le_trans (firsts_len _) (hWok.of k).1) fun k y => firsts_mem _ y
  have e2 : q2.map (fun r => V.ref r.t) = (q2.map Rw.t).map V.ref := by rw [List.map_map]; rfl
  rw [e2] at D
  have hur : ∀ r ∈ q2, ∀ p ∈ uRow r, p ∈ uRows q2.reverse := fun r hr p hp => List.mem_flatMap.mpr ⟨r, List.mem_reverse.mpr hr, hp⟩
  refine wpAny_items_nil ⟨⟨_, D⟩, rounds_spec (rs := q2) G D (by omega) hh2 hf' ((ok.mono (fun p hp => .tail _ (List.mem_append_right _ (p3 _ (h810 _ (hZl p hp)))))).cons rfl rfl (.tail _ (List.mem_append_right _ p4))) (.inl (.head _))
    (fun r hr => .inl (.tail _ (List.mem_append_left _ (hur r hr _ (.head _))))) (fun r hr => .inl (.tail _ (List.mem_append_left _ (hur r hr _ (.tail _ (.head _)))))) O2.wid (O2.hcl hWok) (fun i _ => O2.run hWok i) fun b2 tp2 ro2 rd2 s hb2 hb2' hrd2 D => ?_⟩
  obtain ⟨lr2, hr2, hn2⟩ := O2.rounds hWok hrd2
  have hbit2 := O2.bit hWok hb2 hb2'
  rw [hZ11] at D
  refine r_assign2 D hh2 (.inl (.head _)) fun v1 v2 s h1 h2 D => ?_
  obtain rfl := er_bool h1
  obtain rfl := er_ref h2
  refine r_store D (by tm_at "up") fun s D => ?_
  refine r_store D (by tm_at "up") fun s D => ?_
  have D := D.weak (a := L) (c' := Nsp [("plan", .ref pl), ("once", .bool b1), ("rounds_of", .ref ro1), ("again", .bool b2), ("others_of", .ref ro2)]) (by tm_at "up") (Nsp.sub (by tm_at "sub"))
  have D := D.sublist (.cons _ (.cons_cons _ (List.Sublist.append (.refl _) (.cons _ (List.sublist_append_right _ _)))))
  have D : In B (((ro2, Lst (rd2.map fun r => V.ref r.a)) :: rowsR rd2) ++ ([(dl, Dc prog w none (lvD W (lev (wabs W) 7))), (dw, Dc prog w none (wdict W)), (dk, Dc prog w none (wdict R)), (L, Nsp [("plan", .ref pl), ("once", .bool b1), ("rounds_of", .ref ro1), ("again", .bool b2), ("others_of", .ref ro2)]), (L + 3, CelO (some (.ref dl))), (L + 2, CelO (some (.ref dk))), (L + 1, CelO (some (.ref dw)))] ++ Z10)) s := D
  have D := D.back
  obtain ⟨Z12, hZ12⟩ : ∃ Z12, Z12 = ((ro2, Lst (rd2.map fun r : Rn => V.ref r.a)) :: rowsR rd2) ++ Z10 := ⟨_, rfl⟩
  rw [← hZ12] at D
  have hro2 : (ro2, Lst (rd2.map fun r : Rn => V.ref r.a)) ∈ Z12 := by rw [hZ12]; exact .head _
  have hk2 : ∀ r ∈ rd2, RnOk B Z12 r := rnok_of fun p hp => by rw [hZ12]; exact List.mem_append_left _ (.tail _ hp)
  have h1012 : ∀ p ∈ Z10, p ∈ Z12 := fun p hp => by rw [hZ12]; exact List.mem_append_right _ hp
  clear hZ12
  have D : In B ((dl, Dc prog w none (lvD W (lev (wabs W) 7))) :: (dw, Dc prog w none (wdict W)) :: (dk, Dc prog w none (wdict R)) :: (L, Nsp [("plan", .ref pl), ("once", .bool b1), ("rounds_of", .ref ro1), ("again", .bool b2), ("others_of", .ref ro2)]) :: (L + 3, CelO (some (.ref dl))) :: (L + 2, CelO (some (.ref dk))) :: (L + 1, CelO (some (.ref dw))) :: Z12) s := D
  have hbb : b1 = b2 := Bool.eq_iff_iff.mpr (hbit1.trans hbit2.symm)
  refine wpAny_execs_cons (wpAny_If (isTrue_or (wpAny_isTrue_Compare1 ?_)))
  tm_at "nm"
  tm_at "nm"
  refine r_isNotB (r_truth ?_)
  rw [show (b1 != b2) = false from by rw [hbb]; simp]
  refine isTrue_or (wpAny_isTrue_Compare1 ?_)
  tm_at "nm"
  obtain ⟨ep2, hop⟩ := D.openD (d := dl) (e := none) (kvs := lvD W (lev (wabs W) 7)) (by tm_at "mem")
  have D := hop _ (by tm_at "up")
  clear hop
  have hkeys2 : (lvD W (lev (wabs W) 7)).map (fun p => V.str p.1) = W.map fun r => V.str r.nm := by unfold lvD; rw [List.map_map]; rfl
  refine wpAny_Compare1 (r_callB1 G D (by rfl) (by rfl) (r_listComp ?_))
  tm_at "nc"
  refine r_iterD D (.inl (by tm_at "mem")) hdl fun itM s D => ?_
  refine r_compK (fun i ys l' => ys = (W.take i).map (fun x => V.int (lev (wabs W) 7 x.nm)) ∧ l' = (dl, Dc prog w (some ep2) (lvD W (lev (wabs W) 7))) :: (dw, Dc prog w none (wdict W)) :: (dk, Dc prog w none (wdict R)) :: (L, Nsp [("plan", .ref pl), ("once", .bool b1), ("rounds_of", .ref ro1), ("again", .bool b2), ("others_of", .ref ro2)]) :: (L + 3, CelO (some (.ref dl))) :: (L + 2, CelO (some (.ref dk))) :: (L + 1, CelO (some (.ref dw))) :: Z12) It.keys hh2 ?_ ⟨rfl, rfl⟩ D ?_ ?_ (by decide) (by rfl)
  · rintro i ys _ ⟨rfl, rfl⟩
    refine ⟨.inl (by tm_at "mem"), ?_⟩
    rw [List.length_map, List.length_take]; omega
  · rintro K acc i y ys _ s v hy ⟨rfl, rfl⟩ hv D
    rw [hkeys2, List.getElem?_map] at hy
    obtain ⟨r, hr, rfl⟩ := Option.map_eq_some_iff.mp hy
    obtain ⟨tv, rfl⟩ := er_str hv
    refine wpAny_assign_Name (r_store D (by tm_at "up") fun s D => ?_)
    refine r_tests0 ?_
    rw [if_pos rfl]
    refine Subscript_ ?_
    tm_at "nc"
    tm_at "nm"
    refine r_idxD D (d := dl) (.inl (by tm_at "mem")) (lvD_lookup (List.mem_map_of_mem (List.mem_of_getElem? hr))) fun u s hu D => ?_
    refine ⟨_, _, ⟨?_, rfl⟩, D⟩
    rw [take_snoc hr, List.map_append, hu]; rfl
  rintro K mm ys _ s ⟨rfl, rfl⟩ D
  rw [hkeys2, List.length_map, List.take_length] at D
  refine comp_end D fun s D => ?_
  have e3 : W.map (fun x => V.int (lev (wabs W) 7 x.nm)) = ((W.map Ww.nm).map fun n => lev (wabs W) 7 n).map V.int := by rw [List.map_map, List.map_map]; rfl
  rw [e3] at D
  refine r_max D hh2 (.inl (.head _)) (by rw [List.length_map, List.length_map]; omega) fun M t s hM1 hM2 D => ?_
  have D := D.drop
  have hMd : decide (6 < M) = b1 := by
    rw [Bool.eq_iff_iff, decide_eq_true_eq, hbit1]
    exact max_dn (fun x => by rw [hnm]) hM1 hM2
  refine r_int D fun t6 s D => PyProof.Rows.gt_int ?_
  rw [hMd]
  refine r_isNotB (r_truth ?_)
  rw [show (b1 != b1) = false from by simp]
  refine isTrue_or_nil ?_
  refine wpAny_execs_nil (wpAny_execs_cons (wpAny_Return_some (r_callName G D (by rfl) (by rfl) rfl (wpAny_items_cons ?_))))
  tm_at "nm"
  refine wpAny_items_cons ?_
  tm_at "nm"
  refine wpAny_items_cons ?_
  tm_at "nm"
  have TO : ToldOk rd1 rd2 P := told_ok (S := Sx (wabs W)) Sx_one (fun i x h => h.1) hr1 hr2 hPm (fun r hr => (hn1 r hr).1) lr1 hPl
  have h12 : ∀ p ∈ Z12, p ∈ (dl, Dc prog w (some ep2) (lvD W (lev (wabs W) 7))) :: (dw, Dc prog w none (wdict W)) :: (dk, Dc prog w none (wdict R)) :: (L, Nsp [("plan", .ref pl), ("once", .bool b1), ("rounds_of", .ref ro1), ("again", .bool b2), ("others_of", .ref ro2)]) :: (L + 3, CelO (some (.ref dl))) :: (L + 2, CelO (some (.ref dk))) :: (L + 1, CelO (some (.ref dw))) :: Z12 := fun p hp => by tm_at "mem"
  refine wpAny_items_nil ⟨⟨_, D⟩, told_spec (rs := rd1) (os := rd2) (ds := P) G D (by omega) (by omega) hh2 hf' ((ok.mono (fun p hp => h12 _ (h1012 _ (h810 _ (hZl p hp))))).cons rfl rfl (by tm_at "mem"))
    (.inl (h12 _ (h1012 _ hro1))) (.inl (h12 _ hro2)) (.inl (h12 _ (h1012 _ (h810 _ hplZ)))) (fun r hr => (hk1 r hr).up fun p hp => h12 _ (h1012 _ hp)) (fun r hr => (hk2 r hr).up h12) (fun r hr => (hPk r hr).up fun p hp => h12 _ (h1012 _ (h810 _ hp)))
    lr1 lr2 hPl (fun r hr => (hn1 r hr).2) (fun r hr => (hn2 r hr).2) hPz TO.h0 TO.hk TO.hnd TO.hsix TO.hmem fun s D => ?_⟩
  exact k s (D.sub (fun p hp => h12 _ (h1012 _ (h810 _ (hZl p hp)))) hnd0)
end
set_option maxRecDepth 100000
theorem in_self (B : Shared) : In B [] B := ⟨fun _ _ h => h, (fun p hp => nomatch hp), (fun p hp => nomatch hp), List.nodup_nil, rfl, rfl, rfl⟩
theorem law_at (w : World) : nsIn (KF w) mainGlobals "law" = some (some (.ref 209)) := by rfl
theorem of_ints {vs : List Value} {ns : List Int} (h : IntsAre vs ns) : vs.map er = ns.map V.int := by
  induction h with
  | nil => rfl
  | cons y t _ ih => rw [List.map_cons, List.map_cons, ih]; rfl
set_option maxHeartbeats 4000000 in
theorem whole : PySem.Challenge.rw_nq0185_01.Holds := by
  refine Mine.hd ?_
  intro w s₀ s₁ mg mb G Y fa o pm cd doc dV kV ho hd hcd hD hmg hg args vals as hpre hlay hrd hwl hlo
  have KX : (Mine.KF w).In s₁.heap := kIn_of Y
  clear hd hD hcd
  wrow_args hpre hlay hrd hwl hlo
  rename_i ns _ _ _ _ _ _ _ sc vs _ hL _ hw _ hI _ hc _
  have hG : Gd w mg mb s₁ := ⟨KX, G.T.g, G.T.b, G.T.nolimit, G.T.builtins⟩
  have h1 : mg "law" = some (.ref 209) := mg_of KX G.T.g (law_at w)
  have h2 : mg "law" = some (.ref fa) := hmg
  have h3 : fa = 209 := by rw [h1] at h2; exact (Value.ref.inj (Option.some.inj h2)).symm
  clear hmg ho Y
  subst h3
  have hsc : Has s₁.heap sc (Lst (ns.map V.int)) := by
    change Well _ _ _ (WData.list _) at hw
    cases hw with
    | list hx _ =>
      obtain ⟨o', ho', hcl, n, hda⟩ := hL
      rw [hx] at ho'
      have e := Option.some.inj ho'
      subst e
      refine ⟨_, hx, _, _, rfl, ?_⟩
      have e2 := (Data.seq.inj hda).1
      rw [e2]
      exact of_ints hI
  show wpAny _ callerA (call (.ref 209) [.ref sc]) _ _ s₁
  refine wpAny_call (law_spec (B := s₁) (l := []) (envs := []) (xs := ns) hG (in_self s₁) (by decide +kernel) (by decide) rfl rfl (fun e he => nomatch he) (.inr hsc) (by omega) fun s' D => ?_)
  refine GoodW.toG ⟨.inl ⟨.bool true, .bool true, [], rfl, ?_, .bool true, ?_, ?_⟩, D.keep, D.os, D.gens.trans hg⟩
  · intro cls; rfl
  · show (WShape.has [] (WData.bool true) .bool && (WTm.eq .res (.lit (.bool true))).holds [] _) = true
    rw [holdsW_of_value (w_eq_bool (w_res rfl) w_lit)]
    rw [show (WShape.has [] (WData.bool true) .bool) = true from by with_unfolding_all rfl]
    rfl
  · intro _; exact ⟨List.nodup_nil, fun a ha => nomatch ha⟩
end Mine
theorem PySem.Challenge.cw_nq0185_01_holds : PySem.Challenge.rw_nq0185_01.Holds :=
  Mine.whole
